/- The writer of words: a word. -/
import Derived.Test.YthgbfmcicpmepaaDoorBW1
namespace Go.Proofs.YthgbfmcicpmepaaDoor.V
open Go.RowKit Go.Proofs.YthgbfmcicpmepaaDoor.B Go.Proofs.YthgbfmcicpmepaaDoorW.PrintWords Go.Proofs.YthgbfmcicpmepaaDoorW.PrintLast Go.Proofs.YthgbfmcicpmepaaDoorW.PrintMore
set_option linter.unusedVariables false
set_option linter.unusedSimpArgs false
/-- A writer of words: its block, at a byte of the row. -/
def Ws (w : World) (g b C L s o : Nat) (len : Int) (cw : Nat) : Prop := ∃ A, (s < C → A = some ⟨b, s, none⟩) ∧ w.heap[g]? = some (.cells #[.slice A (L - s) (C - s), .int .i64 (o : Int), .int .i64 len, .int .u64 ((2 ^ o - 1 : Nat) : Int), .int .u64 (cw : Int)] 50 (0, 0))
/-- The parts of a word, or of a byte, that lies across two. -/
theorem parts (W o x a nx : Nat) (ho : o ≤ W) (hx : x < 2 ^ W) (ha : a < 2 ^ o) (hnx : nx < 2 ^ W) :
    x / 2 ^ (W - o) < 2 ^ o ∧ (x / 2 ^ (W - o) + 2 ^ o * (x % 2 ^ (W - o))) / 2 ^ o = x % 2 ^ (W - o) ∧ (x / 2 ^ (W - o) + 2 ^ o * (x % 2 ^ (W - o))) % 2 ^ o = x / 2 ^ (W - o) ∧
    x / 2 ^ (W - o) + 2 ^ o * (x % 2 ^ (W - o)) < 2 ^ W ∧ a + 2 ^ o * (x % 2 ^ (W - o)) < 2 ^ W ∧ x / 2 ^ (W - o) + 2 ^ o * (nx / 2 ^ o) < 2 ^ W := by
  have e : 2 ^ o * 2 ^ (W - o) = 2 ^ W := by rw [← Nat.pow_add, show o + (W - o) = W by omega]
  have lq : x / 2 ^ (W - o) < 2 ^ o := by
    rw [Nat.div_lt_iff_lt_mul (Nat.two_pow_pos _), e]
    exact hx
  have lm : x % 2 ^ (W - o) < 2 ^ (W - o) := Nat.mod_lt _ (Nat.two_pow_pos _)
  have ln : nx / 2 ^ o < 2 ^ (W - o) := by
    rw [Nat.div_lt_iff_lt_mul (Nat.two_pow_pos _), Nat.mul_comm, e]
    exact hnx
  have lt : ∀ p q, p < 2 ^ o → q < 2 ^ (W - o) → p + 2 ^ o * q < 2 ^ W := fun p q hp hq => by
    have : 2 ^ o * (q + 1) ≤ 2 ^ W := by rw [← e]; exact Nat.mul_le_mul_left _ hq
    rw [Nat.mul_add] at this
    omega
  refine ⟨lq, ?_, ?_, lt _ _ lq lm, lt _ _ ha lm, lt _ _ lq ln⟩
  · rw [Nat.add_mul_div_left _ _ (Nat.two_pow_pos o), Nat.div_eq_of_lt lq, Nat.zero_add]
  · rw [Nat.add_mul_mod_self_left, Nat.mod_eq_of_lt lq]
set_option maxHeartbeats 8000000 in
theorem word19 (g b C L : Nat) (M : Nat → Nat) (s o x cw : Nat) (len : Int) (w : World) (hO : Own w b C L M) (hg : b ≠ g) (h : Ws w g b C L s o len cw) (hL : L ≤ C) (hs : s + 16 ≤ L) (h0 : 0 < o) (ho : o < 8) (hE : L < 2 ^ 40) (hx : x < 2 ^ 64) (hcw : cw < 2 ^ 64) (hlow : cw % 2 ^ o = pk M (8 * s) o) :
    Calls Tryd.prog 19 #[.pointer (some ⟨g, 0, none⟩), .int .u64 (x : Int)] w fun e w' => e = .returned (.tuple #[]) ∧ Tch (fun k => k = g ∨ k = b) w w' ∧ ∃ M' cw', Own w' b C L M' ∧ Upd M (8 * s + o) 64 x M' ∧ Ws w' g b C L (s + 8) o len cw' ∧ cw' < 2 ^ 64 ∧ cw' % 2 ^ o = pk M' (8 * (s + 8)) o := by
  obtain ⟨A, hA, hb⟩ := h
  obtain rfl := hA (by omega)
  clear hA
  obtain ⟨mk, hmk⟩ : ∃ mk : Nat, mk = 2 ^ o - 1 := ⟨_, rfl⟩
  rw [← hmk] at hb
  -- the numbers
  have hnx := pk_lt M (8 * (s + 8)) 64
  obtain ⟨nx, hnxe⟩ : ∃ nx, nx = pk M (8 * (s + 8)) 64 := ⟨_, rfl⟩
  rw [← hnxe] at hnx
  have hal : cw % 2 ^ o < 2 ^ o := Nat.mod_lt _ (Nat.two_pow_pos _)
  obtain ⟨p1, p2, p3, p4, p5, p6⟩ := parts 64 o x (cw % 2 ^ o) nx (by omega) hx hal hnx
  obtain ⟨r, hr⟩ : ∃ r, r = x / 2 ^ (64 - o) + 2 ^ o * (x % 2 ^ (64 - o)) := ⟨_, rfl⟩
  rw [← hr] at p2 p3 p4
  obtain ⟨c1, hc1⟩ : ∃ c1, c1 = cw % 2 ^ o + 2 ^ o * (x % 2 ^ (64 - o)) := ⟨_, rfl⟩
  obtain ⟨n1, hn1⟩ : ∃ n1, n1 = x / 2 ^ (64 - o) + 2 ^ o * (nx / 2 ^ o) := ⟨_, rfl⟩
  rw [← hc1] at p5
  rw [← hn1] at p6
  obtain ⟨y1, hy1⟩ : ∃ y1 : Nat, y1 = 2 ^ o * (x % 2 ^ (64 - o)) := ⟨_, rfl⟩
  obtain ⟨y2, hy2⟩ : ∃ y2 : Nat, y2 = x / 2 ^ (64 - o) := ⟨_, rfl⟩
  obtain ⟨y3, hy3⟩ : ∃ y3 : Nat, y3 = cw % 2 ^ o := ⟨_, rfl⟩
  obtain ⟨y4, hy4⟩ : ∃ y4 : Nat, y4 = 2 ^ o * (nx / 2 ^ o) := ⟨_, rfl⟩
  have e1 : IntKind.u64.wrap ((x : Int) * 2 ^ o) = (y1 : Int) := by
    rw [hy1, show (x : Int) * 2 ^ o = ((x * 2 ^ o : Nat) : Int) by rw [Int.natCast_mul, Int.natCast_pow]; rfl]
    have : x * 2 ^ o % 2 ^ 64 = 2 ^ o * (x % 2 ^ (64 - o)) := by
      rw [Nat.mul_comm, show (2 : Nat) ^ 64 = 2 ^ o * 2 ^ (64 - o) by rw [← Nat.pow_add, show o + (64 - o) = 64 by omega], Nat.mul_mod_mul_left]
    rw [← this]
    generalize x * 2 ^ o = z
    simp [IntKind.wrap, IntKind.bits, IntKind.signed]
  have e2 : (x : Int) / 2 ^ (64 - o) = (y2 : Int) := by rw [hy2, Int.natCast_ediv, Int.natCast_pow]; rfl
  have e3 : bits .or .u64 (y1 : Int) (y2 : Int) = (r : Int) := by rw [hy1, hy2, hr]; exact or_u64' o _ _ p1 (by rw [← hr]; exact p4)
  have e4 : bits .and .u64 (cw : Int) (mk : Int) = (y3 : Int) := by rw [hmk, hy3]; exact and_mask64 cw o hcw (by omega)
  have e5 : bits .andNot .u64 (r : Int) (mk : Int) = (y1 : Int) := by rw [hmk, hy1, not_mask64 r o p4 (by omega), p2]
  have e6 : bits .or .u64 (y3 : Int) (y1 : Int) = (c1 : Int) := by rw [hy3, hy1, hc1]; exact or_u64 o _ _ hal (by rw [← hc1]; exact p5)
  have e7 : bits .andNot .u64 (nx : Int) (mk : Int) = (y4 : Int) := by rw [hmk, hy4, not_mask64 nx o hnx (by omega)]
  have e8 : bits .and .u64 (r : Int) (mk : Int) = (y2 : Int) := by rw [hmk, hy2, and_mask64 r o p4 (by omega), p3]
  have e9 : bits .or .u64 (y4 : Int) (y2 : Int) = (n1 : Int) := by rw [hy4, hy2, hn1]; exact or_u64' o _ _ p1 (by rw [← hn1]; exact p6)
  have U1 := putW_upd M s c1
  have U2 := putW_upd (putW M s c1) (s + 8) n1
  have UU : Upd M (8 * s + o) 64 x (putW (putW M s c1) (s + 8) n1) := upd_split (W := 64) (M1 := putW M s c1) (by omega) hlow hx (by rw [← hc1]; exact U1) (by rw [show 8 * s + 64 = 8 * (s + 8) by omega, ← hn1]; exact U2) (by rw [hnxe]; congr 1)
  have LL : n1 % 2 ^ o = pk (putW (putW M s c1) (s + 8) n1) (8 * (s + 8)) o := by
    rw [Upd.pk U2 (8 * (s + 8)) o (Nat.le_refl _) (by omega), Nat.sub_self, Nat.pow_zero, Nat.div_one]
  have HV := Lib.hid (And.intro UU (And.intro LL (And.intro p5 (And.intro p6 (And.intro hnxe (And.intro e4 (And.intro e5 (And.intro e6 (And.intro e7 (And.intro e8 (And.intro e9 (And.intro hL (And.intro hs hmk)))))))))))))
  have q1 : (8 : Int) ≤ ((L - s : Nat) : Int) := by omega
  have q2 : C - s ≠ 8 := by omega
  have q3 : 8 ≤ C - s := by omega
  have HQ := Lib.hid (And.intro q1 (And.intro q2 q3))
  clear UU LL U1 U2 hr hc1 hn1 hy1 hy2 hy3 hy4 p1 p2 p3 p4 p5 p6 hal hnx hnxe e4 e5 e6 e7 e8 e9 hlow hcw hmk hL hs q1 q2 q3 hx
  obtain ⟨X, hX⟩ : ∃ X : Array Value, X = #[.slice (some ⟨b, s, none⟩) (L - s) (C - s), .int .i64 (o : Int), .int .i64 len, .int .u64 (mk : Int), .int .u64 (cw : Int)] := ⟨_, rfl⟩
  rw [← hX] at hb
  have h1 : w.cell? ⟨g, 1, none⟩ = some (.int .i64 (o : Int)) := by rw [hX] at hb; exact (blk_cell hb 1).trans rfl
  have ko : ¬ (o : Int) = 0 := by omega
  have H0 := Lib.hid (And.intro hb hO)
  have HE := Lib.hid (And.intro e1 (And.intro e2 e3))
  clear hb hO e1 e2 e3
  go_enter Tryd.func19, Tryd.ntmps19
  go_upto_region 2 with fail
  obtain ⟨hb, hO⟩ := H0.out
  obtain ⟨e1, e2, e3⟩ := HE.out
  clear h1
  have ku : 64 - o < 64 := by omega
  have kmin : min o 64 = o := by omega
  have kwo : IntKind.u64.wrap (o : Int) = o := wrap_u64 o (by omega)
  have kws : wrap64 (wrap64 64 - (o : Int)) = ((64 - o : Nat) : Int) := by
    rw [w64_id 64 (by decide) (by decide), w64_id _ (by omega) (by omega)]
    omega
  refine wp_at ?_
  intro w2 hw2
  have b2 : w2.drew.heap[g]? = some (.cells X 50 (0, 0)) := by rw [hw2]; exact hb
  have O2 : Own w2.drew b C L M := by rw [hw2]; exact hO.tch ((Tch.refl (fun _ => False) w).drew) (fun h => h)
  have T2 : Tch (fun k => k = g ∨ k = b) w w2.drew := by rw [hw2]; exact (Tch.refl _ _).drew
  clear hw2 hb hO
  refine start_ (n := 18) (S := fun w' => w'.heap[g]? = some (.cells X 50 (0, 0))) (ds := []) #[false, false, false, false, false, false, false, false, false, false, false, false, false, false, false, false, false, false] (by kernel_rfl) rfl rfl b2 (fun hHeld => ?_)
  refine pure_ (i := 0) (N := some 11) (v := ?_) (a' := ?_) #[true, false, false, false, false, false, false, false, false, false, false, false, false, false, false, false, false, false] rfl rfl (by kernel_rfl) (fun _ _ _ h => h) (Or.inl ⟨by rfl, ?_⟩) ?_ ?_
  rotate_left
  · intro w'
    go_simp
    with_reducible rfl
  rotate_left
  · simp only [Act.put, s1_, s2_, s3_, i64_w, i32_w]
    rfl
  refine pure_ (i := 1) (N := some 12) (v := ?_) (a' := ?_) #[true, true, false, false, false, false, false, false, false, false, false, false, false, false, false, false, false, false] rfl rfl (by kernel_rfl) (fun _ _ _ h => h) (Or.inl ⟨by rfl, ?_⟩) ?_ ?_
  rotate_left
  · intro w'
    go_simp
    with_reducible rfl
  rotate_left
  · simp only [Act.put, s1_, s2_, s3_, i64_w, i32_w]
    rfl
  refine pure_ (i := 2) (N := some 13) (v := ?_) (a' := ?_) #[true, true, true, false, false, false, false, false, false, false, false, false, false, false, false, false, false, false] rfl rfl (by kernel_rfl) (fun _ _ _ h => h) (Or.inl ⟨by rfl, ?_⟩) ?_ ?_
  rotate_left
  · intro w'
    go_simp
    with_reducible rfl
  rotate_left
  · simp only [Act.put, s1_, s2_, s3_, i64_w, i32_w]
    rfl
  refine pure_ (i := 3) (N := some 14) (v := ?_) (a' := ?_) #[true, true, true, true, false, false, false, false, false, false, false, false, false, false, false, false, false, false] rfl rfl (by kernel_rfl) (fun _ _ _ h => h) (Or.inl ⟨by rfl, ?_⟩) ?_ ?_
  rotate_left
  · intro w'
    go_simp
    with_reducible rfl
  rotate_left
  · simp only [Act.put, s1_, s2_, s3_, i64_w, i32_w]
    rfl
  refine take_ (i := 4) (N := some 15) (v := ?_) (a' := ?_) #[true, true, true, true, true, false, false, false, false, false, false, false, false, false, false, false, false, false] rfl rfl (by kernel_rfl) (fun _ _ _ h => h) (Or.inl ⟨by rfl, ?_⟩) hHeld ?_ ?_
  rotate_left
  · intro w' s0
    have d : w'.cell? ⟨g, 1, none⟩ = some (.int .i64 (o : Int)) := by rw [hX] at s0; exact (blk_cell s0 1).trans rfl
    clear s0
    go_simp
    with_reducible rfl
  rotate_left
  · simp only [Act.put, s1_, s2_, s3_, i64_w, i32_w]
    rfl
  refine pure_ (i := 5) (N := some 16) (v := ?_) (a' := ?_) #[true, true, true, true, true, true, false, false, false, false, false, false, false, false, false, false, false, false] rfl rfl (by kernel_rfl) (fun _ _ _ h => h) (Or.inl ⟨by rfl, ?_⟩) ?_ ?_
  rotate_left
  · intro w'
    go_simp
    with_reducible rfl
  rotate_left
  · simp only [Act.put, s1_, s2_, s3_, i64_w, i32_w]
    rfl
  refine pure_ (i := 6) (N := some 17) (v := ?_) (a' := ?_) #[true, true, true, true, true, true, true, false, false, false, false, false, false, false, false, false, false, false] rfl rfl (by kernel_rfl) (fun _ _ _ h => h) (Or.inl ⟨by rfl, ?_⟩) ?_ ?_
  rotate_left
  · intro w'
    go_simp
    with_reducible rfl
  rotate_left
  · simp only [Act.put, s1_, s2_, s3_, i64_w, i32_w]
    rfl
  refine pure_ (i := 7) (N := some 18) (v := ?_) (a' := ?_) #[true, true, true, true, true, true, true, true, false, false, false, false, false, false, false, false, false, false] rfl rfl (by kernel_rfl) (fun _ _ _ h => h) (Or.inl ⟨by rfl, ?_⟩) ?_ ?_
  rotate_left
  · intro w'
    go_simp
    with_reducible rfl
  rotate_left
  · simp only [Act.put, s1_, s2_, s3_, i64_w, i32_w]
    rfl
  refine pure_ (i := 8) (N := some 19) (v := ?_) (a' := ?_) #[true, true, true, true, true, true, true, true, true, false, false, false, false, false, false, false, false, false] rfl rfl (by kernel_rfl) (fun _ _ _ h => h) (Or.inl ⟨by rfl, ?_⟩) ?_ ?_
  rotate_left
  · intro w'
    go_simp
    with_reducible rfl
  rotate_left
  · simp only [Act.put, s1_, s2_, s3_, i64_w, i32_w]
    rfl
  refine pure_ (i := 9) (N := some 20) (v := ?_) (a' := ?_) #[true, true, true, true, true, true, true, true, true, true, false, false, false, false, false, false, false, false] rfl rfl (by kernel_rfl) (fun _ _ _ h => h) (Or.inl ⟨by rfl, ?_⟩) ?_ ?_
  rotate_left
  · intro w'
    go_simp
    with_reducible rfl
  rotate_left
  · simp only [Act.put, s1_, s2_, s3_, i64_w, i32_w]
    rfl
  refine pure_ (i := 10) (N := some 21) (v := ?_) (a' := ?_) #[true, true, true, true, true, true, true, true, true, true, true, false, false, false, false, false, false, false] rfl rfl (by kernel_rfl) (fun _ _ _ h => h) (Or.inl ⟨by rfl, ?_⟩) ?_ ?_
  rotate_left
  · intro w'
    go_simp
    with_reducible rfl
  rotate_left
  · simp only [Act.put, s1_, s2_, s3_, i64_w, i32_w]
    rfl
  refine pure_ (i := 11) (N := some 22) (v := ?_) (a' := ?_) #[true, true, true, true, true, true, true, true, true, true, true, true, false, false, false, false, false, false] rfl rfl (by kernel_rfl) (fun _ _ _ h => h) (Or.inl ⟨by rfl, ?_⟩) ?_ ?_
  rotate_left
  · intro w'
    go_simp
    with_reducible rfl
  rotate_left
  · simp only [Act.put, s1_, s2_, s3_, i64_w, i32_w]
    rfl
  refine pure_ (i := 12) (N := some 23) (v := ?_) (a' := ?_) #[true, true, true, true, true, true, true, true, true, true, true, true, true, false, false, false, false, false] rfl rfl (by kernel_rfl) (fun _ _ _ h => h) (Or.inl ⟨by rfl, ?_⟩) ?_ ?_
  rotate_left
  · intro w'
    go_simp
    with_reducible rfl
  rotate_left
  · simp only [Act.put, s1_, s2_, s3_, i64_w, i32_w]
    rfl
  refine take_ (i := 13) (N := some 24) (v := ?_) (a' := ?_) #[true, true, true, true, true, true, true, true, true, true, true, true, true, true, false, false, false, false] rfl rfl (by kernel_rfl) (fun _ _ _ h => h) (Or.inl ⟨by rfl, ?_⟩) hHeld ?_ ?_
  rotate_left
  · intro w' s0
    have d : w'.cell? ⟨g, 1, none⟩ = some (.int .i64 (o : Int)) := by rw [hX] at s0; exact (blk_cell s0 1).trans rfl
    clear s0
    go_simp
    with_reducible rfl
  rotate_left
  · simp only [Act.put, s1_, s2_, s3_, i64_w, i32_w]
    rfl
  refine pure_ (i := 14) (N := some 25) (v := ?_) (a' := ?_) #[true, true, true, true, true, true, true, true, true, true, true, true, true, true, true, false, false, false] rfl rfl (by kernel_rfl) (fun _ _ _ h => h) (Or.inl ⟨by rfl, ?_⟩) ?_ ?_
  rotate_left
  · intro w'
    go_simp
    with_reducible rfl
  rotate_left
  · simp only [Act.put, s1_, s2_, s3_, i64_w, i32_w]
    rfl
  refine pure_ (i := 15) (N := some 26) (v := ?_) (a' := ?_) #[true, true, true, true, true, true, true, true, true, true, true, true, true, true, true, true, false, false] rfl rfl (by kernel_rfl) (fun _ _ _ h => h) (Or.inl ⟨by rfl, ?_⟩) ?_ ?_
  rotate_left
  · intro w'
    go_simp
    with_reducible rfl
  rotate_left
  · simp only [Act.put, s1_, s2_, s3_, i64_w, i32_w]
    rfl
  refine pure_ (i := 16) (N := some 27) (v := ?_) (a' := ?_) #[true, true, true, true, true, true, true, true, true, true, true, true, true, true, true, true, true, false] rfl rfl (by kernel_rfl) (fun _ _ _ h => h) (Or.inl ⟨by rfl, ?_⟩) ?_ ?_
  rotate_left
  · intro w'
    go_simp
    with_reducible rfl
  rotate_left
  · simp only [Act.put, s1_, s2_, s3_, i64_w, i32_w]
    rfl
  refine pure_ (i := 17) (N := some 1) (v := ?_) (a' := ?_) #[true, true, true, true, true, true, true, true, true, true, true, true, true, true, true, true, true, true] rfl rfl (by kernel_rfl) (fun _ _ _ h => h) (Or.inl ⟨by rfl, ?_⟩) ?_ ?_
  rotate_left
  · intro w'
    go_simp
    with_reducible rfl
  rotate_left
  · simp only [Act.put, s1_, s2_, s3_, i64_w, i32_w]
    rfl
  refine done_ (by kernel_rfl) ?_
  clear hHeld e1 e2 e3 kws kmin kwo ku HE H0
  go_upto_region 3 with fail
  obtain ⟨q1, q2, q3⟩ := HQ.out
  refine wp_at ?_
  intro w3 hw3
  have b3 : w3.drew.heap[g]? = some (.cells X 50 (0, 0)) := by rw [hw3]; exact b2
  have O3 : Own w3.drew b C L M := by rw [hw3]; exact O2.tch ((Tch.refl (fun _ => False) _).drew) (fun h => h)
  have T3 : Tch (fun k => k = g ∨ k = b) w w3.drew := by rw [hw3]; exact T2.drew
  clear hw3 b2 O2 T2
  refine start_ (n := 10) (S := fun w' => w'.heap[g]? = some (.cells X 50 (0, 0))) (ds := []) #[false, false, false, false, false, false, false, false, false, false] (by kernel_rfl) rfl rfl b3 (fun hHeld => ?_)
  refine take_ (i := 0) (N := some 28) (v := ?_) (a' := ?_) #[true, false, false, false, false, false, false, false, false, false] rfl rfl (by kernel_rfl) (fun _ _ _ h => h) (Or.inl ⟨by rfl, ?_⟩) hHeld ?_ ?_
  rotate_left
  · intro w' s0
    clear s0
    go_simp
    with_reducible rfl
  rotate_left
  · simp only [Act.put, s1_, s2_, s3_, i64_w, i32_w]
    rfl
  refine pure_ (i := 1) (N := some 29) (v := ?_) (a' := ?_) #[true, true, false, false, false, false, false, false, false, false] rfl rfl (by kernel_rfl) (fun _ _ _ h => h) (Or.inl ⟨by rfl, ?_⟩) ?_ ?_
  rotate_left
  · intro w'
    go_simp
    with_reducible rfl
  rotate_left
  · simp only [Act.put, s1_, s2_, s3_, i64_w, i32_w]
    rfl
  refine pure_ (i := 2) (N := some 30) (v := ?_) (a' := ?_) #[true, true, true, false, false, false, false, false, false, false] rfl rfl (by kernel_rfl) (fun _ _ _ h => h) (Or.inl ⟨by rfl, ?_⟩) ?_ ?_
  rotate_left
  · intro w'
    go_simp
    with_reducible rfl
  rotate_left
  · simp only [Act.put, s1_, s2_, s3_, i64_w, i32_w]
    rfl
  refine pure_ (i := 3) (N := some 31) (v := ?_) (a' := ?_) #[true, true, true, true, false, false, false, false, false, false] rfl rfl (by kernel_rfl) (fun _ _ _ h => h) (Or.inl ⟨by rfl, ?_⟩) ?_ ?_
  rotate_left
  · intro w'
    go_simp
    with_reducible rfl
  rotate_left
  · simp only [Act.put, s1_, s2_, s3_, i64_w, i32_w]
    rfl
  refine take_ (i := 4) (N := some 32) (v := ?_) (a' := ?_) #[true, true, true, true, true, false, false, false, false, false] rfl rfl (by kernel_rfl) (fun _ _ _ h => h) (Or.inl ⟨by rfl, ?_⟩) hHeld ?_ ?_
  rotate_left
  · intro w' s0
    have d : w'.cell? ⟨g, 0, none⟩ = some (.slice (some ⟨b, s, none⟩) (L - s) (C - s)) := by rw [hX] at s0; exact (blk_cell s0 0).trans rfl
    clear s0
    go_simp
    with_reducible rfl
  rotate_left
  · simp only [Act.put, s1_, s2_, s3_, i64_w, i32_w]
    rfl
  refine pure_ (i := 5) (N := some 33) (v := ?_) (a' := ?_) #[true, true, true, true, true, true, false, false, false, false] rfl rfl (by kernel_rfl) (fun _ _ _ h => h) (Or.inl ⟨by rfl, ?_⟩) ?_ ?_
  rotate_left
  · intro w'
    go_simp
    with_reducible rfl
  rotate_left
  · simp only [Act.put, s1_, s2_, s3_, i64_w, i32_w]
    rfl
  refine pure_ (i := 6) (N := some 34) (v := ?_) (a' := ?_) #[true, true, true, true, true, true, true, false, false, false] rfl rfl (by kernel_rfl) (fun _ _ _ h => h) (Or.inl ⟨by rfl, ?_⟩) ?_ ?_
  rotate_left
  · intro w'
    go_simp
    with_reducible rfl
  rotate_left
  · simp only [Act.put, s1_, s2_, s3_, i64_w, i32_w]
    rfl
  refine one_ (i := 7) (N := some 35) #[true, true, true, true, true, true, true, true, false, false] rfl rfl (by kernel_rfl) (by decide) (fun K hK => ?_)
  refine goes_ Tryd.func29 (by kernel_rfl) rfl #[(.agg #[]), (.slice (some ⟨b, s + 8, none⟩) (L - s - 8) (C - s - 8))] (by rfl) rfl rfl (by (try simp only [List.map_toArray, List.map_cons, List.map_nil]); rfl) ?_
  refine (get29 b 0 L M (s + 8) (L - s - 8) (s + 8) (C - s - 8) w3.drew O3.dat (by omega) (by have := HV.out.2.2.2.2.2.2.2.2.2.2.2.2.1; omega) (by have := HV.out.2.2.2.2.2.2.2.2.2.2.2.2.1; omega)).mono ?_
  rintro e w4 ⟨rfl, hb4⟩
  refine ⟨_, rfl, ?_⟩
  have b4 : w4.heap[g]? = some (.cells X 50 (0, 0)) := blk_below b3 hb4
  have O4 : Own w4 b C L M := O3.tch (Tch.of_below (S := fun _ => False) hb4) (fun h => h)
  have T4 := T3.trans (Tch.of_below hb4)
  clear b3 O3 T3 hb4
  rw [← HV.out.2.2.2.2.1]
  refine hK.out _ _ b4 (fun hHeld => ?_)
  clear hK K
  refine norm_ (a' := ?_) ?_ ?_
  rotate_left
  · show Act.put _ (some 35) _ = _
    simp only [Act.put, s1_, s2_, s3_]
    rfl
  refine one_ (i := 8) (N := some 36) #[true, true, true, true, true, true, true, true, true, false] rfl rfl (by kernel_rfl) (by decide) (fun K hK => ?_)
  refine goes_ Tryd.func28 (by kernel_rfl) rfl #[(.int .u64 (nx : Int))] (by rfl) rfl rfl (by (try simp only [List.map_toArray, List.map_cons, List.map_nil]); rfl) ?_
  refine (le28 _ w4).mono ?_
  rintro e w_ ⟨rfl, rfl⟩
  refine ⟨_, rfl, ?_⟩
  refine hK.out _ _ b4 (fun hHeld => ?_)
  clear hK K
  refine norm_ (a' := ?_) ?_ ?_
  rotate_left
  · show Act.put _ (some 36) _ = _
    simp only [Act.put, s1_, s2_, s3_]
    rfl
  refine pure_ (i := 9) (N := some 5) (v := ?_) (a' := ?_) #[true, true, true, true, true, true, true, true, true, true] rfl rfl (by kernel_rfl) (fun _ _ _ h => h) (Or.inl ⟨by rfl, ?_⟩) ?_ ?_
  rotate_left
  · intro w'
    go_simp
    with_reducible rfl
  rotate_left
  · simp only [Act.put, s1_, s2_, s3_, i64_w, i32_w]
    rfl
  refine done_ (by kernel_rfl) ?_
  clear hHeld q1 q2 q3
  go_upto_region 4 with fail
  obtain ⟨-, -, -, -, -, e4, e5, e6, -⟩ := HV.out
  refine wp_at ?_
  intro w5 hw5
  have b5 : w5.drew.heap[g]? = some (.cells X 50 (0, 0)) := by rw [hw5]; exact b4
  have O5 : Own w5.drew b C L M := by rw [hw5]; exact O4.tch ((Tch.refl (fun _ => False) _).drew) (fun h => h)
  have T5 : Tch (fun k => k = g ∨ k = b) w w5.drew := by rw [hw5]; exact T4.drew
  clear hw5 b4 O4 T4
  have c5 : w5.drew.cell? ⟨g, 4, none⟩ = some (.int .u64 (cw : Int)) := by rw [hX] at b5; exact (blk_cell b5 4).trans rfl
  have f5 := blk_frozen b5 4
  obtain ⟨Y, hY⟩ : ∃ Y : Array Value, Y = #[.slice (some ⟨b, s, none⟩) (L - s) (C - s), .int .i64 (o : Int), .int .i64 len, .int .u64 (mk : Int), .int .u64 (c1 : Int)] := ⟨_, rfl⟩
  refine start_ (n := 20) (S := fun w' => w'.heap[g]? = some (.cells X 50 (0, 0))) (ds := [19]) #[false, false, false, false, false, false, false, false, false, false, false, false, false, false, false, false, false, false, false, false] (by kernel_rfl) rfl rfl b5 (fun hHeld => ?_)
  refine pure_ (i := 0) (N := some 37) (v := ?_) (a' := ?_) #[true, false, false, false, false, false, false, false, false, false, false, false, false, false, false, false, false, false, false, false] rfl rfl (by kernel_rfl) (fun _ _ _ h => h) (Or.inl ⟨by rfl, ?_⟩) ?_ ?_
  rotate_left
  · intro w'
    go_simp
    with_reducible rfl
  rotate_left
  · simp only [Act.put, s1_, s2_, s3_, i64_w, i32_w]
    rfl
  refine pure_ (i := 1) (N := some 38) (v := ?_) (a' := ?_) #[true, true, false, false, false, false, false, false, false, false, false, false, false, false, false, false, false, false, false, false] rfl rfl (by kernel_rfl) (fun _ _ _ h => h) (Or.inl ⟨by rfl, ?_⟩) ?_ ?_
  rotate_left
  · intro w'
    go_simp
    with_reducible rfl
  rotate_left
  · simp only [Act.put, s1_, s2_, s3_, i64_w, i32_w]
    rfl
  refine pure_ (i := 2) (N := some 39) (v := ?_) (a' := ?_) #[true, true, true, false, false, false, false, false, false, false, false, false, false, false, false, false, false, false, false, false] rfl rfl (by kernel_rfl) (fun _ _ _ h => h) (Or.inl ⟨by rfl, ?_⟩) ?_ ?_
  rotate_left
  · intro w'
    go_simp
    with_reducible rfl
  rotate_left
  · simp only [Act.put, s1_, s2_, s3_, i64_w, i32_w]
    rfl
  refine pure_ (i := 3) (N := some 40) (v := ?_) (a' := ?_) #[true, true, true, true, false, false, false, false, false, false, false, false, false, false, false, false, false, false, false, false] rfl rfl (by kernel_rfl) (fun _ _ _ h => h) (Or.inl ⟨by rfl, ?_⟩) ?_ ?_
  rotate_left
  · intro w'
    go_simp
    with_reducible rfl
  rotate_left
  · simp only [Act.put, s1_, s2_, s3_, i64_w, i32_w]
    rfl
  refine take_ (i := 4) (N := some 41) (v := ?_) (a' := ?_) #[true, true, true, true, true, false, false, false, false, false, false, false, false, false, false, false, false, false, false, false] rfl rfl (by kernel_rfl) (fun _ _ _ h => h) (Or.inl ⟨by rfl, ?_⟩) hHeld ?_ ?_
  rotate_left
  · intro w' s0
    have d : w'.cell? ⟨g, 4, none⟩ = some (.int .u64 (cw : Int)) := by rw [hX] at s0; exact (blk_cell s0 4).trans rfl
    clear s0
    go_simp
    with_reducible rfl
  rotate_left
  · simp only [Act.put, s1_, s2_, s3_, i64_w, i32_w]
    rfl
  refine pure_ (i := 5) (N := some 42) (v := ?_) (a' := ?_) #[true, true, true, true, true, true, false, false, false, false, false, false, false, false, false, false, false, false, false, false] rfl rfl (by kernel_rfl) (fun _ _ _ h => h) (Or.inl ⟨by rfl, ?_⟩) ?_ ?_
  rotate_left
  · intro w'
    go_simp
    with_reducible rfl
  rotate_left
  · simp only [Act.put, s1_, s2_, s3_, i64_w, i32_w]
    rfl
  refine pure_ (i := 6) (N := some 43) (v := ?_) (a' := ?_) #[true, true, true, true, true, true, true, false, false, false, false, false, false, false, false, false, false, false, false, false] rfl rfl (by kernel_rfl) (fun _ _ _ h => h) (Or.inl ⟨by rfl, ?_⟩) ?_ ?_
  rotate_left
  · intro w'
    go_simp
    with_reducible rfl
  rotate_left
  · simp only [Act.put, s1_, s2_, s3_, i64_w, i32_w]
    rfl
  refine pure_ (i := 7) (N := some 44) (v := ?_) (a' := ?_) #[true, true, true, true, true, true, true, true, false, false, false, false, false, false, false, false, false, false, false, false] rfl rfl (by kernel_rfl) (fun _ _ _ h => h) (Or.inl ⟨by rfl, ?_⟩) ?_ ?_
  rotate_left
  · intro w'
    go_simp
    with_reducible rfl
  rotate_left
  · simp only [Act.put, s1_, s2_, s3_, i64_w, i32_w]
    rfl
  refine take_ (i := 8) (N := some 45) (v := ?_) (a' := ?_) #[true, true, true, true, true, true, true, true, true, false, false, false, false, false, false, false, false, false, false, false] rfl rfl (by kernel_rfl) (fun _ _ _ h => h) (Or.inl ⟨by rfl, ?_⟩) hHeld ?_ ?_
  rotate_left
  · intro w' s0
    have d : w'.cell? ⟨g, 3, none⟩ = some (.int .u64 (mk : Int)) := by rw [hX] at s0; exact (blk_cell s0 3).trans rfl
    clear s0
    go_simp
    with_reducible rfl
  rotate_left
  · simp only [Act.put, s1_, s2_, s3_, i64_w, i32_w]
    rfl
  refine pure_ (i := 9) (N := some 46) (v := ?_) (a' := ?_) #[true, true, true, true, true, true, true, true, true, true, false, false, false, false, false, false, false, false, false, false] rfl rfl (by kernel_rfl) (fun _ _ _ h => h) (Or.inl ⟨by rfl, ?_⟩) ?_ ?_
  rotate_left
  · intro w'
    go_simp
    with_reducible rfl
  rotate_left
  · simp only [Act.put, s1_, s2_, s3_, i64_w, i32_w]
    rfl
  refine pure_ (i := 10) (N := some 47) (v := ?_) (a' := ?_) #[true, true, true, true, true, true, true, true, true, true, true, false, false, false, false, false, false, false, false, false] rfl rfl (by kernel_rfl) (fun _ _ _ h => h) (Or.inl ⟨by rfl, ?_⟩) ?_ ?_
  rotate_left
  · intro w'
    go_simp
    with_reducible rfl
  rotate_left
  · simp only [Act.put, s1_, s2_, s3_, i64_w, i32_w]
    rfl
  refine pure_ (i := 11) (N := some 48) (v := ?_) (a' := ?_) #[true, true, true, true, true, true, true, true, true, true, true, true, false, false, false, false, false, false, false, false] rfl rfl (by kernel_rfl) (fun _ _ _ h => h) (Or.inl ⟨by rfl, ?_⟩) ?_ ?_
  rotate_left
  · intro w'
    go_simp
    with_reducible rfl
  rotate_left
  · simp only [Act.put, s1_, s2_, s3_, i64_w, i32_w]
    rfl
  refine pure_ (i := 12) (N := some 49) (v := ?_) (a' := ?_) #[true, true, true, true, true, true, true, true, true, true, true, true, true, false, false, false, false, false, false, false] rfl rfl (by kernel_rfl) (fun _ _ _ h => h) (Or.inl ⟨by rfl, ?_⟩) ?_ ?_
  rotate_left
  · intro w'
    go_simp
    with_reducible rfl
  rotate_left
  · simp only [Act.put, s1_, s2_, s3_, i64_w, i32_w]
    rfl
  refine pure_ (i := 13) (N := some 50) (v := ?_) (a' := ?_) #[true, true, true, true, true, true, true, true, true, true, true, true, true, true, false, false, false, false, false, false] rfl rfl (by kernel_rfl) (fun _ _ _ h => h) (Or.inl ⟨by rfl, ?_⟩) ?_ ?_
  rotate_left
  · intro w'
    go_simp
    with_reducible rfl
  rotate_left
  · simp only [Act.put, s1_, s2_, s3_, i64_w, i32_w]
    rfl
  refine take_ (i := 14) (N := some 51) (v := ?_) (a' := ?_) #[true, true, true, true, true, true, true, true, true, true, true, true, true, true, true, false, false, false, false, false] rfl rfl (by kernel_rfl) (fun _ _ _ h => h) (Or.inl ⟨by rfl, ?_⟩) hHeld ?_ ?_
  rotate_left
  · intro w' s0
    have d : w'.cell? ⟨g, 3, none⟩ = some (.int .u64 (mk : Int)) := by rw [hX] at s0; exact (blk_cell s0 3).trans rfl
    clear s0
    go_simp
    with_reducible rfl
  rotate_left
  · simp only [Act.put, s1_, s2_, s3_, i64_w, i32_w]
    rfl
  refine pure_ (i := 15) (N := some 52) (v := ?_) (a' := ?_) #[true, true, true, true, true, true, true, true, true, true, true, true, true, true, true, true, false, false, false, false] rfl rfl (by kernel_rfl) (fun _ _ _ h => h) (Or.inl ⟨by rfl, ?_⟩) ?_ ?_
  rotate_left
  · intro w'
    go_simp
    with_reducible rfl
  rotate_left
  · simp only [Act.put, s1_, s2_, s3_, i64_w, i32_w]
    rfl
  refine pure_ (i := 16) (N := some 53) (v := ?_) (a' := ?_) #[true, true, true, true, true, true, true, true, true, true, true, true, true, true, true, true, true, false, false, false] rfl rfl (by kernel_rfl) (fun _ _ _ h => h) (Or.inl ⟨by rfl, ?_⟩) ?_ ?_
  rotate_left
  · intro w'
    go_simp
    with_reducible rfl
  rotate_left
  · simp only [Act.put, s1_, s2_, s3_, i64_w, i32_w]
    rfl
  refine pure_ (i := 17) (N := some 54) (v := ?_) (a' := ?_) #[true, true, true, true, true, true, true, true, true, true, true, true, true, true, true, true, true, true, false, false] rfl rfl (by kernel_rfl) (fun _ _ _ h => h) (Or.inl ⟨by rfl, ?_⟩) ?_ ?_
  rotate_left
  · intro w'
    go_simp
    with_reducible rfl
  rotate_left
  · simp only [Act.put, s1_, s2_, s3_, i64_w, i32_w]
    rfl
  refine pure_ (i := 18) (N := some 55) (v := ?_) (a' := ?_) #[true, true, true, true, true, true, true, true, true, true, true, true, true, true, true, true, true, true, true, false] rfl rfl (by kernel_rfl) (fun _ _ _ h => h) (Or.inl ⟨by rfl, ?_⟩) ?_ ?_
  rotate_left
  · intro w'
    go_simp
    with_reducible rfl
  rotate_left
  · simp only [Act.put, s1_, s2_, s3_, i64_w, i32_w]
    rfl
  obtain ⟨wF, hwF⟩ : ∃ wF, wF = w5.drew.setCell ⟨g, 4, none⟩ (.int .u64 (c1 : Int)) := ⟨_, rfl⟩
  have bF : wF.heap[g]? = some (.cells Y 50 (0, 0)) := by rw [hwF]; rw [hX] at b5; exact blk_put b5 4 _ (by rw [hY]; rfl)
  have OF : Own wF b C L M := by rw [hwF]; exact O5.other hg
  have TF : Tch (fun k => k = g ∨ k = b) w wF := by rw [hwF]; exact T5.set (.inl (.inl rfl)) _
  refine last_ (i := 19) (N := none) #[true, true, true, true, true, true, true, true, true, true, true, true, true, true, true, true, true, true, true, true] rfl rfl (by kernel_rfl) (by decide) (fun K hK => ?_)
  have HF := Lib.hid hwF
  clear hwF
  refine skip_ (w1 := wF) (by rfl) rfl ?_ ?_
  · clear bF OF TF b5 O5 T5
    go_simp
    rw [HF.out]
    rfl
  refine hK.out _ _ ?_
  clear hK K b5 O5 T5 c5 f5 HF hHeld
  refine done_ (by kernel_rfl) ?_
  clear e4 e5 e6 hX
  go_upto_region 5 with fail
  obtain ⟨-, -, -, -, -, -, -, -, e7, e8, e9, -⟩ := HV.out
  refine wp_at ?_
  intro w6 hw6
  have b6 : w6.drew.heap[g]? = some (.cells Y 50 (0, 0)) := by rw [hw6]; exact bF
  have O6 : Own w6.drew b C L M := by rw [hw6]; exact OF.tch ((Tch.refl (fun _ => False) _).drew) (fun h => h)
  have T6 : Tch (fun k => k = g ∨ k = b) w w6.drew := by rw [hw6]; exact TF.drew
  clear hw6 bF OF TF
  refine start_ (n := 14) (S := fun w' => w'.heap[g]? = some (.cells Y 50 (0, 0))) (ds := []) #[false, false, false, false, false, false, false, false, false, false, false, false, false, false] (by kernel_rfl) rfl rfl b6 (fun hHeld => ?_)
  refine pure_ (i := 0) (N := some 56) (v := ?_) (a' := ?_) #[true, false, false, false, false, false, false, false, false, false, false, false, false, false] rfl rfl (by kernel_rfl) (fun _ _ _ h => h) (Or.inl ⟨by rfl, ?_⟩) ?_ ?_
  rotate_left
  · intro w'
    go_simp
    with_reducible rfl
  rotate_left
  · simp only [Act.put, s1_, s2_, s3_, i64_w, i32_w]
    rfl
  refine pure_ (i := 1) (N := some 57) (v := ?_) (a' := ?_) #[true, true, false, false, false, false, false, false, false, false, false, false, false, false] rfl rfl (by kernel_rfl) (fun _ _ _ h => h) (Or.inl ⟨by rfl, ?_⟩) ?_ ?_
  rotate_left
  · intro w'
    go_simp
    with_reducible rfl
  rotate_left
  · simp only [Act.put, s1_, s2_, s3_, i64_w, i32_w]
    rfl
  refine pure_ (i := 2) (N := some 58) (v := ?_) (a' := ?_) #[true, true, true, false, false, false, false, false, false, false, false, false, false, false] rfl rfl (by kernel_rfl) (fun _ _ _ h => h) (Or.inl ⟨by rfl, ?_⟩) ?_ ?_
  rotate_left
  · intro w'
    go_simp
    with_reducible rfl
  rotate_left
  · simp only [Act.put, s1_, s2_, s3_, i64_w, i32_w]
    rfl
  refine pure_ (i := 3) (N := some 59) (v := ?_) (a' := ?_) #[true, true, true, true, false, false, false, false, false, false, false, false, false, false] rfl rfl (by kernel_rfl) (fun _ _ _ h => h) (Or.inl ⟨by rfl, ?_⟩) ?_ ?_
  rotate_left
  · intro w'
    go_simp
    with_reducible rfl
  rotate_left
  · simp only [Act.put, s1_, s2_, s3_, i64_w, i32_w]
    rfl
  refine take_ (i := 4) (N := some 60) (v := ?_) (a' := ?_) #[true, true, true, true, true, false, false, false, false, false, false, false, false, false] rfl rfl (by kernel_rfl) (fun _ _ _ h => h) (Or.inl ⟨by rfl, ?_⟩) hHeld ?_ ?_
  rotate_left
  · intro w' s0
    have d : w'.cell? ⟨g, 3, none⟩ = some (.int .u64 (mk : Int)) := by rw [hY] at s0; exact (blk_cell s0 3).trans rfl
    clear s0
    go_simp
    with_reducible rfl
  rotate_left
  · simp only [Act.put, s1_, s2_, s3_, i64_w, i32_w]
    rfl
  refine pure_ (i := 5) (N := some 61) (v := ?_) (a' := ?_) #[true, true, true, true, true, true, false, false, false, false, false, false, false, false] rfl rfl (by kernel_rfl) (fun _ _ _ h => h) (Or.inl ⟨by rfl, ?_⟩) ?_ ?_
  rotate_left
  · intro w'
    go_simp
    with_reducible rfl
  rotate_left
  · simp only [Act.put, s1_, s2_, s3_, i64_w, i32_w]
    rfl
  refine pure_ (i := 6) (N := some 62) (v := ?_) (a' := ?_) #[true, true, true, true, true, true, true, false, false, false, false, false, false, false] rfl rfl (by kernel_rfl) (fun _ _ _ h => h) (Or.inl ⟨by rfl, ?_⟩) ?_ ?_
  rotate_left
  · intro w'
    go_simp
    with_reducible rfl
  rotate_left
  · simp only [Act.put, s1_, s2_, s3_, i64_w, i32_w]
    rfl
  refine pure_ (i := 7) (N := some 63) (v := ?_) (a' := ?_) #[true, true, true, true, true, true, true, true, false, false, false, false, false, false] rfl rfl (by kernel_rfl) (fun _ _ _ h => h) (Or.inl ⟨by rfl, ?_⟩) ?_ ?_
  rotate_left
  · intro w'
    go_simp
    with_reducible rfl
  rotate_left
  · simp only [Act.put, s1_, s2_, s3_, i64_w, i32_w]
    rfl
  refine pure_ (i := 8) (N := some 64) (v := ?_) (a' := ?_) #[true, true, true, true, true, true, true, true, true, false, false, false, false, false] rfl rfl (by kernel_rfl) (fun _ _ _ h => h) (Or.inl ⟨by rfl, ?_⟩) ?_ ?_
  rotate_left
  · intro w'
    go_simp
    with_reducible rfl
  rotate_left
  · simp only [Act.put, s1_, s2_, s3_, i64_w, i32_w]
    rfl
  refine pure_ (i := 9) (N := some 65) (v := ?_) (a' := ?_) #[true, true, true, true, true, true, true, true, true, true, false, false, false, false] rfl rfl (by kernel_rfl) (fun _ _ _ h => h) (Or.inl ⟨by rfl, ?_⟩) ?_ ?_
  rotate_left
  · intro w'
    go_simp
    with_reducible rfl
  rotate_left
  · simp only [Act.put, s1_, s2_, s3_, i64_w, i32_w]
    rfl
  refine take_ (i := 10) (N := some 66) (v := ?_) (a' := ?_) #[true, true, true, true, true, true, true, true, true, true, true, false, false, false] rfl rfl (by kernel_rfl) (fun _ _ _ h => h) (Or.inl ⟨by rfl, ?_⟩) hHeld ?_ ?_
  rotate_left
  · intro w' s0
    have d : w'.cell? ⟨g, 3, none⟩ = some (.int .u64 (mk : Int)) := by rw [hY] at s0; exact (blk_cell s0 3).trans rfl
    clear s0
    go_simp
    with_reducible rfl
  rotate_left
  · simp only [Act.put, s1_, s2_, s3_, i64_w, i32_w]
    rfl
  refine pure_ (i := 11) (N := some 67) (v := ?_) (a' := ?_) #[true, true, true, true, true, true, true, true, true, true, true, true, false, false] rfl rfl (by kernel_rfl) (fun _ _ _ h => h) (Or.inl ⟨by rfl, ?_⟩) ?_ ?_
  rotate_left
  · intro w'
    go_simp
    with_reducible rfl
  rotate_left
  · simp only [Act.put, s1_, s2_, s3_, i64_w, i32_w]
    rfl
  refine pure_ (i := 12) (N := some 68) (v := ?_) (a' := ?_) #[true, true, true, true, true, true, true, true, true, true, true, true, true, false] rfl rfl (by kernel_rfl) (fun _ _ _ h => h) (Or.inl ⟨by rfl, ?_⟩) ?_ ?_
  rotate_left
  · intro w'
    go_simp
    with_reducible rfl
  rotate_left
  · simp only [Act.put, s1_, s2_, s3_, i64_w, i32_w]
    rfl
  refine pure_ (i := 13) (N := some 5) (v := ?_) (a' := ?_) #[true, true, true, true, true, true, true, true, true, true, true, true, true, true] rfl rfl (by kernel_rfl) (fun _ _ _ h => h) (Or.inl ⟨by rfl, ?_⟩) ?_ ?_
  rotate_left
  · intro w'
    go_simp
    with_reducible rfl
  rotate_left
  · simp only [Act.put, s1_, s2_, s3_, i64_w, i32_w]
    rfl
  refine done_ (by kernel_rfl) ?_
  clear hHeld e7 e8 e9
  go_upto_region 6 with fail
  refine wp_at ?_
  intro w7 hw7
  have b7 : w7.drew.heap[g]? = some (.cells Y 50 (0, 0)) := by rw [hw7]; exact b6
  have O7 : Own w7.drew b C L M := by rw [hw7]; exact O6.tch ((Tch.refl (fun _ => False) _).drew) (fun h => h)
  have T7 : Tch (fun k => k = g ∨ k = b) w w7.drew := by rw [hw7]; exact T6.drew
  clear hw7 b6 O6 T6
  refine start_ (n := 11) (S := fun w' => w'.heap[g]? = some (.cells Y 50 (0, 0))) (ds := []) #[false, false, false, false, false, false, false, false, false, false, false] (by kernel_rfl) rfl rfl b7 (fun hHeld => ?_)
  refine take_ (i := 0) (N := some 69) (v := ?_) (a' := ?_) #[true, false, false, false, false, false, false, false, false, false, false] rfl rfl (by kernel_rfl) (fun _ _ _ h => h) (Or.inl ⟨by rfl, ?_⟩) hHeld ?_ ?_
  rotate_left
  · intro w' s0
    clear s0
    go_simp
    with_reducible rfl
  rotate_left
  · simp only [Act.put, s1_, s2_, s3_, i64_w, i32_w]
    rfl
  refine pure_ (i := 1) (N := some 70) (v := ?_) (a' := ?_) #[true, true, false, false, false, false, false, false, false, false, false] rfl rfl (by kernel_rfl) (fun _ _ _ h => h) (Or.inl ⟨by rfl, ?_⟩) ?_ ?_
  rotate_left
  · intro w'
    go_simp
    with_reducible rfl
  rotate_left
  · simp only [Act.put, s1_, s2_, s3_, i64_w, i32_w]
    rfl
  refine pure_ (i := 2) (N := some 71) (v := ?_) (a' := ?_) #[true, true, true, false, false, false, false, false, false, false, false] rfl rfl (by kernel_rfl) (fun _ _ _ h => h) (Or.inl ⟨by rfl, ?_⟩) ?_ ?_
  rotate_left
  · intro w'
    go_simp
    with_reducible rfl
  rotate_left
  · simp only [Act.put, s1_, s2_, s3_, i64_w, i32_w]
    rfl
  refine pure_ (i := 3) (N := some 72) (v := ?_) (a' := ?_) #[true, true, true, true, false, false, false, false, false, false, false] rfl rfl (by kernel_rfl) (fun _ _ _ h => h) (Or.inl ⟨by rfl, ?_⟩) ?_ ?_
  rotate_left
  · intro w'
    go_simp
    with_reducible rfl
  rotate_left
  · simp only [Act.put, s1_, s2_, s3_, i64_w, i32_w]
    rfl
  refine take_ (i := 4) (N := some 73) (v := ?_) (a' := ?_) #[true, true, true, true, true, false, false, false, false, false, false] rfl rfl (by kernel_rfl) (fun _ _ _ h => h) (Or.inl ⟨by rfl, ?_⟩) hHeld ?_ ?_
  rotate_left
  · intro w' s0
    have d : w'.cell? ⟨g, 0, none⟩ = some (.slice (some ⟨b, s, none⟩) (L - s) (C - s)) := by rw [hY] at s0; exact (blk_cell s0 0).trans rfl
    clear s0
    go_simp
    with_reducible rfl
  rotate_left
  · simp only [Act.put, s1_, s2_, s3_, i64_w, i32_w]
    rfl
  refine pure_ (i := 5) (N := some 74) (v := ?_) (a' := ?_) #[true, true, true, true, true, true, false, false, false, false, false] rfl rfl (by kernel_rfl) (fun _ _ _ h => h) (Or.inl ⟨by rfl, ?_⟩) ?_ ?_
  rotate_left
  · intro w'
    go_simp
    with_reducible rfl
  rotate_left
  · simp only [Act.put, s1_, s2_, s3_, i64_w, i32_w]
    rfl
  refine pure_ (i := 6) (N := some 75) (v := ?_) (a' := ?_) #[true, true, true, true, true, true, true, false, false, false, false] rfl rfl (by kernel_rfl) (fun _ _ _ h => h) (Or.inl ⟨by rfl, ?_⟩) ?_ ?_
  rotate_left
  · intro w'
    go_simp
    with_reducible rfl
  rotate_left
  · simp only [Act.put, s1_, s2_, s3_, i64_w, i32_w]
    rfl
  refine pure_ (i := 7) (N := some 76) (v := ?_) (a' := ?_) #[true, true, true, true, true, true, true, true, false, false, false] rfl rfl (by kernel_rfl) (fun _ _ _ h => h) (Or.inl ⟨by rfl, ?_⟩) ?_ ?_
  rotate_left
  · intro w'
    go_simp
    with_reducible rfl
  rotate_left
  · simp only [Act.put, s1_, s2_, s3_, i64_w, i32_w]
    rfl
  refine take_ (i := 8) (N := some 77) (v := ?_) (a' := ?_) #[true, true, true, true, true, true, true, true, true, false, false] rfl rfl (by kernel_rfl) (fun _ _ _ h => h) (Or.inl ⟨by rfl, ?_⟩) hHeld ?_ ?_
  rotate_left
  · intro w' s0
    have d : w'.cell? ⟨g, 4, none⟩ = some (.int .u64 (c1 : Int)) := by rw [hY] at s0; exact (blk_cell s0 4).trans rfl
    clear s0
    go_simp
    with_reducible rfl
  rotate_left
  · simp only [Act.put, s1_, s2_, s3_, i64_w, i32_w]
    rfl
  refine one_ (i := 9) (N := some 78) #[true, true, true, true, true, true, true, true, true, true, false] rfl rfl (by kernel_rfl) (by decide) (fun K hK => ?_)
  refine goes_ Tryd.func28 (by kernel_rfl) rfl #[(.int .u64 (c1 : Int))] (by rfl) rfl rfl (by (try simp only [List.map_toArray, List.map_cons, List.map_nil]); rfl) ?_
  refine (le28 _ w7.drew).mono ?_
  rintro e w_ ⟨rfl, rfl⟩
  refine ⟨_, rfl, ?_⟩
  refine hK.out _ _ b7 (fun hHeld => ?_)
  clear hK K
  refine norm_ (a' := ?_) ?_ ?_
  rotate_left
  · show Act.put _ (some 78) _ = _
    simp only [Act.put, s1_, s2_, s3_]
    rfl
  refine one_ (i := 10) (N := some 79) #[true, true, true, true, true, true, true, true, true, true, true] rfl rfl (by kernel_rfl) (by decide) (fun K hK => ?_)
  refine goes_ Tryd.func31 (by kernel_rfl) rfl #[(.agg #[]), (.slice (some ⟨b, s, none⟩) (L - s) (C - s)), (.int .u64 (c1 : Int))] (by rfl) rfl rfl (by (try simp only [List.map_toArray, List.map_cons, List.map_nil]); rfl) ?_
  refine (put31 b C L M s (L - s) (C - s) c1 w7.drew O7 (by have := HV.out.2.2.2.2.2.2.2.2.2.2.2.2.1; omega) (by have := HV.out.2.2.2.2.2.2.2.2.2.2.2.2.1; omega) HV.out.2.2.1).mono ?_
  rintro e w8 ⟨rfl, hT_, O8⟩
  refine ⟨_, rfl, ?_⟩
  have b8 : w8.heap[g]? = some (.cells Y 50 (0, 0)) := hT_.blk b7 (fun e => hg e.symm)
  have T8 : Tch (fun k => k = g ∨ k = b) w w8 := T7.trans (hT_.mono (fun k h => .inr h))
  clear b7 O7 T7 hT_
  refine hK.out _ _ b8 (fun hHeld => ?_)
  clear hK K
  refine norm_ (a' := ?_) ?_ ?_
  rotate_left
  · show Act.put _ (some 79) _ = _
    simp only [Act.put, s1_, s2_, s3_]
    rfl
  refine done_ (by kernel_rfl) ?_
  clear hHeld
  go_upto_region 7 with fail
  obtain ⟨q1, q2, q3⟩ := HQ.out
  refine wp_at ?_
  intro w9 hw9
  have b9 : w9.drew.heap[g]? = some (.cells Y 50 (0, 0)) := by rw [hw9]; exact b8
  have O9 : Own w9.drew b C L (putW M s c1) := by rw [hw9]; exact O8.tch ((Tch.refl (fun _ => False) _).drew) (fun h => h)
  have T9 : Tch (fun k => k = g ∨ k = b) w w9.drew := by rw [hw9]; exact T8.drew
  clear hw9 b8 O8 T8
  refine start_ (n := 10) (S := fun w' => w'.heap[g]? = some (.cells Y 50 (0, 0))) (ds := []) #[false, false, false, false, false, false, false, false, false, false] (by kernel_rfl) rfl rfl b9 (fun hHeld => ?_)
  refine take_ (i := 0) (N := some 80) (v := ?_) (a' := ?_) #[true, false, false, false, false, false, false, false, false, false] rfl rfl (by kernel_rfl) (fun _ _ _ h => h) (Or.inl ⟨by rfl, ?_⟩) hHeld ?_ ?_
  rotate_left
  · intro w' s0
    clear s0
    go_simp
    with_reducible rfl
  rotate_left
  · simp only [Act.put, s1_, s2_, s3_, i64_w, i32_w]
    rfl
  refine pure_ (i := 1) (N := some 81) (v := ?_) (a' := ?_) #[true, true, false, false, false, false, false, false, false, false] rfl rfl (by kernel_rfl) (fun _ _ _ h => h) (Or.inl ⟨by rfl, ?_⟩) ?_ ?_
  rotate_left
  · intro w'
    go_simp
    with_reducible rfl
  rotate_left
  · simp only [Act.put, s1_, s2_, s3_, i64_w, i32_w]
    rfl
  refine pure_ (i := 2) (N := some 82) (v := ?_) (a' := ?_) #[true, true, true, false, false, false, false, false, false, false] rfl rfl (by kernel_rfl) (fun _ _ _ h => h) (Or.inl ⟨by rfl, ?_⟩) ?_ ?_
  rotate_left
  · intro w'
    go_simp
    with_reducible rfl
  rotate_left
  · simp only [Act.put, s1_, s2_, s3_, i64_w, i32_w]
    rfl
  refine pure_ (i := 3) (N := some 83) (v := ?_) (a' := ?_) #[true, true, true, true, false, false, false, false, false, false] rfl rfl (by kernel_rfl) (fun _ _ _ h => h) (Or.inl ⟨by rfl, ?_⟩) ?_ ?_
  rotate_left
  · intro w'
    go_simp
    with_reducible rfl
  rotate_left
  · simp only [Act.put, s1_, s2_, s3_, i64_w, i32_w]
    rfl
  refine take_ (i := 4) (N := some 84) (v := ?_) (a' := ?_) #[true, true, true, true, true, false, false, false, false, false] rfl rfl (by kernel_rfl) (fun _ _ _ h => h) (Or.inl ⟨by rfl, ?_⟩) hHeld ?_ ?_
  rotate_left
  · intro w' s0
    have d : w'.cell? ⟨g, 0, none⟩ = some (.slice (some ⟨b, s, none⟩) (L - s) (C - s)) := by rw [hY] at s0; exact (blk_cell s0 0).trans rfl
    clear s0
    go_simp
    with_reducible rfl
  rotate_left
  · simp only [Act.put, s1_, s2_, s3_, i64_w, i32_w]
    rfl
  refine pure_ (i := 5) (N := some 85) (v := ?_) (a' := ?_) #[true, true, true, true, true, true, false, false, false, false] rfl rfl (by kernel_rfl) (fun _ _ _ h => h) (Or.inl ⟨by rfl, ?_⟩) ?_ ?_
  rotate_left
  · intro w'
    go_simp
    with_reducible rfl
  rotate_left
  · simp only [Act.put, s1_, s2_, s3_, i64_w, i32_w]
    rfl
  refine pure_ (i := 6) (N := some 86) (v := ?_) (a' := ?_) #[true, true, true, true, true, true, true, false, false, false] rfl rfl (by kernel_rfl) (fun _ _ _ h => h) (Or.inl ⟨by rfl, ?_⟩) ?_ ?_
  rotate_left
  · intro w'
    go_simp
    with_reducible rfl
  rotate_left
  · simp only [Act.put, s1_, s2_, s3_, i64_w, i32_w]
    rfl
  refine pure_ (i := 7) (N := some 87) (v := ?_) (a' := ?_) #[true, true, true, true, true, true, true, true, false, false] rfl rfl (by kernel_rfl) (fun _ _ _ h => h) (Or.inl ⟨by rfl, ?_⟩) ?_ ?_
  rotate_left
  · intro w'
    go_simp
    with_reducible rfl
  rotate_left
  · simp only [Act.put, s1_, s2_, s3_, i64_w, i32_w]
    rfl
  refine one_ (i := 8) (N := some 88) #[true, true, true, true, true, true, true, true, true, false] rfl rfl (by kernel_rfl) (by decide) (fun K hK => ?_)
  refine goes_ Tryd.func28 (by kernel_rfl) rfl #[(.int .u64 (n1 : Int))] (by rfl) rfl rfl (by (try simp only [List.map_toArray, List.map_cons, List.map_nil]); rfl) ?_
  refine (le28 _ w9.drew).mono ?_
  rintro e w_ ⟨rfl, rfl⟩
  refine ⟨_, rfl, ?_⟩
  refine hK.out _ _ b9 (fun hHeld => ?_)
  clear hK K
  refine norm_ (a' := ?_) ?_ ?_
  rotate_left
  · show Act.put _ (some 88) _ = _
    simp only [Act.put, s1_, s2_, s3_]
    rfl
  refine one_ (i := 9) (N := some 89) #[true, true, true, true, true, true, true, true, true, true] rfl rfl (by kernel_rfl) (by decide) (fun K hK => ?_)
  refine goes_ Tryd.func31 (by kernel_rfl) rfl #[(.agg #[]), (.slice (some ⟨b, s + 8, none⟩) (L - s - 8) (C - s - 8)), (.int .u64 (n1 : Int))] (by rfl) rfl rfl (by (try simp only [List.map_toArray, List.map_cons, List.map_nil]); rfl) ?_
  refine (put31 b C L (putW M s c1) (s + 8) (L - s - 8) (C - s - 8) n1 w9.drew O9 (by have := HV.out.2.2.2.2.2.2.2.2.2.2.2.2.1; omega) (by have := HV.out.2.2.2.2.2.2.2.2.2.2.2.2.1; omega) HV.out.2.2.2.1).mono ?_
  rintro e w10 ⟨rfl, hT_, O10⟩
  refine ⟨_, rfl, ?_⟩
  have b10 : w10.heap[g]? = some (.cells Y 50 (0, 0)) := hT_.blk b9 (fun e => hg e.symm)
  have T10 : Tch (fun k => k = g ∨ k = b) w w10 := T9.trans (hT_.mono (fun k h => .inr h))
  clear b9 O9 T9 hT_
  refine hK.out _ _ b10 (fun hHeld => ?_)
  clear hK K
  refine norm_ (a' := ?_) ?_ ?_
  rotate_left
  · show Act.put _ (some 89) _ = _
    simp only [Act.put, s1_, s2_, s3_]
    rfl
  refine done_ (by kernel_rfl) ?_
  clear hHeld
  have h0 : w10.cell? ⟨g, 0, none⟩ = some (.slice (some ⟨b, s, none⟩) (L - s) (C - s)) := by rw [hY] at b10; exact (blk_cell b10 0).trans rfl
  have h4 : w10.cell? ⟨g, 4, none⟩ = some (.int .u64 (c1 : Int)) := by rw [hY] at b10; exact (blk_cell b10 4).trans rfl
  have f0 := blk_frozen b10 0
  have f4 := blk_frozen b10 4
  have HZ := Lib.hid (And.intro b10 (And.intro O10 (And.intro T10 hY)))
  clear b10 O10 T10 hY
  go_wp2
  go_end0
  obtain ⟨b10, O10, T10, hY⟩ := HZ.out
  obtain ⟨UU, LL, -, hn1, -, -, -, -, -, -, -, hL, hs, hmk⟩ := HV.out
  rw [hY] at b10
  refine ⟨rfl, (T10.set (.inl (.inl rfl)) _).set (.inl (.inl rfl)) _, _, n1, (O10.other hg).other hg, UU, ⟨some ⟨b, s + 8, none⟩, fun _ => rfl, ?_⟩, hn1, LL⟩
  rw [show L - (s + 8) = L - s - 8 by omega, show C - (s + 8) = C - s - 8 by omega, ← hmk]
  exact blk_put (blk_put b10 4 _ rfl) 0 _ rfl
end Go.Proofs.YthgbfmcicpmepaaDoor.V
