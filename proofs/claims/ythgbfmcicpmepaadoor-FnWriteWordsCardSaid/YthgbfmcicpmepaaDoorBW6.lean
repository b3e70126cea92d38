/- The writer of words: a byte across two, and whole bytes. -/
import Derived.Test.YthgbfmcicpmepaaDoorBW5
namespace Go.Proofs.YthgbfmcicpmepaaDoor.V
open Go.RowKit Go.Proofs.YthgbfmcicpmepaaDoor.B Go.Proofs.YthgbfmcicpmepaaDoorW.PrintWords Go.Proofs.YthgbfmcicpmepaaDoorW.PrintLast Go.Proofs.YthgbfmcicpmepaaDoorW.PrintMore
set_option linter.unusedVariables false
set_option linter.unusedSimpArgs false
set_option maxHeartbeats 8000000 in
set_option maxRecDepth 100000 in
theorem byte20 (g b C L : Nat) (M : Nat → Nat) (s o x cw : Nat) (len : Int) (w : World) (hO : Own w b C L M) (hg : b ≠ g) (h : Ws w g b C L s o len cw) (hL : L ≤ C) (hs : s + 2 ≤ L) (h0 : 0 < o) (ho : o < 8) (hE : L < 2 ^ 40) (hx : x < 256) (hcw : cw < 2 ^ 64) (hlow : cw % 2 ^ o = pk M (8 * s) o) :
    Calls Tryd.prog 20 #[.pointer (some ⟨g, 0, none⟩), .int .u8 (x : Int), .int .i64 8] w fun e w' => e = .returned (.tuple #[]) ∧ Tch (fun k => k = g ∨ k = b) w w' ∧ ∃ M' cw', Own w' b C L M' ∧ Upd M (8 * s + o) 8 x M' ∧ Ws w' g b C L (s + 1) o len cw' ∧ cw' < 2 ^ 64 ∧ cw' % 2 ^ o = pk M' (8 * (s + 1)) o := by
  obtain ⟨A, hA, hb⟩ := h
  obtain rfl := hA (by omega)
  clear hA
  obtain ⟨mk, hmk⟩ : ∃ mk : Nat, mk = 2 ^ o - 1 := ⟨_, rfl⟩
  rw [← hmk] at hb
  have hmk2 : mk < 256 := by
    have : 2 ^ o ≤ 2 ^ 7 := Nat.pow_le_pow_right (by omega) (by omega)
    omega
  -- the numbers
  have hnx := hO.byte (s + 1)
  obtain ⟨nx, hnxe⟩ : ∃ nx, nx = M (s + 1) := ⟨_, rfl⟩
  rw [← hnxe] at hnx
  obtain ⟨cb, hcb⟩ : ∃ cb, cb = cw % 256 := ⟨_, rfl⟩
  have hcb2 : cb < 256 := by omega
  have hcm : cb % 2 ^ o = cw % 2 ^ o := by
    rw [hcb, show (256 : Nat) = 2 ^ 8 by rfl]
    exact Nat.mod_mod_of_dvd _ (Nat.pow_dvd_pow 2 (by omega))
  rw [← hcm] at hlow
  have hal : cb % 2 ^ o < 2 ^ o := Nat.mod_lt _ (Nat.two_pow_pos _)
  obtain ⟨p1, p2, p3, p4, p5, p6⟩ := parts 8 o x (cb % 2 ^ o) nx (by omega) hx hal hnx
  obtain ⟨r, hr⟩ : ∃ r, r = x / 2 ^ (8 - o) + 2 ^ o * (x % 2 ^ (8 - o)) := ⟨_, rfl⟩
  rw [← hr] at p2 p3 p4
  obtain ⟨c1, hc1⟩ : ∃ c1, c1 = cb % 2 ^ o + 2 ^ o * (x % 2 ^ (8 - o)) := ⟨_, rfl⟩
  obtain ⟨n1, hn1⟩ : ∃ n1, n1 = x / 2 ^ (8 - o) + 2 ^ o * (nx / 2 ^ o) := ⟨_, rfl⟩
  rw [← hc1] at p5
  rw [← hn1] at p6
  obtain ⟨y1, hy1⟩ : ∃ y1 : Nat, y1 = 2 ^ o * (x % 2 ^ (8 - o)) := ⟨_, rfl⟩
  obtain ⟨y2, hy2⟩ : ∃ y2 : Nat, y2 = x / 2 ^ (8 - o) := ⟨_, rfl⟩
  obtain ⟨y3, hy3⟩ : ∃ y3 : Nat, y3 = cb % 2 ^ o := ⟨_, rfl⟩
  obtain ⟨y4, hy4⟩ : ∃ y4 : Nat, y4 = 2 ^ o * (nx / 2 ^ o) := ⟨_, rfl⟩
  have e1 : IntKind.u8.wrap ((x : Int) * 2 ^ o) = (y1 : Int) := by
    rw [hy1, show (x : Int) * 2 ^ o = ((x * 2 ^ o : Nat) : Int) by rw [Int.natCast_mul, Int.natCast_pow]; rfl]
    have : x * 2 ^ o % 2 ^ 8 = 2 ^ o * (x % 2 ^ (8 - o)) := by
      rw [Nat.mul_comm, show (2 : Nat) ^ 8 = 2 ^ o * 2 ^ (8 - o) by rw [← Nat.pow_add, show o + (8 - o) = 8 by omega], Nat.mul_mod_mul_left]
    rw [← this]
    generalize x * 2 ^ o = z
    simp [IntKind.wrap, IntKind.bits, IntKind.signed]
  have e2 : (x : Int) / 2 ^ (8 - o) = (y2 : Int) := by rw [hy2, Int.natCast_ediv, Int.natCast_pow]; rfl
  have e3 : bits .or .u8 (y1 : Int) (y2 : Int) = (r : Int) := by
    have t := or_u8 o _ _ p1 (show x / 2 ^ (8 - o) + 2 ^ o * (x % 2 ^ (8 - o)) < 256 by rw [← hr]; exact p4)
    rw [hy1, hy2, hr, ← t]
    have e : ∀ a b : Int, bits .or .u8 a b = IntKind.u8.wrap (((BitVec.ofInt 8 a ||| BitVec.ofInt 8 b).toNat : Nat) : Int) := fun a b => rfl
    rw [e, e, BitVec.or_comm]
  have e4 : bits .and .u8 (cb : Int) (mk : Int) = (y3 : Int) := by rw [hmk, hy3]; exact and_mask8 cb o hcb2 (by omega)
  have e5 : bits .andNot .u8 (r : Int) (mk : Int) = (y1 : Int) := by rw [hmk, hy1, not_mask8 r o p4 (by omega), p2]
  have e6 : bits .or .u8 (y3 : Int) (y1 : Int) = (c1 : Int) := by rw [hy3, hy1, hc1]; exact or_u8 o _ _ hal (by rw [← hc1]; exact p5)
  have e7 : bits .andNot .u8 (nx : Int) (mk : Int) = (y4 : Int) := by rw [hmk, hy4, not_mask8 nx o hnx (by omega)]
  have e8 : bits .and .u8 (r : Int) (mk : Int) = (y2 : Int) := by rw [hmk, hy2, and_mask8 r o p4 (by omega), p3]
  have e9 : bits .or .u8 (y4 : Int) (y2 : Int) = (n1 : Int) := by
    have t := or_u8 o _ _ p1 (show x / 2 ^ (8 - o) + 2 ^ o * (nx / 2 ^ o) < 256 by rw [← hn1]; exact p6)
    rw [hy4, hy2, hn1, ← t]
    have e : ∀ a b : Int, bits .or .u8 a b = IntKind.u8.wrap (((BitVec.ofInt 8 a ||| BitVec.ofInt 8 b).toNat : Nat) : Int) := fun a b => rfl
    rw [e, e, BitVec.or_comm]
  have em : IntKind.u8.wrap (mk : Int) = (mk : Int) := wrap_u8 mk hmk2
  have U1 := put1D_upd M s c1 p5
  have U2 := put1D_upd (put1D M s c1) (s + 1) n1 p6
  have UU : Upd M (8 * s + o) 8 x (put1D (put1D M s c1) (s + 1) n1) := upd_split (W := 8) (M1 := put1D M s c1) (by omega) hlow hx (by rw [← hc1]; exact U1) (by rw [show 8 * s + 8 = 8 * (s + 1) by omega, ← hn1]; exact U2) (by rw [hnxe, show 8 * s + 8 = 8 * (s + 1) by omega, pk_byte M _ (hO.byte _)])
  have LL : n1 % 2 ^ o = pk (put1D (put1D M s c1) (s + 1) n1) (8 * (s + 1)) o := by
    rw [Upd.pk U2 (8 * (s + 1)) o (Nat.le_refl _) (by omega), Nat.sub_self, Nat.pow_zero, Nat.div_one]
  have HV := Lib.hid (And.intro UU (And.intro LL (And.intro p5 (And.intro p6 (And.intro hnxe (And.intro hcb (And.intro hmk (And.intro hL hs))))))))
  have HE := Lib.hid (And.intro (And.intro e1 (And.intro e2 e3)) (And.intro (And.intro e4 (And.intro e5 e6)) (And.intro (And.intro e7 (And.intro e8 e9)) em)))
  have q0 : (0 : Int) < ((L - s : Nat) : Int) := by omega
  have q1 : (1 : Int) < ((L - s : Nat) : Int) := by omega
  have q2 : C - s ≠ 1 := by omega
  have q3 : 1 ≤ C - s := by omega
  have q4 : (1 : Int) ≤ ((L - s : Nat) : Int) := by omega
  have hM1 := hO.cell (s + 1) (by omega)
  rw [← hnxe] at hM1
  have HQ := Lib.hid (And.intro q0 (And.intro q1 (And.intro q2 (And.intro q3 (And.intro q4 hM1)))))
  clear UU LL U1 U2 hr hc1 hn1 hy1 hy2 hy3 hy4 p1 p2 p3 p4 p5 p6 hal hnx e1 e2 e3 e4 e5 e6 e7 e8 e9 em hlow hmk hL hs q0 q1 q2 q3 q4 hx hM1 hmk2
  have h1 : w.cell? ⟨g, 1, none⟩ = some (.int .i64 (o : Int)) := (blk_cell hb 1).trans rfl
  have h4 : w.cell? ⟨g, 4, none⟩ = some (.int .u64 (cw : Int)) := (blk_cell hb 4).trans rfl
  obtain ⟨X, hX⟩ : ∃ X : Array Value, X = #[.slice (some ⟨b, s, none⟩) (L - s) (C - s), .int .i64 (o : Int), .int .i64 len, .int .u64 (mk : Int), .int .u64 (cw : Int)] := ⟨_, rfl⟩
  rw [← hX] at hb
  have ko : ¬ (o : Int) = 0 := by omega
  have H0 := Lib.hid (And.intro hb hO)
  clear hb hO hcw hcm hcb2
  go_enter Tryd.func20, Tryd.ntmps20
  go_wp2_with (go_at_call 32; fail)
  refine (lsb32 cw w).mono ?_
  rintro e w1 ⟨rfl, rfl⟩
  rw [← hcb]
  clear hcb hnxe h4
  go_upto_region 3 with fail
  obtain ⟨hb, hO⟩ := H0.out
  obtain ⟨⟨e1, e2, e3⟩, -⟩ := HE.out
  clear h1
  have ku : 8 - o < 8 := by omega
  have kmin : min o 8 = o := by omega
  have kwo : IntKind.u8.wrap (o : Int) = o := wrap_u8 o (by omega)
  have kws : wrap64 (8 - (o : Int)) = ((8 - o : Nat) : Int) := by
    rw [w64_id _ (by omega) (by omega)]
    omega
  have b0 := hb
  have O0 := hO
  have T0 : Tch (fun k => k = g ∨ k = b) w w := Tch.refl _ _
  clear hb hO
  refine wp_at ?_
  intro w2 hw2
  have b2 : w2.drew.heap[g]? = some (.cells X 50 (0, 0)) := by rw [hw2]; exact b0
  have O2 : Own w2.drew b C L M := by rw [hw2]; exact O0.tch ((Tch.refl (fun _ => False) _).drew) (fun h => h)
  have T2 : Tch (fun k => k = g ∨ k = b) w w2.drew := by rw [hw2]; exact T0.drew
  clear hw2 b0 O0 T0
  refine start_ (n := 15) (S := fun w' => w'.heap[g]? = some (.cells X 50 (0, 0))) (ds := []) #[false, false, false, false, false, false, false, false, false, false, false, false, false, false, false] (by kernel_rfl) rfl rfl b2 (fun hHeld => ?_)
  refine pure_ (i := 0) (N := some 22) (v := ?_) (a' := ?_) #[true, false, false, false, false, false, false, false, false, false, false, false, false, false, false] rfl rfl (by kernel_rfl) (fun _ _ _ h => h) (Or.inl ⟨by rfl, ?_⟩) ?_ ?_
  rotate_left
  · intro w'
    go_simp
    with_reducible rfl
  rotate_left
  · simp only [Act.put, s1_, s2_, s3_, i64_w, i32_w]
    rfl
  refine pure_ (i := 1) (N := some 23) (v := ?_) (a' := ?_) #[true, true, false, false, false, false, false, false, false, false, false, false, false, false, false] rfl rfl (by kernel_rfl) (fun _ _ _ h => h) (Or.inl ⟨by rfl, ?_⟩) ?_ ?_
  rotate_left
  · intro w'
    go_simp
    with_reducible rfl
  rotate_left
  · simp only [Act.put, s1_, s2_, s3_, i64_w, i32_w]
    rfl
  refine pure_ (i := 2) (N := some 24) (v := ?_) (a' := ?_) #[true, true, true, false, false, false, false, false, false, false, false, false, false, false, false] rfl rfl (by kernel_rfl) (fun _ _ _ h => h) (Or.inl ⟨by rfl, ?_⟩) ?_ ?_
  rotate_left
  · intro w'
    go_simp
    with_reducible rfl
  rotate_left
  · simp only [Act.put, s1_, s2_, s3_, i64_w, i32_w]
    rfl
  refine pure_ (i := 3) (N := some 25) (v := ?_) (a' := ?_) #[true, true, true, true, false, false, false, false, false, false, false, false, false, false, false] rfl rfl (by kernel_rfl) (fun _ _ _ h => h) (Or.inl ⟨by rfl, ?_⟩) ?_ ?_
  rotate_left
  · intro w'
    go_simp
    with_reducible rfl
  rotate_left
  · simp only [Act.put, s1_, s2_, s3_, i64_w, i32_w]
    rfl
  refine take_ (i := 4) (N := some 26) (v := ?_) (a' := ?_) #[true, true, true, true, true, false, false, false, false, false, false, false, false, false, false] rfl rfl (by kernel_rfl) (fun _ _ _ h => h) (Or.inl ⟨by rfl, ?_⟩) hHeld ?_ ?_
  rotate_left
  · intro w' s0
    have d : w'.cell? ⟨g, 1, none⟩ = some (.int .i64 (o : Int)) := by rw [hX] at s0; exact (blk_cell s0 1).trans rfl
    clear s0
    go_simp
    with_reducible rfl
  rotate_left
  · simp only [Act.put, s1_, s2_, s3_, i64_w, i32_w]
    rfl
  refine pure_ (i := 5) (N := some 27) (v := ?_) (a' := ?_) #[true, true, true, true, true, true, false, false, false, false, false, false, false, false, false] rfl rfl (by kernel_rfl) (fun _ _ _ h => h) (Or.inl ⟨by rfl, ?_⟩) ?_ ?_
  rotate_left
  · intro w'
    go_simp
    with_reducible rfl
  rotate_left
  · simp only [Act.put, s1_, s2_, s3_, i64_w, i32_w]
    rfl
  refine pure_ (i := 6) (N := some 28) (v := ?_) (a' := ?_) #[true, true, true, true, true, true, true, false, false, false, false, false, false, false, false] rfl rfl (by kernel_rfl) (fun _ _ _ h => h) (Or.inl ⟨by rfl, ?_⟩) ?_ ?_
  rotate_left
  · intro w'
    go_simp
    with_reducible rfl
  rotate_left
  · simp only [Act.put, s1_, s2_, s3_, i64_w, i32_w]
    rfl
  refine pure_ (i := 7) (N := some 29) (v := ?_) (a' := ?_) #[true, true, true, true, true, true, true, true, false, false, false, false, false, false, false] rfl rfl (by kernel_rfl) (fun _ _ _ h => h) (Or.inl ⟨by rfl, ?_⟩) ?_ ?_
  rotate_left
  · intro w'
    go_simp
    with_reducible rfl
  rotate_left
  · simp only [Act.put, s1_, s2_, s3_, i64_w, i32_w]
    rfl
  refine pure_ (i := 8) (N := some 30) (v := ?_) (a' := ?_) #[true, true, true, true, true, true, true, true, true, false, false, false, false, false, false] rfl rfl (by kernel_rfl) (fun _ _ _ h => h) (Or.inl ⟨by rfl, ?_⟩) ?_ ?_
  rotate_left
  · intro w'
    go_simp
    with_reducible rfl
  rotate_left
  · simp only [Act.put, s1_, s2_, s3_, i64_w, i32_w]
    rfl
  refine pure_ (i := 9) (N := some 31) (v := ?_) (a' := ?_) #[true, true, true, true, true, true, true, true, true, true, false, false, false, false, false] rfl rfl (by kernel_rfl) (fun _ _ _ h => h) (Or.inl ⟨by rfl, ?_⟩) ?_ ?_
  rotate_left
  · intro w'
    go_simp
    with_reducible rfl
  rotate_left
  · simp only [Act.put, s1_, s2_, s3_, i64_w, i32_w]
    rfl
  refine take_ (i := 10) (N := some 32) (v := ?_) (a' := ?_) #[true, true, true, true, true, true, true, true, true, true, true, false, false, false, false] rfl rfl (by kernel_rfl) (fun _ _ _ h => h) (Or.inl ⟨by rfl, ?_⟩) hHeld ?_ ?_
  rotate_left
  · intro w' s0
    have d : w'.cell? ⟨g, 1, none⟩ = some (.int .i64 (o : Int)) := by rw [hX] at s0; exact (blk_cell s0 1).trans rfl
    clear s0
    go_simp
    with_reducible rfl
  rotate_left
  · simp only [Act.put, s1_, s2_, s3_, i64_w, i32_w]
    rfl
  refine pure_ (i := 11) (N := some 33) (v := ?_) (a' := ?_) #[true, true, true, true, true, true, true, true, true, true, true, true, false, false, false] rfl rfl (by kernel_rfl) (fun _ _ _ h => h) (Or.inl ⟨by rfl, ?_⟩) ?_ ?_
  rotate_left
  · intro w'
    go_simp
    with_reducible rfl
  rotate_left
  · simp only [Act.put, s1_, s2_, s3_, i64_w, i32_w]
    rfl
  refine pure_ (i := 12) (N := some 34) (v := ?_) (a' := ?_) #[true, true, true, true, true, true, true, true, true, true, true, true, true, false, false] rfl rfl (by kernel_rfl) (fun _ _ _ h => h) (Or.inl ⟨by rfl, ?_⟩) ?_ ?_
  rotate_left
  · intro w'
    go_simp
    with_reducible rfl
  rotate_left
  · simp only [Act.put, s1_, s2_, s3_, i64_w, i32_w]
    rfl
  refine pure_ (i := 13) (N := some 35) (v := ?_) (a' := ?_) #[true, true, true, true, true, true, true, true, true, true, true, true, true, true, false] rfl rfl (by kernel_rfl) (fun _ _ _ h => h) (Or.inl ⟨by rfl, ?_⟩) ?_ ?_
  rotate_left
  · intro w'
    go_simp
    with_reducible rfl
  rotate_left
  · simp only [Act.put, s1_, s2_, s3_, i64_w, i32_w]
    rfl
  refine pure_ (i := 14) (N := some 1) (v := ?_) (a' := ?_) #[true, true, true, true, true, true, true, true, true, true, true, true, true, true, true] rfl rfl (by kernel_rfl) (fun _ _ _ h => h) (Or.inl ⟨by rfl, ?_⟩) ?_ ?_
  rotate_left
  · intro w'
    go_simp
    with_reducible rfl
  rotate_left
  · simp only [Act.put, s1_, s2_, s3_, i64_w, i32_w]
    rfl
  refine done_ (by kernel_rfl) ?_
  clear hHeld e1 e2 e3 kws kmin kwo ku H0
  have hc0 : w2.drew.cell? ⟨g, 0, none⟩ = some (.slice (some ⟨b, s, none⟩) (L - s) (C - s)) := by rw [hX] at b2; exact (blk_cell b2 0).trans rfl
  obtain ⟨q0, q1, q2, q3, q4, hM⟩ := HQ.out
  have hM1 : w2.drew.cell? ⟨b, s + 1, none⟩ = some (.int .u8 (nx : Int)) := by rw [HV.out.2.2.2.2.1]; exact O2.cell (s + 1) (by have := HV.out.2.2.2.2.2.2.2.2; omega)
  clear hM
  have HH := Lib.hid (And.intro b2 (And.intro O2 T2))
  clear b2 O2 T2
  go_upto_region 5 with fail
  obtain ⟨b2, O2, T2⟩ := HH.out
  obtain ⟨-, ⟨e4, e5, e6⟩, ⟨e7, e8, e9⟩, em⟩ := HE.out
  clear hc0 hM1 q0 q1 q2 q3 q4
  refine wp_at ?_
  intro w3 hw3
  have b3 : w3.drew.heap[g]? = some (.cells X 50 (0, 0)) := by rw [hw3]; exact b2
  have O3 : Own w3.drew b C L M := by rw [hw3]; exact O2.tch ((Tch.refl (fun _ => False) _).drew) (fun h => h)
  have T3 : Tch (fun k => k = g ∨ k = b) w w3.drew := by rw [hw3]; exact T2.drew
  clear hw3 b2 O2 T2
  refine start_ (n := 16) (S := fun w' => w'.heap[g]? = some (.cells X 50 (0, 0))) (ds := []) #[false, false, false, false, false, false, false, false, false, false, false, false, false, false, false, false] (by kernel_rfl) rfl rfl b3 (fun hHeld => ?_)
  refine pure_ (i := 0) (N := some 42) (v := ?_) (a' := ?_) #[true, false, false, false, false, false, false, false, false, false, false, false, false, false, false, false] rfl rfl (by kernel_rfl) (fun _ _ _ h => h) (Or.inl ⟨by rfl, ?_⟩) ?_ ?_
  rotate_left
  · intro w'
    go_simp
    with_reducible rfl
  rotate_left
  · simp only [Act.put, s1_, s2_, s3_, i64_w, i32_w]
    rfl
  refine pure_ (i := 1) (N := some 43) (v := ?_) (a' := ?_) #[true, true, false, false, false, false, false, false, false, false, false, false, false, false, false, false] rfl rfl (by kernel_rfl) (fun _ _ _ h => h) (Or.inl ⟨by rfl, ?_⟩) ?_ ?_
  rotate_left
  · intro w'
    go_simp
    with_reducible rfl
  rotate_left
  · simp only [Act.put, s1_, s2_, s3_, i64_w, i32_w]
    rfl
  refine pure_ (i := 2) (N := some 44) (v := ?_) (a' := ?_) #[true, true, true, false, false, false, false, false, false, false, false, false, false, false, false, false] rfl rfl (by kernel_rfl) (fun _ _ _ h => h) (Or.inl ⟨by rfl, ?_⟩) ?_ ?_
  rotate_left
  · intro w'
    go_simp
    with_reducible rfl
  rotate_left
  · simp only [Act.put, s1_, s2_, s3_, i64_w, i32_w]
    rfl
  refine pure_ (i := 3) (N := some 45) (v := ?_) (a' := ?_) #[true, true, true, true, false, false, false, false, false, false, false, false, false, false, false, false] rfl rfl (by kernel_rfl) (fun _ _ _ h => h) (Or.inl ⟨by rfl, ?_⟩) ?_ ?_
  rotate_left
  · intro w'
    go_simp
    with_reducible rfl
  rotate_left
  · simp only [Act.put, s1_, s2_, s3_, i64_w, i32_w]
    rfl
  refine take_ (i := 4) (N := some 46) (v := ?_) (a' := ?_) #[true, true, true, true, true, false, false, false, false, false, false, false, false, false, false, false] rfl rfl (by kernel_rfl) (fun _ _ _ h => h) (Or.inl ⟨by rfl, ?_⟩) hHeld ?_ ?_
  rotate_left
  · intro w' s0
    have d : w'.cell? ⟨g, 3, none⟩ = some (.int .u64 (mk : Int)) := by rw [hX] at s0; exact (blk_cell s0 3).trans rfl
    clear s0
    go_simp
    with_reducible rfl
  rotate_left
  · simp only [Act.put, s1_, s2_, s3_, i64_w, i32_w]
    rfl
  refine pure_ (i := 5) (N := some 47) (v := ?_) (a' := ?_) #[true, true, true, true, true, true, false, false, false, false, false, false, false, false, false, false] rfl rfl (by kernel_rfl) (fun _ _ _ h => h) (Or.inl ⟨by rfl, ?_⟩) ?_ ?_
  rotate_left
  · intro w'
    go_simp
    with_reducible rfl
  rotate_left
  · simp only [Act.put, s1_, s2_, s3_, i64_w, i32_w]
    rfl
  refine pure_ (i := 6) (N := some 48) (v := ?_) (a' := ?_) #[true, true, true, true, true, true, true, false, false, false, false, false, false, false, false, false] rfl rfl (by kernel_rfl) (fun _ _ _ h => h) (Or.inl ⟨by rfl, ?_⟩) ?_ ?_
  rotate_left
  · intro w'
    go_simp
    with_reducible rfl
  rotate_left
  · simp only [Act.put, s1_, s2_, s3_, i64_w, i32_w]
    rfl
  refine pure_ (i := 7) (N := some 49) (v := ?_) (a' := ?_) #[true, true, true, true, true, true, true, true, false, false, false, false, false, false, false, false] rfl rfl (by kernel_rfl) (fun _ _ _ h => h) (Or.inl ⟨by rfl, ?_⟩) ?_ ?_
  rotate_left
  · intro w'
    go_simp
    with_reducible rfl
  rotate_left
  · simp only [Act.put, s1_, s2_, s3_, i64_w, i32_w]
    rfl
  refine pure_ (i := 8) (N := some 50) (v := ?_) (a' := ?_) #[true, true, true, true, true, true, true, true, true, false, false, false, false, false, false, false] rfl rfl (by kernel_rfl) (fun _ _ _ h => h) (Or.inl ⟨by rfl, ?_⟩) ?_ ?_
  rotate_left
  · intro w'
    go_simp
    with_reducible rfl
  rotate_left
  · simp only [Act.put, s1_, s2_, s3_, i64_w, i32_w]
    rfl
  refine pure_ (i := 9) (N := some 51) (v := ?_) (a' := ?_) #[true, true, true, true, true, true, true, true, true, true, false, false, false, false, false, false] rfl rfl (by kernel_rfl) (fun _ _ _ h => h) (Or.inl ⟨by rfl, ?_⟩) ?_ ?_
  rotate_left
  · intro w'
    go_simp
    with_reducible rfl
  rotate_left
  · simp only [Act.put, s1_, s2_, s3_, i64_w, i32_w]
    rfl
  refine pure_ (i := 10) (N := some 52) (v := ?_) (a' := ?_) #[true, true, true, true, true, true, true, true, true, true, true, false, false, false, false, false] rfl rfl (by kernel_rfl) (fun _ _ _ h => h) (Or.inl ⟨by rfl, ?_⟩) ?_ ?_
  rotate_left
  · intro w'
    go_simp
    with_reducible rfl
  rotate_left
  · simp only [Act.put, s1_, s2_, s3_, i64_w, i32_w]
    rfl
  refine take_ (i := 11) (N := some 53) (v := ?_) (a' := ?_) #[true, true, true, true, true, true, true, true, true, true, true, true, false, false, false, false] rfl rfl (by kernel_rfl) (fun _ _ _ h => h) (Or.inl ⟨by rfl, ?_⟩) hHeld ?_ ?_
  rotate_left
  · intro w' s0
    have d : w'.cell? ⟨g, 3, none⟩ = some (.int .u64 (mk : Int)) := by rw [hX] at s0; exact (blk_cell s0 3).trans rfl
    clear s0
    go_simp
    with_reducible rfl
  rotate_left
  · simp only [Act.put, s1_, s2_, s3_, i64_w, i32_w]
    rfl
  refine pure_ (i := 12) (N := some 54) (v := ?_) (a' := ?_) #[true, true, true, true, true, true, true, true, true, true, true, true, true, false, false, false] rfl rfl (by kernel_rfl) (fun _ _ _ h => h) (Or.inl ⟨by rfl, ?_⟩) ?_ ?_
  rotate_left
  · intro w'
    go_simp
    with_reducible rfl
  rotate_left
  · simp only [Act.put, s1_, s2_, s3_, i64_w, i32_w]
    rfl
  refine pure_ (i := 13) (N := some 55) (v := ?_) (a' := ?_) #[true, true, true, true, true, true, true, true, true, true, true, true, true, true, false, false] rfl rfl (by kernel_rfl) (fun _ _ _ h => h) (Or.inl ⟨by rfl, ?_⟩) ?_ ?_
  rotate_left
  · intro w'
    go_simp
    with_reducible rfl
  rotate_left
  · simp only [Act.put, s1_, s2_, s3_, i64_w, i32_w]
    rfl
  refine pure_ (i := 14) (N := some 56) (v := ?_) (a' := ?_) #[true, true, true, true, true, true, true, true, true, true, true, true, true, true, true, false] rfl rfl (by kernel_rfl) (fun _ _ _ h => h) (Or.inl ⟨by rfl, ?_⟩) ?_ ?_
  rotate_left
  · intro w'
    go_simp
    with_reducible rfl
  rotate_left
  · simp only [Act.put, s1_, s2_, s3_, i64_w, i32_w]
    rfl
  refine pure_ (i := 15) (N := some 6) (v := ?_) (a' := ?_) #[true, true, true, true, true, true, true, true, true, true, true, true, true, true, true, true] rfl rfl (by kernel_rfl) (fun _ _ _ h => h) (Or.inl ⟨by rfl, ?_⟩) ?_ ?_
  rotate_left
  · intro w'
    go_simp
    with_reducible rfl
  rotate_left
  · simp only [Act.put, s1_, s2_, s3_, i64_w, i32_w]
    rfl
  refine done_ (by kernel_rfl) ?_
  clear hHeld HH
  have HH2 := Lib.hid (And.intro e7 (And.intro e8 (And.intro e9 em)))
  clear e4 e5 e6 e7 e8 e9 em
  go_upto_region 6 with fail
  obtain ⟨e7, e8, e9, em⟩ := HH2.out
  refine wp_at ?_
  intro w4 hw4
  have b4 : w4.drew.heap[g]? = some (.cells X 50 (0, 0)) := by rw [hw4]; exact b3
  have O4 : Own w4.drew b C L M := by rw [hw4]; exact O3.tch ((Tch.refl (fun _ => False) _).drew) (fun h => h)
  have T4 : Tch (fun k => k = g ∨ k = b) w w4.drew := by rw [hw4]; exact T3.drew
  clear hw4 b3 O3 T3
  refine start_ (n := 16) (S := fun w' => w'.heap[g]? = some (.cells X 50 (0, 0))) (ds := []) #[false, false, false, false, false, false, false, false, false, false, false, false, false, false, false, false] (by kernel_rfl) rfl rfl b4 (fun hHeld => ?_)
  refine pure_ (i := 0) (N := some 57) (v := ?_) (a' := ?_) #[true, false, false, false, false, false, false, false, false, false, false, false, false, false, false, false] rfl rfl (by kernel_rfl) (fun _ _ _ h => h) (Or.inl ⟨by rfl, ?_⟩) ?_ ?_
  rotate_left
  · intro w'
    go_simp
    with_reducible rfl
  rotate_left
  · simp only [Act.put, s1_, s2_, s3_, i64_w, i32_w]
    rfl
  refine pure_ (i := 1) (N := some 58) (v := ?_) (a' := ?_) #[true, true, false, false, false, false, false, false, false, false, false, false, false, false, false, false] rfl rfl (by kernel_rfl) (fun _ _ _ h => h) (Or.inl ⟨by rfl, ?_⟩) ?_ ?_
  rotate_left
  · intro w'
    go_simp
    with_reducible rfl
  rotate_left
  · simp only [Act.put, s1_, s2_, s3_, i64_w, i32_w]
    rfl
  refine pure_ (i := 2) (N := some 59) (v := ?_) (a' := ?_) #[true, true, true, false, false, false, false, false, false, false, false, false, false, false, false, false] rfl rfl (by kernel_rfl) (fun _ _ _ h => h) (Or.inl ⟨by rfl, ?_⟩) ?_ ?_
  rotate_left
  · intro w'
    go_simp
    with_reducible rfl
  rotate_left
  · simp only [Act.put, s1_, s2_, s3_, i64_w, i32_w]
    rfl
  refine pure_ (i := 3) (N := some 60) (v := ?_) (a' := ?_) #[true, true, true, true, false, false, false, false, false, false, false, false, false, false, false, false] rfl rfl (by kernel_rfl) (fun _ _ _ h => h) (Or.inl ⟨by rfl, ?_⟩) ?_ ?_
  rotate_left
  · intro w'
    go_simp
    with_reducible rfl
  rotate_left
  · simp only [Act.put, s1_, s2_, s3_, i64_w, i32_w]
    rfl
  refine take_ (i := 4) (N := some 61) (v := ?_) (a' := ?_) #[true, true, true, true, true, false, false, false, false, false, false, false, false, false, false, false] rfl rfl (by kernel_rfl) (fun _ _ _ h => h) (Or.inl ⟨by rfl, ?_⟩) hHeld ?_ ?_
  rotate_left
  · intro w' s0
    have d : w'.cell? ⟨g, 3, none⟩ = some (.int .u64 (mk : Int)) := by rw [hX] at s0; exact (blk_cell s0 3).trans rfl
    clear s0
    go_simp
    with_reducible rfl
  rotate_left
  · simp only [Act.put, s1_, s2_, s3_, i64_w, i32_w]
    rfl
  refine pure_ (i := 5) (N := some 62) (v := ?_) (a' := ?_) #[true, true, true, true, true, true, false, false, false, false, false, false, false, false, false, false] rfl rfl (by kernel_rfl) (fun _ _ _ h => h) (Or.inl ⟨by rfl, ?_⟩) ?_ ?_
  rotate_left
  · intro w'
    go_simp
    with_reducible rfl
  rotate_left
  · simp only [Act.put, s1_, s2_, s3_, i64_w, i32_w]
    rfl
  refine pure_ (i := 6) (N := some 63) (v := ?_) (a' := ?_) #[true, true, true, true, true, true, true, false, false, false, false, false, false, false, false, false] rfl rfl (by kernel_rfl) (fun _ _ _ h => h) (Or.inl ⟨by rfl, ?_⟩) ?_ ?_
  rotate_left
  · intro w'
    go_simp
    with_reducible rfl
  rotate_left
  · simp only [Act.put, s1_, s2_, s3_, i64_w, i32_w]
    rfl
  refine pure_ (i := 7) (N := some 64) (v := ?_) (a' := ?_) #[true, true, true, true, true, true, true, true, false, false, false, false, false, false, false, false] rfl rfl (by kernel_rfl) (fun _ _ _ h => h) (Or.inl ⟨by rfl, ?_⟩) ?_ ?_
  rotate_left
  · intro w'
    go_simp
    with_reducible rfl
  rotate_left
  · simp only [Act.put, s1_, s2_, s3_, i64_w, i32_w]
    rfl
  refine pure_ (i := 8) (N := some 65) (v := ?_) (a' := ?_) #[true, true, true, true, true, true, true, true, true, false, false, false, false, false, false, false] rfl rfl (by kernel_rfl) (fun _ _ _ h => h) (Or.inl ⟨by rfl, ?_⟩) ?_ ?_
  rotate_left
  · intro w'
    go_simp
    with_reducible rfl
  rotate_left
  · simp only [Act.put, s1_, s2_, s3_, i64_w, i32_w]
    rfl
  refine pure_ (i := 9) (N := some 66) (v := ?_) (a' := ?_) #[true, true, true, true, true, true, true, true, true, true, false, false, false, false, false, false] rfl rfl (by kernel_rfl) (fun _ _ _ h => h) (Or.inl ⟨by rfl, ?_⟩) ?_ ?_
  rotate_left
  · intro w'
    go_simp
    with_reducible rfl
  rotate_left
  · simp only [Act.put, s1_, s2_, s3_, i64_w, i32_w]
    rfl
  refine pure_ (i := 10) (N := some 67) (v := ?_) (a' := ?_) #[true, true, true, true, true, true, true, true, true, true, true, false, false, false, false, false] rfl rfl (by kernel_rfl) (fun _ _ _ h => h) (Or.inl ⟨by rfl, ?_⟩) ?_ ?_
  rotate_left
  · intro w'
    go_simp
    with_reducible rfl
  rotate_left
  · simp only [Act.put, s1_, s2_, s3_, i64_w, i32_w]
    rfl
  refine take_ (i := 11) (N := some 68) (v := ?_) (a' := ?_) #[true, true, true, true, true, true, true, true, true, true, true, true, false, false, false, false] rfl rfl (by kernel_rfl) (fun _ _ _ h => h) (Or.inl ⟨by rfl, ?_⟩) hHeld ?_ ?_
  rotate_left
  · intro w' s0
    have d : w'.cell? ⟨g, 3, none⟩ = some (.int .u64 (mk : Int)) := by rw [hX] at s0; exact (blk_cell s0 3).trans rfl
    clear s0
    go_simp
    with_reducible rfl
  rotate_left
  · simp only [Act.put, s1_, s2_, s3_, i64_w, i32_w]
    rfl
  refine pure_ (i := 12) (N := some 69) (v := ?_) (a' := ?_) #[true, true, true, true, true, true, true, true, true, true, true, true, true, false, false, false] rfl rfl (by kernel_rfl) (fun _ _ _ h => h) (Or.inl ⟨by rfl, ?_⟩) ?_ ?_
  rotate_left
  · intro w'
    go_simp
    with_reducible rfl
  rotate_left
  · simp only [Act.put, s1_, s2_, s3_, i64_w, i32_w]
    rfl
  refine pure_ (i := 13) (N := some 70) (v := ?_) (a' := ?_) #[true, true, true, true, true, true, true, true, true, true, true, true, true, true, false, false] rfl rfl (by kernel_rfl) (fun _ _ _ h => h) (Or.inl ⟨by rfl, ?_⟩) ?_ ?_
  rotate_left
  · intro w'
    go_simp
    with_reducible rfl
  rotate_left
  · simp only [Act.put, s1_, s2_, s3_, i64_w, i32_w]
    rfl
  refine pure_ (i := 14) (N := some 71) (v := ?_) (a' := ?_) #[true, true, true, true, true, true, true, true, true, true, true, true, true, true, true, false] rfl rfl (by kernel_rfl) (fun _ _ _ h => h) (Or.inl ⟨by rfl, ?_⟩) ?_ ?_
  rotate_left
  · intro w'
    go_simp
    with_reducible rfl
  rotate_left
  · simp only [Act.put, s1_, s2_, s3_, i64_w, i32_w]
    rfl
  refine pure_ (i := 15) (N := some 7) (v := ?_) (a' := ?_) #[true, true, true, true, true, true, true, true, true, true, true, true, true, true, true, true] rfl rfl (by kernel_rfl) (fun _ _ _ h => h) (Or.inl ⟨by rfl, ?_⟩) ?_ ?_
  rotate_left
  · intro w'
    go_simp
    with_reducible rfl
  rotate_left
  · simp only [Act.put, s1_, s2_, s3_, i64_w, i32_w]
    rfl
  refine done_ (by kernel_rfl) ?_
  clear hHeld e7 e8 e9 em HH2
  go_upto_region 7 with fail
  refine wp_at ?_
  intro w5 hw5
  rw [← hw5] at b4 O4 T4
  clear hw5
  have hc0 : w5.cell? ⟨g, 0, none⟩ = some (.slice (some ⟨b, s, none⟩) (L - s) (C - s)) := by rw [hX] at b4; exact (blk_cell b4 0).trans rfl
  have hc4 : w5.cell? ⟨g, 4, none⟩ = some (.int .u64 (cw : Int)) := by rw [hX] at b4; exact (blk_cell b4 4).trans rfl
  have f0 := blk_frozen b4 0
  have f4 := blk_frozen b4 4
  obtain ⟨q0, q1, q2, q3, q4, -⟩ := HQ.out
  have cb0 := O4.cell s (by have := HV.out.2.2.2.2.2.2.2.2; omega)
  have cb1 := O4.cell (s + 1) (by have := HV.out.2.2.2.2.2.2.2.2; omega)
  have fb0 := O4.frozen s
  have fb1 := O4.frozen (s + 1)
  have hge : g ≠ b := fun e => hg e.symm
  have kn : IntKind.u64.wrap (n1 : Int) = (n1 : Int) := wrap_u64 n1 (by have := HV.out.2.2.2.1; omega)
  have HZ := Lib.hid (And.intro b4 (And.intro O4 (And.intro T4 hX)))
  clear b4 O4 T4 hX
  go_wp2
  go_end0
  obtain ⟨b4, O4, T4, hX⟩ := HZ.out
  obtain ⟨UU, LL, hc1, hn1, -, -, hmk, hL, hs⟩ := HV.out
  rw [hX] at b4
  have n256 : (2 : Nat) ^ 8 = 256 := by decide
  refine ⟨rfl, ((((T4.set (.inl (.inr rfl)) _).set (.inl (.inr rfl)) _).set (.inl (.inl rfl)) _).set (.inl (.inl rfl)) _), _, n1, ((((O4.put s c1 hc1).put (s + 1) n1 hn1).other hg).other hg), UU, ⟨some ⟨b, s + 1, none⟩, fun _ => rfl, ?_⟩, by omega, LL⟩
  rw [show L - (s + 1) = L - s - 1 by omega, show C - (s + 1) = C - s - 1 by omega, ← hmk]
  exact blk_put (blk_put (blk_other_ hge (blk_other_ hge b4)) 4 _ rfl) 0 _ rfl
end Go.Proofs.YthgbfmcicpmepaaDoor.V
