/- What the small functions of the readers of bits do. -/
import Derived.Test.YthgbfmcicpmepaaDoorBT0
import Derived.Test.YthgbfmcicpmepaaDoorV0
namespace Go.Proofs.YthgbfmcicpmepaaDoor.V
open Go.RowKit Go.Proofs.YthgbfmcicpmepaaDoor.B Go.Proofs.YthgbfmcicpmepaaDoorW.PrintWords Go.Proofs.YthgbfmcicpmepaaDoorW.PrintLast Go.Proofs.YthgbfmcicpmepaaDoorW.PrintMore
set_option linter.unusedVariables false
set_option linter.unusedSimpArgs false
theorem set30 (g j : Nat) (cw b : Nat) (w : World) (hcw : cw < 2 ^ 64) (hb : b < 256) (h0 : w.cell? ⟨g, j, none⟩ = some (.int .u64 (cw : Int))) (f0 : w.frozen? ⟨g, j, none⟩ = false) :
    Calls Tryd.prog 30 #[.pointer (some ⟨g, j, none⟩), .int .u8 (b : Int)] w fun e w' => e = .returned (.tuple #[]) ∧ w' = w.setCell ⟨g, j, none⟩ (.int .u64 ((b + 2 ^ 8 * (cw / 256) : Nat) : Int)) := by
  have k1 := clear_low cw hcw
  have K3 := Lib.hid (or_u64' 8 b (cw / 256) hb (by omega))
  go_enter Tryd.func30, Tryd.ntmps30
  go_wp2
  go_end0
  refine ⟨rfl, ?_⟩
  rw [← K3.out]
  rfl
theorem wp_at {P : Program} {c : Code} {Q : Exit → Act → World → Prop} {a : Act} {W : World} (h : ∀ w0, w0 = W → Code.wp P c Q a w0) : Code.wp P c Q a W := h _ rfl
theorem calls_at {P : Program} {f : FuncId} {a : Array Value} {W : World} {Q : Ending → World → Prop} (h : ∀ w0, w0 = W → Calls P f a w0 Q) : Calls P f a W Q := h _ rfl
theorem word_or (x0 x1 x2 x3 x4 x5 x6 x7 : Nat) (T1 T2 T3 T4 T5 T6 T7 : Int) (b0 : x0 < 256) (b1 : x1 < 256) (b2 : x2 < 256) (b3 : x3 < 256) (b4 : x4 < 256) (b5 : x5 < 256) (b6 : x6 < 256) (b7 : x7 < 256)
    (e1 : T1 = ((2 ^ 8 * x1 : Nat) : Int)) (e2 : T2 = ((2 ^ 16 * x2 : Nat) : Int)) (e3 : T3 = ((2 ^ 24 * x3 : Nat) : Int)) (e4 : T4 = ((2 ^ 32 * x4 : Nat) : Int)) (e5 : T5 = ((2 ^ 40 * x5 : Nat) : Int)) (e6 : T6 = ((2 ^ 48 * x6 : Nat) : Int)) (e7 : T7 = ((2 ^ 56 * x7 : Nat) : Int)) :
    bits .or .u64 (bits .or .u64 (bits .or .u64 (bits .or .u64 (bits .or .u64 (bits .or .u64 (bits .or .u64 (IntKind.u64.wrap (x0 : Int)) T1) T2) T3) T4) T5) T6) T7 = ((x0 + x1 * 256 + x2 * 65536 + x3 * 16777216 + x4 * 4294967296 + x5 * 1099511627776 + x6 * 281474976710656 + x7 * 72057594037927936 : Nat) : Int) := by
  subst e1 e2 e3 e4 e5 e6 e7
  rw [wrap_u64 _ (by omega), or_u64 8 _ _ (by omega) (by omega), or_u64 16 _ _ (by omega) (by omega), or_u64 24 _ _ (by omega) (by omega), or_u64 32 _ _ (by omega) (by omega), or_u64 40 _ _ (by omega) (by omega), or_u64 48 _ _ (by omega) (by omega), or_u64 56 _ _ (by omega) (by omega)]
  congr 1
  omega
theorem shl_word (k x : Nat) (m : Int) (h : x < 256) (hk : k ≤ 56) (hm : m = 2 ^ k) : IntKind.u64.wrap (IntKind.u64.wrap (x : Int) * m) = ((2 ^ k * x : Nat) : Int) := by
  subst hm
  have h1 : 2 ^ k * x < 2 ^ 64 := by
    calc 2 ^ k * x < 2 ^ k * 256 := Nat.mul_lt_mul_of_pos_left h (Nat.two_pow_pos k)
      _ ≤ 2 ^ 56 * 256 := Nat.mul_le_mul_right _ (Nat.pow_le_pow_right (by omega) hk)
      _ = 2 ^ 64 := by decide
  rw [wrap_u64 x (by omega), show (x : Int) * 2 ^ k = ((2 ^ k * x : Nat) : Int) by rw [Int.natCast_mul, Int.mul_comm]; rfl, wrap_u64 _ h1]
set_option maxHeartbeats 1000000 in
theorem get29 (B O L : Nat) (D : Nat → Nat) (n m s c : Nat) (w : World) (hD : Dat w B O L D) (hn : n = O + s) (hm : 8 ≤ m) (hs : s + 8 ≤ L) :
    Calls Tryd.prog 29 #[.agg #[], .slice (some ⟨B, n, none⟩) m c] w fun e w' => e = .returned (.int .u64 (pk D (8 * s) 64 : Nat)) ∧ Below w.heap.size w w' := by
  subst hn
  have HW := Lib.hid (pk_word D s (fun j _ => hD.byte _))
  obtain ⟨V, hV⟩ : ∃ V, V = pk D (8 * s) 64 := ⟨_, rfl⟩
  rw [← hV] at HW ⊢
  clear hV
  have H := Lib.hid hD
  have a7 := (hD.tch ((Tch.refl (fun _ => False) w).alloc (.cells #[] 53)) (fun h => h)).at_ (s + 7) (O + s + 7) (by omega) (by omega)
  clear hD
  go_enter Tryd.func29, Tryd.ntmps29
  go_wp2
  clear a7
  refine wp_at ?_
  intro w1 hw1
  have hb : Below w.heap.size w w1 := by rw [hw1]; exact (Below.refl _ _).alloc (Nat.le_refl _) _
  have hD' := H.out.tch (Tch.of_below (S := fun _ => False) hb) (fun h => h)
  clear hw1 H
  have h0 := hD'.at_ s (O + s) (by omega) (by omega)
  have h1 := hD'.at_ (s + 1) (O + s + 1) (by omega) (by omega)
  have h2 := hD'.at_ (s + 2) (O + s + 2) (by omega) (by omega)
  have h3 := hD'.at_ (s + 3) (O + s + 3) (by omega) (by omega)
  have h4 := hD'.at_ (s + 4) (O + s + 4) (by omega) (by omega)
  have h5 := hD'.at_ (s + 5) (O + s + 5) (by omega) (by omega)
  have h6 := hD'.at_ (s + 6) (O + s + 6) (by omega) (by omega)
  have h7 := hD'.at_ (s + 7) (O + s + 7) (by omega) (by omega)
  have b0 := hD'.byte s
  have b1 := hD'.byte (s + 1)
  have b2 := hD'.byte (s + 2)
  have b3 := hD'.byte (s + 3)
  have b4 := hD'.byte (s + 4)
  have b5 := hD'.byte (s + 5)
  have b6 := hD'.byte (s + 6)
  have b7 := hD'.byte (s + 7)
  clear hD'
  generalize D s = x0 at *
  generalize D (s + 1) = x1 at *
  generalize D (s + 2) = x2 at *
  generalize D (s + 3) = x3 at *
  generalize D (s + 4) = x4 at *
  generalize D (s + 5) = x5 at *
  generalize D (s + 6) = x6 at *
  generalize D (s + 7) = x7 at *
  have hb1 := hb.drew
  have m0 : 0 < m := by omega
  have m1 : (1 : Int) < (m : Int) := by omega
  have m2 : (2 : Int) < (m : Int) := by omega
  have m3 : (3 : Int) < (m : Int) := by omega
  have m4 : (4 : Int) < (m : Int) := by omega
  have m5 : (5 : Int) < (m : Int) := by omega
  have m6 : (6 : Int) < (m : Int) := by omega
  have m7 : (7 : Int) < (m : Int) := by omega
  have q : w1.drew = w1.drew := rfl
  refine start_ (n := 47) (S := fun w' => w'.cell? ⟨B, O + s, none⟩ = some (.int .u8 (x0 : Int)) ∧ w'.cell? ⟨B, O + s + 1, none⟩ = some (.int .u8 (x1 : Int)) ∧ w'.cell? ⟨B, O + s + 2, none⟩ = some (.int .u8 (x2 : Int)) ∧ w'.cell? ⟨B, O + s + 3, none⟩ = some (.int .u8 (x3 : Int)) ∧ w'.cell? ⟨B, O + s + 4, none⟩ = some (.int .u8 (x4 : Int)) ∧ w'.cell? ⟨B, O + s + 5, none⟩ = some (.int .u8 (x5 : Int)) ∧ w'.cell? ⟨B, O + s + 6, none⟩ = some (.int .u8 (x6 : Int)) ∧ w'.cell? ⟨B, O + s + 7, none⟩ = some (.int .u8 (x7 : Int))) (ds := []) #[false, false, false, false, false, false, false, false, false, false, false, false, false, false, false, false, false, false, false, false, false, false, false, false, false, false, false, false, false, false, false, false, false, false, false, false, false, false, false, false, false, false, false, false, false, false, false] (by kernel_rfl) rfl rfl ⟨h0, h1, h2, h3, h4, h5, h6, h7⟩ (fun hHeld => ?_)
  refine pure_ (i := 0) (N := some 8) (v := ?_) (a' := ?_) #[true, false, false, false, false, false, false, false, false, false, false, false, false, false, false, false, false, false, false, false, false, false, false, false, false, false, false, false, false, false, false, false, false, false, false, false, false, false, false, false, false, false, false, false, false, false, false] rfl rfl (by kernel_rfl) (fun _ _ _ h => h) (Or.inl ⟨by rfl, ?_⟩) ?_ ?_
  rotate_left
  · intro w'
    go_simp
    with_reducible rfl
  rotate_left
  · simp only [Act.put, s1_, s2_, s3_, i64_w, i32_w]
    rfl
  refine pure_ (i := 1) (N := some 9) (v := ?_) (a' := ?_) #[true, true, false, false, false, false, false, false, false, false, false, false, false, false, false, false, false, false, false, false, false, false, false, false, false, false, false, false, false, false, false, false, false, false, false, false, false, false, false, false, false, false, false, false, false, false, false] rfl rfl (by kernel_rfl) (fun _ _ _ h => h) (Or.inl ⟨by rfl, ?_⟩) ?_ ?_
  rotate_left
  · intro w'
    go_simp
    with_reducible rfl
  rotate_left
  · simp only [Act.put, s1_, s2_, s3_, i64_w, i32_w]
    rfl
  refine take_ (i := 2) (N := some 10) (v := ?_) (a' := ?_) #[true, true, true, false, false, false, false, false, false, false, false, false, false, false, false, false, false, false, false, false, false, false, false, false, false, false, false, false, false, false, false, false, false, false, false, false, false, false, false, false, false, false, false, false, false, false, false] rfl rfl (by kernel_rfl) (fun _ _ _ h => h) (Or.inl ⟨by rfl, ?_⟩) hHeld ?_ ?_
  rotate_left
  · intro w' s0
    have d := s0.1
    clear s0
    go_simp
    with_reducible rfl
  rotate_left
  · simp only [Act.put, s1_, s2_, s3_, i64_w, i32_w]
    rfl
  refine pure_ (i := 3) (N := some 11) (v := ?_) (a' := ?_) #[true, true, true, true, false, false, false, false, false, false, false, false, false, false, false, false, false, false, false, false, false, false, false, false, false, false, false, false, false, false, false, false, false, false, false, false, false, false, false, false, false, false, false, false, false, false, false] rfl rfl (by kernel_rfl) (fun _ _ _ h => h) (Or.inl ⟨by rfl, ?_⟩) ?_ ?_
  rotate_left
  · intro w'
    go_simp
    with_reducible rfl
  rotate_left
  · simp only [Act.put, s1_, s2_, s3_, i64_w, i32_w]
    rfl
  refine pure_ (i := 4) (N := some 12) (v := ?_) (a' := ?_) #[true, true, true, true, true, false, false, false, false, false, false, false, false, false, false, false, false, false, false, false, false, false, false, false, false, false, false, false, false, false, false, false, false, false, false, false, false, false, false, false, false, false, false, false, false, false, false] rfl rfl (by kernel_rfl) (fun _ _ _ h => h) (Or.inl ⟨by rfl, ?_⟩) ?_ ?_
  rotate_left
  · intro w'
    go_simp
    with_reducible rfl
  rotate_left
  · simp only [Act.put, s1_, s2_, s3_, i64_w, i32_w]
    rfl
  refine pure_ (i := 5) (N := some 13) (v := ?_) (a' := ?_) #[true, true, true, true, true, true, false, false, false, false, false, false, false, false, false, false, false, false, false, false, false, false, false, false, false, false, false, false, false, false, false, false, false, false, false, false, false, false, false, false, false, false, false, false, false, false, false] rfl rfl (by kernel_rfl) (fun _ _ _ h => h) (Or.inl ⟨by rfl, ?_⟩) ?_ ?_
  rotate_left
  · intro w'
    go_simp
    with_reducible rfl
  rotate_left
  · simp only [Act.put, s1_, s2_, s3_, i64_w, i32_w]
    rfl
  refine take_ (i := 6) (N := some 14) (v := ?_) (a' := ?_) #[true, true, true, true, true, true, true, false, false, false, false, false, false, false, false, false, false, false, false, false, false, false, false, false, false, false, false, false, false, false, false, false, false, false, false, false, false, false, false, false, false, false, false, false, false, false, false] rfl rfl (by kernel_rfl) (fun _ _ _ h => h) (Or.inl ⟨by rfl, ?_⟩) hHeld ?_ ?_
  rotate_left
  · intro w' s0
    have d := s0.2.1
    clear s0
    go_simp
    with_reducible rfl
  rotate_left
  · simp only [Act.put, s1_, s2_, s3_, i64_w, i32_w]
    rfl
  refine pure_ (i := 7) (N := some 15) (v := ?_) (a' := ?_) #[true, true, true, true, true, true, true, true, false, false, false, false, false, false, false, false, false, false, false, false, false, false, false, false, false, false, false, false, false, false, false, false, false, false, false, false, false, false, false, false, false, false, false, false, false, false, false] rfl rfl (by kernel_rfl) (fun _ _ _ h => h) (Or.inl ⟨by rfl, ?_⟩) ?_ ?_
  rotate_left
  · intro w'
    go_simp
    with_reducible rfl
  rotate_left
  · simp only [Act.put, s1_, s2_, s3_, i64_w, i32_w]
    rfl
  refine pure_ (i := 8) (N := some 16) (v := ?_) (a' := ?_) #[true, true, true, true, true, true, true, true, true, false, false, false, false, false, false, false, false, false, false, false, false, false, false, false, false, false, false, false, false, false, false, false, false, false, false, false, false, false, false, false, false, false, false, false, false, false, false] rfl rfl (by kernel_rfl) (fun _ _ _ h => h) (Or.inl ⟨by rfl, ?_⟩) ?_ ?_
  rotate_left
  · intro w'
    go_simp
    with_reducible rfl
  rotate_left
  · simp only [Act.put, s1_, s2_, s3_, i64_w, i32_w]
    rfl
  refine pure_ (i := 9) (N := some 17) (v := ?_) (a' := ?_) #[true, true, true, true, true, true, true, true, true, true, false, false, false, false, false, false, false, false, false, false, false, false, false, false, false, false, false, false, false, false, false, false, false, false, false, false, false, false, false, false, false, false, false, false, false, false, false] rfl rfl (by kernel_rfl) (fun _ _ _ h => h) (Or.inl ⟨by rfl, ?_⟩) ?_ ?_
  rotate_left
  · intro w'
    go_simp
    with_reducible rfl
  rotate_left
  · simp only [Act.put, s1_, s2_, s3_, i64_w, i32_w]
    rfl
  refine pure_ (i := 10) (N := some 18) (v := ?_) (a' := ?_) #[true, true, true, true, true, true, true, true, true, true, true, false, false, false, false, false, false, false, false, false, false, false, false, false, false, false, false, false, false, false, false, false, false, false, false, false, false, false, false, false, false, false, false, false, false, false, false] rfl rfl (by kernel_rfl) (fun _ _ _ h => h) (Or.inl ⟨by rfl, ?_⟩) ?_ ?_
  rotate_left
  · intro w'
    go_simp
    with_reducible rfl
  rotate_left
  · simp only [Act.put, s1_, s2_, s3_, i64_w, i32_w]
    rfl
  refine pure_ (i := 11) (N := some 19) (v := ?_) (a' := ?_) #[true, true, true, true, true, true, true, true, true, true, true, true, false, false, false, false, false, false, false, false, false, false, false, false, false, false, false, false, false, false, false, false, false, false, false, false, false, false, false, false, false, false, false, false, false, false, false] rfl rfl (by kernel_rfl) (fun _ _ _ h => h) (Or.inl ⟨by rfl, ?_⟩) ?_ ?_
  rotate_left
  · intro w'
    go_simp
    with_reducible rfl
  rotate_left
  · simp only [Act.put, s1_, s2_, s3_, i64_w, i32_w]
    rfl
  refine take_ (i := 12) (N := some 20) (v := ?_) (a' := ?_) #[true, true, true, true, true, true, true, true, true, true, true, true, true, false, false, false, false, false, false, false, false, false, false, false, false, false, false, false, false, false, false, false, false, false, false, false, false, false, false, false, false, false, false, false, false, false, false] rfl rfl (by kernel_rfl) (fun _ _ _ h => h) (Or.inl ⟨by rfl, ?_⟩) hHeld ?_ ?_
  rotate_left
  · intro w' s0
    have d := s0.2.2.1
    clear s0
    go_simp
    with_reducible rfl
  rotate_left
  · simp only [Act.put, s1_, s2_, s3_, i64_w, i32_w]
    rfl
  refine pure_ (i := 13) (N := some 21) (v := ?_) (a' := ?_) #[true, true, true, true, true, true, true, true, true, true, true, true, true, true, false, false, false, false, false, false, false, false, false, false, false, false, false, false, false, false, false, false, false, false, false, false, false, false, false, false, false, false, false, false, false, false, false] rfl rfl (by kernel_rfl) (fun _ _ _ h => h) (Or.inl ⟨by rfl, ?_⟩) ?_ ?_
  rotate_left
  · intro w'
    go_simp
    with_reducible rfl
  rotate_left
  · simp only [Act.put, s1_, s2_, s3_, i64_w, i32_w]
    rfl
  refine pure_ (i := 14) (N := some 22) (v := ?_) (a' := ?_) #[true, true, true, true, true, true, true, true, true, true, true, true, true, true, true, false, false, false, false, false, false, false, false, false, false, false, false, false, false, false, false, false, false, false, false, false, false, false, false, false, false, false, false, false, false, false, false] rfl rfl (by kernel_rfl) (fun _ _ _ h => h) (Or.inl ⟨by rfl, ?_⟩) ?_ ?_
  rotate_left
  · intro w'
    go_simp
    with_reducible rfl
  rotate_left
  · simp only [Act.put, s1_, s2_, s3_, i64_w, i32_w]
    rfl
  refine pure_ (i := 15) (N := some 23) (v := ?_) (a' := ?_) #[true, true, true, true, true, true, true, true, true, true, true, true, true, true, true, true, false, false, false, false, false, false, false, false, false, false, false, false, false, false, false, false, false, false, false, false, false, false, false, false, false, false, false, false, false, false, false] rfl rfl (by kernel_rfl) (fun _ _ _ h => h) (Or.inl ⟨by rfl, ?_⟩) ?_ ?_
  rotate_left
  · intro w'
    go_simp
    with_reducible rfl
  rotate_left
  · simp only [Act.put, s1_, s2_, s3_, i64_w, i32_w]
    rfl
  refine pure_ (i := 16) (N := some 24) (v := ?_) (a' := ?_) #[true, true, true, true, true, true, true, true, true, true, true, true, true, true, true, true, true, false, false, false, false, false, false, false, false, false, false, false, false, false, false, false, false, false, false, false, false, false, false, false, false, false, false, false, false, false, false] rfl rfl (by kernel_rfl) (fun _ _ _ h => h) (Or.inl ⟨by rfl, ?_⟩) ?_ ?_
  rotate_left
  · intro w'
    go_simp
    with_reducible rfl
  rotate_left
  · simp only [Act.put, s1_, s2_, s3_, i64_w, i32_w]
    rfl
  refine pure_ (i := 17) (N := some 25) (v := ?_) (a' := ?_) #[true, true, true, true, true, true, true, true, true, true, true, true, true, true, true, true, true, true, false, false, false, false, false, false, false, false, false, false, false, false, false, false, false, false, false, false, false, false, false, false, false, false, false, false, false, false, false] rfl rfl (by kernel_rfl) (fun _ _ _ h => h) (Or.inl ⟨by rfl, ?_⟩) ?_ ?_
  rotate_left
  · intro w'
    go_simp
    with_reducible rfl
  rotate_left
  · simp only [Act.put, s1_, s2_, s3_, i64_w, i32_w]
    rfl
  refine take_ (i := 18) (N := some 26) (v := ?_) (a' := ?_) #[true, true, true, true, true, true, true, true, true, true, true, true, true, true, true, true, true, true, true, false, false, false, false, false, false, false, false, false, false, false, false, false, false, false, false, false, false, false, false, false, false, false, false, false, false, false, false] rfl rfl (by kernel_rfl) (fun _ _ _ h => h) (Or.inl ⟨by rfl, ?_⟩) hHeld ?_ ?_
  rotate_left
  · intro w' s0
    have d := s0.2.2.2.1
    clear s0
    go_simp
    with_reducible rfl
  rotate_left
  · simp only [Act.put, s1_, s2_, s3_, i64_w, i32_w]
    rfl
  refine pure_ (i := 19) (N := some 27) (v := ?_) (a' := ?_) #[true, true, true, true, true, true, true, true, true, true, true, true, true, true, true, true, true, true, true, true, false, false, false, false, false, false, false, false, false, false, false, false, false, false, false, false, false, false, false, false, false, false, false, false, false, false, false] rfl rfl (by kernel_rfl) (fun _ _ _ h => h) (Or.inl ⟨by rfl, ?_⟩) ?_ ?_
  rotate_left
  · intro w'
    go_simp
    with_reducible rfl
  rotate_left
  · simp only [Act.put, s1_, s2_, s3_, i64_w, i32_w]
    rfl
  refine pure_ (i := 20) (N := some 28) (v := ?_) (a' := ?_) #[true, true, true, true, true, true, true, true, true, true, true, true, true, true, true, true, true, true, true, true, true, false, false, false, false, false, false, false, false, false, false, false, false, false, false, false, false, false, false, false, false, false, false, false, false, false, false] rfl rfl (by kernel_rfl) (fun _ _ _ h => h) (Or.inl ⟨by rfl, ?_⟩) ?_ ?_
  rotate_left
  · intro w'
    go_simp
    with_reducible rfl
  rotate_left
  · simp only [Act.put, s1_, s2_, s3_, i64_w, i32_w]
    rfl
  refine pure_ (i := 21) (N := some 29) (v := ?_) (a' := ?_) #[true, true, true, true, true, true, true, true, true, true, true, true, true, true, true, true, true, true, true, true, true, true, false, false, false, false, false, false, false, false, false, false, false, false, false, false, false, false, false, false, false, false, false, false, false, false, false] rfl rfl (by kernel_rfl) (fun _ _ _ h => h) (Or.inl ⟨by rfl, ?_⟩) ?_ ?_
  rotate_left
  · intro w'
    go_simp
    with_reducible rfl
  rotate_left
  · simp only [Act.put, s1_, s2_, s3_, i64_w, i32_w]
    rfl
  refine pure_ (i := 22) (N := some 30) (v := ?_) (a' := ?_) #[true, true, true, true, true, true, true, true, true, true, true, true, true, true, true, true, true, true, true, true, true, true, true, false, false, false, false, false, false, false, false, false, false, false, false, false, false, false, false, false, false, false, false, false, false, false, false] rfl rfl (by kernel_rfl) (fun _ _ _ h => h) (Or.inl ⟨by rfl, ?_⟩) ?_ ?_
  rotate_left
  · intro w'
    go_simp
    with_reducible rfl
  rotate_left
  · simp only [Act.put, s1_, s2_, s3_, i64_w, i32_w]
    rfl
  refine pure_ (i := 23) (N := some 31) (v := ?_) (a' := ?_) #[true, true, true, true, true, true, true, true, true, true, true, true, true, true, true, true, true, true, true, true, true, true, true, true, false, false, false, false, false, false, false, false, false, false, false, false, false, false, false, false, false, false, false, false, false, false, false] rfl rfl (by kernel_rfl) (fun _ _ _ h => h) (Or.inl ⟨by rfl, ?_⟩) ?_ ?_
  rotate_left
  · intro w'
    go_simp
    with_reducible rfl
  rotate_left
  · simp only [Act.put, s1_, s2_, s3_, i64_w, i32_w]
    rfl
  refine take_ (i := 24) (N := some 32) (v := ?_) (a' := ?_) #[true, true, true, true, true, true, true, true, true, true, true, true, true, true, true, true, true, true, true, true, true, true, true, true, true, false, false, false, false, false, false, false, false, false, false, false, false, false, false, false, false, false, false, false, false, false, false] rfl rfl (by kernel_rfl) (fun _ _ _ h => h) (Or.inl ⟨by rfl, ?_⟩) hHeld ?_ ?_
  rotate_left
  · intro w' s0
    have d := s0.2.2.2.2.1
    clear s0
    go_simp
    with_reducible rfl
  rotate_left
  · simp only [Act.put, s1_, s2_, s3_, i64_w, i32_w]
    rfl
  refine pure_ (i := 25) (N := some 33) (v := ?_) (a' := ?_) #[true, true, true, true, true, true, true, true, true, true, true, true, true, true, true, true, true, true, true, true, true, true, true, true, true, true, false, false, false, false, false, false, false, false, false, false, false, false, false, false, false, false, false, false, false, false, false] rfl rfl (by kernel_rfl) (fun _ _ _ h => h) (Or.inl ⟨by rfl, ?_⟩) ?_ ?_
  rotate_left
  · intro w'
    go_simp
    with_reducible rfl
  rotate_left
  · simp only [Act.put, s1_, s2_, s3_, i64_w, i32_w]
    rfl
  refine pure_ (i := 26) (N := some 34) (v := ?_) (a' := ?_) #[true, true, true, true, true, true, true, true, true, true, true, true, true, true, true, true, true, true, true, true, true, true, true, true, true, true, true, false, false, false, false, false, false, false, false, false, false, false, false, false, false, false, false, false, false, false, false] rfl rfl (by kernel_rfl) (fun _ _ _ h => h) (Or.inl ⟨by rfl, ?_⟩) ?_ ?_
  rotate_left
  · intro w'
    go_simp
    with_reducible rfl
  rotate_left
  · simp only [Act.put, s1_, s2_, s3_, i64_w, i32_w]
    rfl
  refine pure_ (i := 27) (N := some 35) (v := ?_) (a' := ?_) #[true, true, true, true, true, true, true, true, true, true, true, true, true, true, true, true, true, true, true, true, true, true, true, true, true, true, true, true, false, false, false, false, false, false, false, false, false, false, false, false, false, false, false, false, false, false, false] rfl rfl (by kernel_rfl) (fun _ _ _ h => h) (Or.inl ⟨by rfl, ?_⟩) ?_ ?_
  rotate_left
  · intro w'
    go_simp
    with_reducible rfl
  rotate_left
  · simp only [Act.put, s1_, s2_, s3_, i64_w, i32_w]
    rfl
  refine pure_ (i := 28) (N := some 36) (v := ?_) (a' := ?_) #[true, true, true, true, true, true, true, true, true, true, true, true, true, true, true, true, true, true, true, true, true, true, true, true, true, true, true, true, true, false, false, false, false, false, false, false, false, false, false, false, false, false, false, false, false, false, false] rfl rfl (by kernel_rfl) (fun _ _ _ h => h) (Or.inl ⟨by rfl, ?_⟩) ?_ ?_
  rotate_left
  · intro w'
    go_simp
    with_reducible rfl
  rotate_left
  · simp only [Act.put, s1_, s2_, s3_, i64_w, i32_w]
    rfl
  refine pure_ (i := 29) (N := some 37) (v := ?_) (a' := ?_) #[true, true, true, true, true, true, true, true, true, true, true, true, true, true, true, true, true, true, true, true, true, true, true, true, true, true, true, true, true, true, false, false, false, false, false, false, false, false, false, false, false, false, false, false, false, false, false] rfl rfl (by kernel_rfl) (fun _ _ _ h => h) (Or.inl ⟨by rfl, ?_⟩) ?_ ?_
  rotate_left
  · intro w'
    go_simp
    with_reducible rfl
  rotate_left
  · simp only [Act.put, s1_, s2_, s3_, i64_w, i32_w]
    rfl
  refine take_ (i := 30) (N := some 38) (v := ?_) (a' := ?_) #[true, true, true, true, true, true, true, true, true, true, true, true, true, true, true, true, true, true, true, true, true, true, true, true, true, true, true, true, true, true, true, false, false, false, false, false, false, false, false, false, false, false, false, false, false, false, false] rfl rfl (by kernel_rfl) (fun _ _ _ h => h) (Or.inl ⟨by rfl, ?_⟩) hHeld ?_ ?_
  rotate_left
  · intro w' s0
    have d := s0.2.2.2.2.2.1
    clear s0
    go_simp
    with_reducible rfl
  rotate_left
  · simp only [Act.put, s1_, s2_, s3_, i64_w, i32_w]
    rfl
  refine pure_ (i := 31) (N := some 39) (v := ?_) (a' := ?_) #[true, true, true, true, true, true, true, true, true, true, true, true, true, true, true, true, true, true, true, true, true, true, true, true, true, true, true, true, true, true, true, true, false, false, false, false, false, false, false, false, false, false, false, false, false, false, false] rfl rfl (by kernel_rfl) (fun _ _ _ h => h) (Or.inl ⟨by rfl, ?_⟩) ?_ ?_
  rotate_left
  · intro w'
    go_simp
    with_reducible rfl
  rotate_left
  · simp only [Act.put, s1_, s2_, s3_, i64_w, i32_w]
    rfl
  refine pure_ (i := 32) (N := some 40) (v := ?_) (a' := ?_) #[true, true, true, true, true, true, true, true, true, true, true, true, true, true, true, true, true, true, true, true, true, true, true, true, true, true, true, true, true, true, true, true, true, false, false, false, false, false, false, false, false, false, false, false, false, false, false] rfl rfl (by kernel_rfl) (fun _ _ _ h => h) (Or.inl ⟨by rfl, ?_⟩) ?_ ?_
  rotate_left
  · intro w'
    go_simp
    with_reducible rfl
  rotate_left
  · simp only [Act.put, s1_, s2_, s3_, i64_w, i32_w]
    rfl
  refine pure_ (i := 33) (N := some 41) (v := ?_) (a' := ?_) #[true, true, true, true, true, true, true, true, true, true, true, true, true, true, true, true, true, true, true, true, true, true, true, true, true, true, true, true, true, true, true, true, true, true, false, false, false, false, false, false, false, false, false, false, false, false, false] rfl rfl (by kernel_rfl) (fun _ _ _ h => h) (Or.inl ⟨by rfl, ?_⟩) ?_ ?_
  rotate_left
  · intro w'
    go_simp
    with_reducible rfl
  rotate_left
  · simp only [Act.put, s1_, s2_, s3_, i64_w, i32_w]
    rfl
  refine pure_ (i := 34) (N := some 42) (v := ?_) (a' := ?_) #[true, true, true, true, true, true, true, true, true, true, true, true, true, true, true, true, true, true, true, true, true, true, true, true, true, true, true, true, true, true, true, true, true, true, true, false, false, false, false, false, false, false, false, false, false, false, false] rfl rfl (by kernel_rfl) (fun _ _ _ h => h) (Or.inl ⟨by rfl, ?_⟩) ?_ ?_
  rotate_left
  · intro w'
    go_simp
    with_reducible rfl
  rotate_left
  · simp only [Act.put, s1_, s2_, s3_, i64_w, i32_w]
    rfl
  refine pure_ (i := 35) (N := some 43) (v := ?_) (a' := ?_) #[true, true, true, true, true, true, true, true, true, true, true, true, true, true, true, true, true, true, true, true, true, true, true, true, true, true, true, true, true, true, true, true, true, true, true, true, false, false, false, false, false, false, false, false, false, false, false] rfl rfl (by kernel_rfl) (fun _ _ _ h => h) (Or.inl ⟨by rfl, ?_⟩) ?_ ?_
  rotate_left
  · intro w'
    go_simp
    with_reducible rfl
  rotate_left
  · simp only [Act.put, s1_, s2_, s3_, i64_w, i32_w]
    rfl
  refine take_ (i := 36) (N := some 44) (v := ?_) (a' := ?_) #[true, true, true, true, true, true, true, true, true, true, true, true, true, true, true, true, true, true, true, true, true, true, true, true, true, true, true, true, true, true, true, true, true, true, true, true, true, false, false, false, false, false, false, false, false, false, false] rfl rfl (by kernel_rfl) (fun _ _ _ h => h) (Or.inl ⟨by rfl, ?_⟩) hHeld ?_ ?_
  rotate_left
  · intro w' s0
    have d := s0.2.2.2.2.2.2.1
    clear s0
    go_simp
    with_reducible rfl
  rotate_left
  · simp only [Act.put, s1_, s2_, s3_, i64_w, i32_w]
    rfl
  refine pure_ (i := 37) (N := some 45) (v := ?_) (a' := ?_) #[true, true, true, true, true, true, true, true, true, true, true, true, true, true, true, true, true, true, true, true, true, true, true, true, true, true, true, true, true, true, true, true, true, true, true, true, true, true, false, false, false, false, false, false, false, false, false] rfl rfl (by kernel_rfl) (fun _ _ _ h => h) (Or.inl ⟨by rfl, ?_⟩) ?_ ?_
  rotate_left
  · intro w'
    go_simp
    with_reducible rfl
  rotate_left
  · simp only [Act.put, s1_, s2_, s3_, i64_w, i32_w]
    rfl
  refine pure_ (i := 38) (N := some 46) (v := ?_) (a' := ?_) #[true, true, true, true, true, true, true, true, true, true, true, true, true, true, true, true, true, true, true, true, true, true, true, true, true, true, true, true, true, true, true, true, true, true, true, true, true, true, true, false, false, false, false, false, false, false, false] rfl rfl (by kernel_rfl) (fun _ _ _ h => h) (Or.inl ⟨by rfl, ?_⟩) ?_ ?_
  rotate_left
  · intro w'
    go_simp
    with_reducible rfl
  rotate_left
  · simp only [Act.put, s1_, s2_, s3_, i64_w, i32_w]
    rfl
  refine pure_ (i := 39) (N := some 47) (v := ?_) (a' := ?_) #[true, true, true, true, true, true, true, true, true, true, true, true, true, true, true, true, true, true, true, true, true, true, true, true, true, true, true, true, true, true, true, true, true, true, true, true, true, true, true, true, false, false, false, false, false, false, false] rfl rfl (by kernel_rfl) (fun _ _ _ h => h) (Or.inl ⟨by rfl, ?_⟩) ?_ ?_
  rotate_left
  · intro w'
    go_simp
    with_reducible rfl
  rotate_left
  · simp only [Act.put, s1_, s2_, s3_, i64_w, i32_w]
    rfl
  refine pure_ (i := 40) (N := some 48) (v := ?_) (a' := ?_) #[true, true, true, true, true, true, true, true, true, true, true, true, true, true, true, true, true, true, true, true, true, true, true, true, true, true, true, true, true, true, true, true, true, true, true, true, true, true, true, true, true, false, false, false, false, false, false] rfl rfl (by kernel_rfl) (fun _ _ _ h => h) (Or.inl ⟨by rfl, ?_⟩) ?_ ?_
  rotate_left
  · intro w'
    go_simp
    with_reducible rfl
  rotate_left
  · simp only [Act.put, s1_, s2_, s3_, i64_w, i32_w]
    rfl
  refine pure_ (i := 41) (N := some 49) (v := ?_) (a' := ?_) #[true, true, true, true, true, true, true, true, true, true, true, true, true, true, true, true, true, true, true, true, true, true, true, true, true, true, true, true, true, true, true, true, true, true, true, true, true, true, true, true, true, true, false, false, false, false, false] rfl rfl (by kernel_rfl) (fun _ _ _ h => h) (Or.inl ⟨by rfl, ?_⟩) ?_ ?_
  rotate_left
  · intro w'
    go_simp
    with_reducible rfl
  rotate_left
  · simp only [Act.put, s1_, s2_, s3_, i64_w, i32_w]
    rfl
  refine take_ (i := 42) (N := some 50) (v := ?_) (a' := ?_) #[true, true, true, true, true, true, true, true, true, true, true, true, true, true, true, true, true, true, true, true, true, true, true, true, true, true, true, true, true, true, true, true, true, true, true, true, true, true, true, true, true, true, true, false, false, false, false] rfl rfl (by kernel_rfl) (fun _ _ _ h => h) (Or.inl ⟨by rfl, ?_⟩) hHeld ?_ ?_
  rotate_left
  · intro w' s0
    have d := s0.2.2.2.2.2.2.2
    clear s0
    go_simp
    with_reducible rfl
  rotate_left
  · simp only [Act.put, s1_, s2_, s3_, i64_w, i32_w]
    rfl
  refine pure_ (i := 43) (N := some 51) (v := ?_) (a' := ?_) #[true, true, true, true, true, true, true, true, true, true, true, true, true, true, true, true, true, true, true, true, true, true, true, true, true, true, true, true, true, true, true, true, true, true, true, true, true, true, true, true, true, true, true, true, false, false, false] rfl rfl (by kernel_rfl) (fun _ _ _ h => h) (Or.inl ⟨by rfl, ?_⟩) ?_ ?_
  rotate_left
  · intro w'
    go_simp
    with_reducible rfl
  rotate_left
  · simp only [Act.put, s1_, s2_, s3_, i64_w, i32_w]
    rfl
  refine pure_ (i := 44) (N := some 52) (v := ?_) (a' := ?_) #[true, true, true, true, true, true, true, true, true, true, true, true, true, true, true, true, true, true, true, true, true, true, true, true, true, true, true, true, true, true, true, true, true, true, true, true, true, true, true, true, true, true, true, true, true, false, false] rfl rfl (by kernel_rfl) (fun _ _ _ h => h) (Or.inl ⟨by rfl, ?_⟩) ?_ ?_
  rotate_left
  · intro w'
    go_simp
    with_reducible rfl
  rotate_left
  · simp only [Act.put, s1_, s2_, s3_, i64_w, i32_w]
    rfl
  refine pure_ (i := 45) (N := some 53) (v := ?_) (a' := ?_) #[true, true, true, true, true, true, true, true, true, true, true, true, true, true, true, true, true, true, true, true, true, true, true, true, true, true, true, true, true, true, true, true, true, true, true, true, true, true, true, true, true, true, true, true, true, true, false] rfl rfl (by kernel_rfl) (fun _ _ _ h => h) (Or.inl ⟨by rfl, ?_⟩) ?_ ?_
  rotate_left
  · intro w'
    go_simp
    with_reducible rfl
  rotate_left
  · simp only [Act.put, s1_, s2_, s3_, i64_w, i32_w]
    rfl
  refine pure_ (i := 46) (N := some 4) (v := ?_) (a' := ?_) #[true, true, true, true, true, true, true, true, true, true, true, true, true, true, true, true, true, true, true, true, true, true, true, true, true, true, true, true, true, true, true, true, true, true, true, true, true, true, true, true, true, true, true, true, true, true, true] rfl rfl (by kernel_rfl) (fun _ _ _ h => h) (Or.inl ⟨by rfl, ?_⟩) ?_ ?_
  rotate_left
  · intro w'
    go_simp
    with_reducible rfl
  rotate_left
  · simp only [Act.put, s1_, s2_, s3_, i64_w, i32_w]
    rfl
  refine done_ (by kernel_rfl) ?_
  go_wp2
  go_ret
  refine ⟨?_, hb1⟩
  have hw := HW.out
  clear HW hb hb1 h0 h1 h2 h3 h4 h5 h6 h7
  rw [hw]
  refine congrArg (fun z => Ending.returned (Value.int .u64 z)) ?_
  exact word_or x0 x1 x2 x3 x4 x5 x6 x7 _ _ _ _ _ _ _ b0 b1 b2 b3 b4 b5 b6 b7 (shl_word 8 x1 _ b1 (by omega) (by decide)) (shl_word 16 x2 _ b2 (by omega) (by decide)) (shl_word 24 x3 _ b3 (by omega) (by decide)) (shl_word 32 x4 _ b4 (by omega) (by decide)) (shl_word 40 x5 _ b5 (by omega) (by decide)) (shl_word 48 x6 _ b6 (by omega) (by decide)) (shl_word 56 x7 _ b7 (by omega) (by decide))
end Go.Proofs.YthgbfmcicpmepaaDoor.V
