/- The writer of words: its last bits. -/
import Derived.Test.YthgbfmcicpmepaaDoorBW5
namespace Go.Proofs.YthgbfmcicpmepaaDoor.V
open Go.RowKit Go.Proofs.YthgbfmcicpmepaaDoor.B Go.Proofs.YthgbfmcicpmepaaDoorW.PrintWords Go.Proofs.YthgbfmcicpmepaaDoorW.PrintLast Go.Proofs.YthgbfmcicpmepaaDoorW.PrintMore
set_option linter.unusedVariables false
set_option linter.unusedSimpArgs false
theorem bit_shift (x i : Nat) : x.testBit i = decide (x / 2 ^ i % 2 = 1) := by
  rw [← Nat.testBit_zero, Nat.testBit_div_two_pow, Nat.zero_add]
theorem one_fin : ∀ x : Fin 256, bits .and .u8 (x.val : Int) 1 = ((x.val % 2 : Nat) : Int) := by decide +kernel
set_option maxHeartbeats 8000000 in
set_option maxRecDepth 100000 in
theorem last20 (g b C L : Nat) (M : Nat → Nat) (s o x v cw : Nat) (len : Int) (w : World) (hT : TabAt w) (hO : Own w b C L M) (hg : b ≠ g) (h : Ws w g b C L s o len cw) (hL : L ≤ C) (hs : 8 * s + o + v ≤ 8 * L) (ho : o < 8) (h0 : 0 < v) (h8 : v < 8) (hE : L < 2 ^ 40) (hx : x < 256) :
    Calls Tryd.prog 20 #[.pointer (some ⟨g, 0, none⟩), .int .u8 (x : Int), .int .i64 (v : Int)] w fun e w' => e = .returned (.tuple #[]) ∧ Tch (fun k => k = g ∨ k = b) w w' ∧ ∃ M', Own w' b C L M' ∧ Upd M (8 * s + o) v x M' := by
  obtain ⟨A, hA, hb⟩ := h
  obtain rfl := hA (by omega)
  clear hA
  have h4 : w.cell? ⟨g, 4, none⟩ = some (.int .u64 (cw : Int)) := (blk_cell hb 4).trans rfl
  obtain ⟨mk, hmk⟩ : ∃ mk : Nat, mk = 2 ^ o - 1 := ⟨_, rfl⟩
  rw [← hmk] at hb
  clear hmk
  obtain ⟨X, hX⟩ : ∃ X : Array Value, X = #[.slice (some ⟨b, s, none⟩) (L - s) (C - s), .int .i64 (o : Int), .int .i64 len, .int .u64 (mk : Int), .int .u64 (cw : Int)] := ⟨_, rfl⟩
  rw [← hX] at hb
  have hge : g ≠ b := fun e => hg e.symm
  have k1 : ¬ (v : Int) = 8 := by omega
  have k2 : (0 : Int) < (v : Int) := by omega
  have k3 : (v : Int) < 8 := by omega
  have H34 := fun W => by34 (o + v) W (by omega)
  rw [show ((o + v : Nat) : Int) = (o : Int) + (v : Int) by omega] at H34
  obtain ⟨q, hq⟩ : ∃ q, q = (o + v + 7) / 8 := ⟨_, rfl⟩
  rw [← hq] at H34
  have HZ := Lib.hid (And.intro hb (And.intro hO (And.intro hT (And.intro hL (And.intro hs (And.intro hx (And.intro h0 (And.intro h8 ho))))))))
  clear hb hO hL hs hx h0 h8 hT hq
  go_enter Tryd.func20, Tryd.ntmps20
  go_wp2_with (first | (go_at_call 32; (with_reducible refine (lsb32 _ _).mono ?_); rintro e w1 ⟨rfl, rfl⟩) | (go_at_call 33; (with_reducible refine (as33 _ _ _).mono ?_); rintro e w1 ⟨rfl, rfl⟩))
  clear h4
  obtain ⟨hb, hO, hT, hL, hs, hx, h0, h8, ho⟩ := HZ.out
  refine wp_at ?_
  intro w1 hw1
  have b1 : w1.drew.heap[g]? = some (.cells X 50 (0, 0)) := by rw [hw1]; exact hb
  have O1 : Own w1.drew b C L M := by rw [hw1]; exact hO.tch ((Tch.refl (fun _ => False) _).drew) (fun h => h)
  have R1 : TabAt w1.drew := by rw [hw1]; exact hT.tch ((Tch.refl (fun _ => False) _).drew) (fun h => h)
  have T1 : Tch (fun k => k = g ∨ k = b) w w1.drew := by rw [hw1]; exact (Tch.refl _ _).drew
  clear hw1 hb hO hT
  have kw := w64_id ((o : Int) + (v : Int)) (by omega) (by omega)
  refine start_ (n := 15) (S := fun w' => w'.heap[g]? = some (.cells X 50 (0, 0))) (ds := []) #[false, false, false, false, false, false, false, false, false, false, false, false, false, false, false] (by kernel_rfl) rfl rfl b1 (fun hHeld => ?_)
  refine pure_ (i := 0) (N := some 111) (v := ?_) (a' := ?_) #[true, false, false, false, false, false, false, false, false, false, false, false, false, false, false] rfl rfl (by kernel_rfl) (fun _ _ _ h => h) (Or.inl ⟨by rfl, ?_⟩) ?_ ?_
  rotate_left
  · intro w'
    go_simp
    with_reducible rfl
  rotate_left
  · simp only [Act.put, s1_, s2_, s3_, i64_w, i32_w]
    rfl
  refine pure_ (i := 1) (N := some 112) (v := ?_) (a' := ?_) #[true, true, false, false, false, false, false, false, false, false, false, false, false, false, false] rfl rfl (by kernel_rfl) (fun _ _ _ h => h) (Or.inl ⟨by rfl, ?_⟩) ?_ ?_
  rotate_left
  · intro w'
    go_simp
    with_reducible rfl
  rotate_left
  · simp only [Act.put, s1_, s2_, s3_, i64_w, i32_w]
    rfl
  refine pure_ (i := 2) (N := some 113) (v := ?_) (a' := ?_) #[true, true, true, false, false, false, false, false, false, false, false, false, false, false, false] rfl rfl (by kernel_rfl) (fun _ _ _ h => h) (Or.inl ⟨by rfl, ?_⟩) ?_ ?_
  rotate_left
  · intro w'
    go_simp
    with_reducible rfl
  rotate_left
  · simp only [Act.put, s1_, s2_, s3_, i64_w, i32_w]
    rfl
  refine take_ (i := 3) (N := some 114) (v := ?_) (a' := ?_) #[true, true, true, true, false, false, false, false, false, false, false, false, false, false, false] rfl rfl (by kernel_rfl) (fun _ _ _ h => h) (Or.inl ⟨by rfl, ?_⟩) hHeld ?_ ?_
  rotate_left
  · intro w' s0
    have d : w'.cell? ⟨g, 1, none⟩ = some (.int .i64 (o : Int)) := by rw [hX] at s0; exact (blk_cell s0 1).trans rfl
    clear s0
    go_simp
    with_reducible rfl
  rotate_left
  · simp only [Act.put, s1_, s2_, s3_, i64_w, i32_w]
    rfl
  refine pure_ (i := 4) (N := some 115) (v := ?_) (a' := ?_) #[true, true, true, true, true, false, false, false, false, false, false, false, false, false, false] rfl rfl (by kernel_rfl) (fun _ _ _ h => h) (Or.inl ⟨by rfl, ?_⟩) ?_ ?_
  rotate_left
  · intro w'
    go_simp
    with_reducible rfl
  rotate_left
  · simp only [Act.put, s1_, s2_, s3_, i64_w, i32_w]
    rfl
  refine pure_ (i := 5) (N := some 116) (v := ?_) (a' := ?_) #[true, true, true, true, true, true, false, false, false, false, false, false, false, false, false] rfl rfl (by kernel_rfl) (fun _ _ _ h => h) (Or.inl ⟨by rfl, ?_⟩) ?_ ?_
  rotate_left
  · intro w'
    go_simp
    with_reducible rfl
  rotate_left
  · simp only [Act.put, s1_, s2_, s3_, i64_w, i32_w]
    rfl
  refine pure_ (i := 7) (N := some 118) (v := ?_) (a' := ?_) #[true, true, true, true, true, true, false, true, false, false, false, false, false, false, false] rfl rfl (by kernel_rfl) (fun _ _ _ h => h) (Or.inl ⟨by rfl, ?_⟩) ?_ ?_
  rotate_left
  · intro w'
    go_simp
    with_reducible rfl
  rotate_left
  · simp only [Act.put, s1_, s2_, s3_, i64_w, i32_w]
    rfl
  refine pure_ (i := 8) (N := some 119) (v := ?_) (a' := ?_) #[true, true, true, true, true, true, false, true, true, false, false, false, false, false, false] rfl rfl (by kernel_rfl) (fun _ _ _ h => h) (Or.inl ⟨by rfl, ?_⟩) ?_ ?_
  rotate_left
  · intro w'
    go_simp
    with_reducible rfl
  rotate_left
  · simp only [Act.put, s1_, s2_, s3_, i64_w, i32_w]
    rfl
  refine pure_ (i := 9) (N := some 120) (v := ?_) (a' := ?_) #[true, true, true, true, true, true, false, true, true, true, false, false, false, false, false] rfl rfl (by kernel_rfl) (fun _ _ _ h => h) (Or.inl ⟨by rfl, ?_⟩) ?_ ?_
  rotate_left
  · intro w'
    go_simp
    with_reducible rfl
  rotate_left
  · simp only [Act.put, s1_, s2_, s3_, i64_w, i32_w]
    rfl
  refine take_ (i := 10) (N := some 121) (v := ?_) (a' := ?_) #[true, true, true, true, true, true, false, true, true, true, true, false, false, false, false] rfl rfl (by kernel_rfl) (fun _ _ _ h => h) (Or.inl ⟨by rfl, ?_⟩) hHeld ?_ ?_
  rotate_left
  · intro w' s0
    have d : w'.cell? ⟨g, 0, none⟩ = some (.slice (some ⟨b, s, none⟩) (L - s) (C - s)) := by rw [hX] at s0; exact (blk_cell s0 0).trans rfl
    clear s0
    go_simp
    with_reducible rfl
  rotate_left
  · simp only [Act.put, s1_, s2_, s3_, i64_w, i32_w]
    rfl
  refine pure_ (i := 11) (N := some 122) (v := ?_) (a' := ?_) #[true, true, true, true, true, true, false, true, true, true, true, true, false, false, false] rfl rfl (by kernel_rfl) (fun _ _ _ h => h) (Or.inl ⟨by rfl, ?_⟩) ?_ ?_
  rotate_left
  · intro w'
    go_simp
    with_reducible rfl
  rotate_left
  · simp only [Act.put, s1_, s2_, s3_, i64_w, i32_w]
    rfl
  refine pure_ (i := 13) (N := some 124) (v := ?_) (a' := ?_) #[true, true, true, true, true, true, false, true, true, true, true, true, false, true, false] rfl rfl (by kernel_rfl) (fun _ _ _ h => h) (Or.inl ⟨by rfl, ?_⟩) ?_ ?_
  rotate_left
  · intro w'
    go_simp
    with_reducible rfl
  rotate_left
  · simp only [Act.put, s1_, s2_, s3_, i64_w, i32_w]
    rfl
  refine one_ (i := 6) (N := some 117) #[true, true, true, true, true, true, true, true, true, true, true, true, false, true, false] rfl rfl (by kernel_rfl) (by decide) (fun K hK => ?_)
  refine goes_ Tryd.func34 (by kernel_rfl) rfl #[(.int .i64 (wrap64 ((o : Int) + (v : Int))))] (by rfl) rfl rfl (by (try simp only [List.map_toArray, List.map_cons, List.map_nil]); rfl) ?_
  rw [kw]
  refine (H34 w1.drew).mono ?_
  rintro e w_ ⟨rfl, rfl⟩
  refine ⟨_, rfl, ?_⟩
  refine hK.out _ _ b1 (fun hHeld => ?_)
  clear hK K
  refine norm_ (a' := ?_) ?_ ?_
  rotate_left
  · show Act.put _ (some 117) _ = _
    simp only [Act.put, s1_, s2_, s3_]
    rfl
  refine pure_ (i := 12) (N := some 123) (v := ?_) (a' := ?_) #[true, true, true, true, true, true, true, true, true, true, true, true, true, true, false] rfl rfl (by kernel_rfl) (fun _ _ _ h => h) (Or.inl ⟨by rfl, ?_⟩) ?_ ?_
  rotate_left
  · intro w'
    go_simp
    with_reducible rfl
  rotate_left
  · simp only [Act.put, s1_, s2_, s3_, i64_w, i32_w]
    rfl
  refine one_ (i := 14) (N := some 125) #[true, true, true, true, true, true, true, true, true, true, true, true, true, true, true] rfl rfl (by kernel_rfl) (by decide) (fun K hK => ?_)
  refine goes_ Tryd.func33 (by kernel_rfl) rfl #[_, _] (by rfl) rfl rfl (by (try simp only [List.map_toArray, List.map_cons, List.map_nil]); rfl) ?_
  refine (as33 _ _ _).mono ?_
  rintro e w_ ⟨rfl, rfl⟩
  refine ⟨_, rfl, ?_⟩
  refine hK.out _ _ b1 (fun hHeld => ?_)
  clear hK K
  refine norm_ (a' := ?_) ?_ ?_
  rotate_left
  · show Act.put _ (some 125) _ = _
    simp only [Act.put, s1_, s2_, s3_]
    rfl
  refine done_ (by kernel_rfl) ?_
  clear hHeld H34 kw
  go_upto_region 14 with fail
  refine wp_at ?_
  intro w2 hw2
  have b2 : w2.drew.heap[g]? = some (.cells X 50 (0, 0)) := by rw [hw2]; exact b1
  have O2 : Own w2.drew b C L M := by rw [hw2]; exact O1.tch ((Tch.refl (fun _ => False) _).drew) (fun h => h)
  have R2 : TabAt w2.drew := by rw [hw2]; exact R1.tch ((Tch.refl (fun _ => False) _).drew) (fun h => h)
  have T2 : Tch (fun k => k = g ∨ k = b) w w2.drew := by rw [hw2]; exact T1.drew
  clear hw2 b1 O1 T1 R1
  refine start_ (n := 11) (S := fun w' => w'.heap[g]? = some (.cells X 50 (0, 0))) (ds := []) #[false, false, false, false, false, false, false, false, false, false, false] (by kernel_rfl) rfl rfl b2 (fun hHeld => ?_)
  refine pure_ (i := 0) (N := some 126) (v := ?_) (a' := ?_) #[true, false, false, false, false, false, false, false, false, false, false] rfl rfl (by kernel_rfl) (fun _ _ _ h => h) (Or.inl ⟨by rfl, ?_⟩) ?_ ?_
  rotate_left
  · intro w'
    go_simp
    with_reducible rfl
  rotate_left
  · simp only [Act.put, s1_, s2_, s3_, i64_w, i32_w]
    rfl
  refine pure_ (i := 1) (N := some 127) (v := ?_) (a' := ?_) #[true, true, false, false, false, false, false, false, false, false, false] rfl rfl (by kernel_rfl) (fun _ _ _ h => h) (Or.inl ⟨by rfl, ?_⟩) ?_ ?_
  rotate_left
  · intro w'
    go_simp
    with_reducible rfl
  rotate_left
  · simp only [Act.put, s1_, s2_, s3_, i64_w, i32_w]
    rfl
  refine pure_ (i := 2) (N := some 128) (v := ?_) (a' := ?_) #[true, true, true, false, false, false, false, false, false, false, false] rfl rfl (by kernel_rfl) (fun _ _ _ h => h) (Or.inl ⟨by rfl, ?_⟩) ?_ ?_
  rotate_left
  · intro w'
    go_simp
    with_reducible rfl
  rotate_left
  · simp only [Act.put, s1_, s2_, s3_, i64_w, i32_w]
    rfl
  refine take_ (i := 3) (N := some 129) (v := ?_) (a' := ?_) #[true, true, true, true, false, false, false, false, false, false, false] rfl rfl (by kernel_rfl) (fun _ _ _ h => h) (Or.inl ⟨by rfl, ?_⟩) hHeld ?_ ?_
  rotate_left
  · intro w' s0
    have d : w'.cell? ⟨g, 0, none⟩ = some (.slice (some ⟨b, s, none⟩) (L - s) (C - s)) := by rw [hX] at s0; exact (blk_cell s0 0).trans rfl
    clear s0
    go_simp
    with_reducible rfl
  rotate_left
  · simp only [Act.put, s1_, s2_, s3_, i64_w, i32_w]
    rfl
  refine pure_ (i := 4) (N := some 130) (v := ?_) (a' := ?_) #[true, true, true, true, true, false, false, false, false, false, false] rfl rfl (by kernel_rfl) (fun _ _ _ h => h) (Or.inl ⟨by rfl, ?_⟩) ?_ ?_
  rotate_left
  · intro w'
    go_simp
    with_reducible rfl
  rotate_left
  · simp only [Act.put, s1_, s2_, s3_, i64_w, i32_w]
    rfl
  refine pure_ (i := 5) (N := some 131) (v := ?_) (a' := ?_) #[true, true, true, true, true, true, false, false, false, false, false] rfl rfl (by kernel_rfl) (fun _ _ _ h => h) (Or.inl ⟨by rfl, ?_⟩) ?_ ?_
  rotate_left
  · intro w'
    go_simp
    with_reducible rfl
  rotate_left
  · simp only [Act.put, s1_, s2_, s3_, i64_w, i32_w]
    rfl
  refine pure_ (i := 6) (N := some 132) (v := ?_) (a' := ?_) #[true, true, true, true, true, true, true, false, false, false, false] rfl rfl (by kernel_rfl) (fun _ _ _ h => h) (Or.inl ⟨by rfl, ?_⟩) ?_ ?_
  rotate_left
  · intro w'
    go_simp
    with_reducible rfl
  rotate_left
  · simp only [Act.put, s1_, s2_, s3_, i64_w, i32_w]
    rfl
  refine take_ (i := 7) (N := some 133) (v := ?_) (a' := ?_) #[true, true, true, true, true, true, true, true, false, false, false] rfl rfl (by kernel_rfl) (fun _ _ _ h => h) (Or.inl ⟨by rfl, ?_⟩) hHeld ?_ ?_
  rotate_left
  · intro w' s0
    have d : w'.cell? ⟨g, 1, none⟩ = some (.int .i64 (o : Int)) := by rw [hX] at s0; exact (blk_cell s0 1).trans rfl
    clear s0
    go_simp
    with_reducible rfl
  rotate_left
  · simp only [Act.put, s1_, s2_, s3_, i64_w, i32_w]
    rfl
  refine pure_ (i := 8) (N := some 134) (v := ?_) (a' := ?_) #[true, true, true, true, true, true, true, true, true, false, false] rfl rfl (by kernel_rfl) (fun _ _ _ h => h) (Or.inl ⟨by rfl, ?_⟩) ?_ ?_
  rotate_left
  · intro w'
    go_simp
    with_reducible rfl
  rotate_left
  · simp only [Act.put, s1_, s2_, s3_, i64_w, i32_w]
    rfl
  refine one_ (i := 9) (N := some 135) #[true, true, true, true, true, true, true, true, true, true, false] rfl rfl (by kernel_rfl) (by decide) (fun K hK => ?_)
  refine goes_ Tryd.func35 (by kernel_rfl) rfl #[(.slice (some ⟨b, s, none⟩) (L - s) (C - s)), (.int .i64 (o : Int)), (.int .i64 (v : Int))] (by rfl) rfl rfl (by (try simp only [List.map_toArray, List.map_cons, List.map_nil]); rfl) ?_
  refine (bs_new b C L M s (L - s) (C - s) o v x w2.drew R2 O2 (by omega) (by omega) ho h0).mono ?_
  rintro e w3 ⟨rfl, hb3, S3⟩
  refine ⟨_, rfl, ?_⟩
  have b3 : w3.heap[g]? = some (.cells X 50 (0, 0)) := blk_below b2 hb3
  have T3 := T2.trans (Tch.of_below hb3)
  have hbh : b ≠ w2.drew.heap.size := by have := O2.lt; omega
  have hwh : w.heap.size ≤ w2.drew.heap.size := T2.size
  obtain ⟨h, hh⟩ : ∃ h, h = w2.drew.heap.size := ⟨_, rfl⟩
  rw [← hh] at S3 hbh hwh ⊢
  clear hh hb3 b2 O2 R2 T2
  refine hK.out _ _ b3 (fun hHeld => ?_)
  clear hK K
  refine norm_ (a' := ?_) ?_ ?_
  rotate_left
  · show Act.put _ (some 135) _ = _
    simp only [Act.put, s1_, s2_, s3_]
    rfl
  refine pure_ (i := 10) (N := some 8) (v := ?_) (a' := ?_) #[true, true, true, true, true, true, true, true, true, true, true] rfl rfl (by kernel_rfl) (fun _ _ _ h => h) (Or.inl ⟨by rfl, ?_⟩) ?_ ?_
  rotate_left
  · intro w'
    go_simp
    with_reducible rfl
  rotate_left
  · simp only [Act.put, s1_, s2_, s3_, i64_w, i32_w]
    rfl
  refine done_ (by kernel_rfl) ?_
  clear hHeld hX b3
  have HH := Lib.hid (And.intro T3 (And.intro S3 (And.intro hbh hwh)))
  clear T3 S3 hbh hwh hL hs hx h0 h8 ho
  go_wp2_with fail
  go_loopg [1, 9] v (fun kq v1 v9 wr => ∃ i xi : Nat, v1 = .int .u8 (xi : Int) ∧ v9 = .int .i64 (i : Int) ∧ Aside0 (xi = x / 2 ^ i ∧ i + kq = v ∧ Tch (fun k => k = g ∨ k = b) w wr ∧ Bs wr h b C L s (L - s) (C - s) o v i x M))
  case atStart => exact ⟨0, x, rfl, rfl, ⟨by simp, by omega, HH.out.1, HH.out.2.1⟩⟩
  case round =>
    obtain ⟨i, xi, rfl, rfl, HA⟩ := hrel
    by_cases hi : i < v
    · have hi1 : (i : Int) < (v : Int) := by omega
      have hi2 : i < 8 := by have := HZ.out.2.2.2.2.2.2.2.1; omega
      have hxi : xi < 256 := by
        have := HA.out.1
        have h2 := HZ.out.2.2.2.2.2.1
        rw [this]
        exact Nat.lt_of_le_of_lt (Nat.div_le_self _ _) h2
      have e1 : bits .and .u8 (xi : Int) 1 = ((xi % 2 : Nat) : Int) := one_fin ⟨xi, hxi⟩
      have hbit : x.testBit i = decide (xi % 2 = 1) := by rw [bit_shift, ← HA.out.1]
      obtain ⟨y, hy⟩ : ∃ y : Nat, y = xi / 2 := ⟨_, rfl⟩
      have hy2 : (xi : Int) / 2 = (y : Int) := by omega
      have HY : Hid (y = x / 2 ^ (i + 1)) := by
        rw [hy, HA.out.1, Nat.div_div_eq_div_mul, ← Nat.pow_succ]
        exact Lib.hid rfl
      clear hy hi
      rcases Nat.mod_two_eq_zero_or_one xi with hm | hm
      · rw [hm] at e1
        have hbt : Hid (x.testBit i = false) := by rw [hbit, hm]; exact Lib.hid rfl
        clear hbit hm hxi
        go_wp2_with (go_at_call 37; fail)
        refine (bs_clear h b C L s (L - s) (C - s) o v i x M wr HH.out.2.2.1 HA.out.2.2.2 (by omega) hbt.out).mono ?_
        rintro e w5 ⟨rfl, T5, B5⟩
        have H5 := Lib.hid (And.intro T5 B5)
        clear T5 B5
        go_wp2_with (go_at_call 38; fail)
        refine (bs_next h b C L s (L - s) (C - s) o v i x M w5 HH.out.2.2.1 H5.out.2 (by omega) (by have := HZ.out.2.2.2.2.2.2.2.1; omega) HZ.out.2.2.2.2.2.2.2.2 (by have := HZ.out.2.2.2.2; omega) HZ.out.2.2.2.2.1).mono ?_
        rintro e w6 ⟨rfl, T6, B6⟩
        have H6 : Hid (i + gk = v ∧ Tch (fun k => k = g ∨ k = b) w w6 ∧ Bs w6 h b C L s (L - s) (C - s) o v (i + 1) x M) := by
          refine Lib.hid ⟨HA.out.2.1, ?_, B6⟩
          exact (HA.out.2.2.1.then_ H5.out.1 (fun k hk => hk.elim (fun e => .inr (e ▸ HH.out.2.2.2)) (fun e => .inl (.inr e)))).then_ T6 (fun k hk => hk.elim (fun e => .inr (e ▸ HH.out.2.2.2)) (fun e => .inl (.inr e)))
        clear T6 B6 H5 HA
        go_wp2_with fail
        go_roundg (gk - 1)
        case measure => have := H6.out.1; omega
        case rel => exact ⟨i + 1, y, rfl, rfl, ⟨HY.out, by have := H6.out.1; omega, H6.out.2.1, H6.out.2.2⟩⟩
      · rw [hm] at e1
        have hbt : Hid (x.testBit i = true) := by rw [hbit, hm]; exact Lib.hid rfl
        clear hbit hm hxi
        go_wp2_with (go_at_call 36; fail)
        refine (bs_set h b C L s (L - s) (C - s) o v i x M wr HH.out.2.2.1 HA.out.2.2.2 (by omega) hbt.out).mono ?_
        rintro e w5 ⟨rfl, T5, B5⟩
        have H5 := Lib.hid (And.intro T5 B5)
        clear T5 B5
        go_wp2_with (go_at_call 38; fail)
        refine (bs_next h b C L s (L - s) (C - s) o v i x M w5 HH.out.2.2.1 H5.out.2 (by omega) (by have := HZ.out.2.2.2.2.2.2.2.1; omega) HZ.out.2.2.2.2.2.2.2.2 (by have := HZ.out.2.2.2.2; omega) HZ.out.2.2.2.2.1).mono ?_
        rintro e w6 ⟨rfl, T6, B6⟩
        have H6 : Hid (i + gk = v ∧ Tch (fun k => k = g ∨ k = b) w w6 ∧ Bs w6 h b C L s (L - s) (C - s) o v (i + 1) x M) := by
          refine Lib.hid ⟨HA.out.2.1, ?_, B6⟩
          exact (HA.out.2.2.1.then_ H5.out.1 (fun k hk => hk.elim (fun e => .inr (e ▸ HH.out.2.2.2)) (fun e => .inl (.inr e)))).then_ T6 (fun k hk => hk.elim (fun e => .inr (e ▸ HH.out.2.2.2)) (fun e => .inl (.inr e)))
        clear T6 B6 H5 HA
        go_wp2_with fail
        go_roundg (gk - 1)
        case measure => have := H6.out.1; omega
        case rel => exact ⟨i + 1, y, rfl, rfl, ⟨HY.out, by have := H6.out.1; omega, H6.out.2.1, H6.out.2.2⟩⟩
    · have hi1 : ¬ (i : Int) < (v : Int) := by omega
      obtain rfl : i = v := by have := HA.out.2.1; omega
      go_wp2_with (go_at_call 39; fail)
      refine (bs_fin h b C L s (L - s) (C - s) o i x M wr HH.out.2.2.1 HA.out.2.2.2 HZ.out.2.2.2.2.2.2.1 HZ.out.2.2.2.2.2.2.2.2 (by have := HZ.out.2.2.2.2; omega) HZ.out.2.2.2.2.1).mono ?_
      rintro e w6 ⟨rfl, T6, M', O6, U6⟩
      have H6 : Hid (Tch (fun k => k = g ∨ k = b) w w6 ∧ Own w6 b C L M' ∧ Upd M (8 * s + o) i x M') :=
        Lib.hid ⟨HA.out.2.2.1.then_ T6 (fun k hk => hk.elim (fun e => .inr (e ▸ HH.out.2.2.2)) (fun e => .inl (.inr e))), O6, U6⟩
      clear T6 O6 U6
      go_wp2
      go_end0
      exact ⟨rfl, H6.out.1, M', H6.out.2.1, H6.out.2.2⟩
end Go.Proofs.YthgbfmcicpmepaaDoor.V
