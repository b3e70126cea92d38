/- The new writer of words. -/
import Derived.Test.YthgbfmcicpmepaaDoorBW5
namespace Go.Proofs.YthgbfmcicpmepaaDoor.V
open Go.RowKit Go.Proofs.YthgbfmcicpmepaaDoor.B Go.Proofs.YthgbfmcicpmepaaDoorW.PrintWords Go.Proofs.YthgbfmcicpmepaaDoorW.PrintLast Go.Proofs.YthgbfmcicpmepaaDoorW.PrintMore
set_option linter.unusedVariables false
set_option linter.unusedSimpArgs false
set_option maxHeartbeats 4000000 in
theorem new18a (b C L : Nat) (M : Nat → Nat) (p s o n : Nat) (w : World) (hO : Own w b C L M) (hL : L ≤ C) (hp : p + n ≤ 8 * L) (hE : L < 2 ^ 40) (hs : s = p / 8) (ho : o = p % 8) (h0 : p % 8 = 0) (hn : 0 < n) :
    Calls Tryd.prog 18 #[.slice (some ⟨b, 0, none⟩) L C, .int .i64 (p : Int), .int .i64 (n : Int)] w fun e w' => e = .returned (.pointer (some ⟨w.heap.size, 0, none⟩)) ∧ Below w.heap.size w w' ∧ Ws w' w.heap.size b C L s o (n : Int) 0 := by
  have e1 : (p : Int) / 8 = (s : Int) := by omega
  have e2 : (p : Int) % 8 = (o : Int) := by omega
  have l1 : (s : Int) ≤ (L : Int) := by omega
  have l2 : C ≠ s := by omega
  have l3 : s ≤ C := by omega
  have l4 : o < 8 := by omega
  have e3 : IntKind.u64.wrap (o : Int) = (o : Int) := wrap_u64 o (by omega)
  have hpw : 2 ^ o ≤ 2 ^ 7 := Nat.pow_le_pow_right (by omega) (by omega)
  have hpz := Nat.two_pow_pos o
  obtain ⟨T, hTT⟩ : ∃ T : Nat, T = 2 ^ o := ⟨_, rfl⟩
  have e4 : (2 : Int) ^ o = (T : Int) := by rw [hTT, Int.natCast_pow]; rfl
  rw [← hTT] at hpw hpz
  have h2 : ¬ (o : Int) ≠ 0 := by omega
  have h3 : (o : Int) = 0 := by omega
  have h5 : o = 0 := by omega
  have h5 := Lib.hid h5
  have hblt := hO.lt
  have hT1 : (T : Int) - 1 = ((T - 1 : Nat) : Int) := by omega
  have HV := Lib.hid (And.intro hTT (And.intro hO (And.intro hp (And.intro hL (And.intro hs (And.intro ho hT1))))))
  clear hTT hO hp hs ho hT1
  go_enter Tryd.func18, Tryd.ntmps18
  go_wp2
  go_ret
  have ho := h5.out
  subst ho
  exact ⟨rfl, (Below.refl _ _).alloc (Nat.le_refl _) _, ⟨some ⟨b, s, none⟩, fun _ => rfl, blk_new_at rfl⟩⟩
set_option maxHeartbeats 4000000 in
theorem new18b (b C L : Nat) (M : Nat → Nat) (p s o n : Nat) (w : World) (hO : Own w b C L M) (hL : L ≤ C) (hp : p + n ≤ 8 * L) (hE : L < 2 ^ 40) (hs : s = p / 8) (ho : o = p % 8) (h0 : p % 8 ≠ 0) (hn : 64 ≤ n) :
    Calls Tryd.prog 18 #[.slice (some ⟨b, 0, none⟩) L C, .int .i64 (p : Int), .int .i64 (n : Int)] w fun e w' => e = .returned (.pointer (some ⟨w.heap.size, 0, none⟩)) ∧ Below w.heap.size w w' ∧ Ws w' w.heap.size b C L s o (n : Int) (pk M (8 * s) 64) := by
  have e1 : (p : Int) / 8 = (s : Int) := by omega
  have e2 : (p : Int) % 8 = (o : Int) := by omega
  have l1 : (s : Int) ≤ (L : Int) := by omega
  have l2 : C ≠ s := by omega
  have l3 : s ≤ C := by omega
  have l4 : o < 8 := by omega
  have e3 : IntKind.u64.wrap (o : Int) = (o : Int) := wrap_u64 o (by omega)
  have hpw : 2 ^ o ≤ 2 ^ 7 := Nat.pow_le_pow_right (by omega) (by omega)
  have hpz := Nat.two_pow_pos o
  obtain ⟨T, hTT⟩ : ∃ T : Nat, T = 2 ^ o := ⟨_, rfl⟩
  have e4 : (2 : Int) ^ o = (T : Int) := by rw [hTT, Int.natCast_pow]; rfl
  rw [← hTT] at hpw hpz
  have h2 : (o : Int) ≠ 0 := by omega
  have h3 : (64 : Int) ≤ (n : Int) := by omega
  have l7 : 8 ≤ L - s := by omega
  have l8 : s + 8 ≤ L := by omega
  have hblt := hO.lt
  have hT1 : (T : Int) - 1 = ((T - 1 : Nat) : Int) := by omega
  have HV := Lib.hid (And.intro hTT (And.intro hO (And.intro hp (And.intro hL (And.intro hs (And.intro ho hT1))))))
  clear hTT hO hp hs ho hT1
  go_enter Tryd.func18, Tryd.ntmps18
  go_upto_region 4 with fail
  refine wp_at ?_
  intro w1 hw1
  obtain ⟨hTT, hO, hp, hL, hs, ho, hT1⟩ := HV.out
  obtain ⟨X, hX⟩ : ∃ X : Array Value, X = #[.slice (some ⟨b, s, none⟩) (L - s) (C - s), .int .i64 (o : Int), .int .i64 (n : Int), .int .u64 ((2 ^ o - 1 : Nat) : Int), .int .u64 0] := ⟨_, rfl⟩
  have b1 : w1.drew.heap[w.heap.size]? = some (.cells X 50 (0, 0)) := by
    rw [hw1, hX, ← hTT, ← hT1]
    exact blk_drew_ (blk_new_at rfl)
  have B1 : Below w.heap.size w w1.drew := by rw [hw1]; exact ((Below.refl _ _).alloc (Nat.le_refl _) _).drew
  have O1 : Own w1.drew b C L M := hO.tch (Tch.of_below (S := fun _ => False) B1) (fun h => h)
  have g1 : w1.drew.cell? ⟨w.heap.size, 0, none⟩ = some (.slice (some ⟨b, s, none⟩) (L - s) (C - s)) := by rw [hX] at b1; exact (blk_cell b1 0).trans rfl
  clear hw1 hTT hO hT1 hs ho e1 e2 e3 e4 hpw hpz h2 h3
  refine start_ (n := 11) (S := fun w' => w'.cell? ⟨w.heap.size, 0, none⟩ = some (.slice (some ⟨b, s, none⟩) (L - s) (C - s))) (ds := []) #[false, false, false, false, false, false, false, false, false, false, false] (by kernel_rfl) rfl rfl g1 (fun hHeld => ?_)
  refine pure_ (i := 0) (N := some 32) (v := ?_) (a' := ?_) #[true, false, false, false, false, false, false, false, false, false, false] rfl rfl (by kernel_rfl) (fun _ _ _ h => h) (Or.inl ⟨by rfl, ?_⟩) ?_ ?_
  rotate_left
  · intro w'
    go_simp
    with_reducible rfl
  rotate_left
  · simp only [Act.put, s1_, s2_, s3_, i64_w, i32_w]
    rfl
  refine pure_ (i := 2) (N := some 34) (v := ?_) (a' := ?_) #[true, false, true, false, false, false, false, false, false, false, false] rfl rfl (by kernel_rfl) (fun _ _ _ h => h) (Or.inl ⟨by rfl, ?_⟩) ?_ ?_
  rotate_left
  · intro w'
    go_simp
    with_reducible rfl
  rotate_left
  · simp only [Act.put, s1_, s2_, s3_, i64_w, i32_w]
    rfl
  refine pure_ (i := 3) (N := some 35) (v := ?_) (a' := ?_) #[true, false, true, true, false, false, false, false, false, false, false] rfl rfl (by kernel_rfl) (fun _ _ _ h => h) (Or.inl ⟨by rfl, ?_⟩) ?_ ?_
  rotate_left
  · intro w'
    go_simp
    with_reducible rfl
  rotate_left
  · simp only [Act.put, s1_, s2_, s3_, i64_w, i32_w]
    rfl
  refine pure_ (i := 4) (N := some 36) (v := ?_) (a' := ?_) #[true, false, true, true, true, false, false, false, false, false, false] rfl rfl (by kernel_rfl) (fun _ _ _ h => h) (Or.inl ⟨by rfl, ?_⟩) ?_ ?_
  rotate_left
  · intro w'
    go_simp
    with_reducible rfl
  rotate_left
  · simp only [Act.put, s1_, s2_, s3_, i64_w, i32_w]
    rfl
  refine take_ (i := 1) (N := some 33) (v := ?_) (a' := ?_) #[true, true, true, true, true, false, false, false, false, false, false] rfl rfl (by kernel_rfl) (fun _ _ _ h => h) (Or.inl ⟨by rfl, ?_⟩) hHeld ?_ ?_
  rotate_left
  · intro w' s0
    clear s0
    go_simp
    with_reducible rfl
  rotate_left
  · simp only [Act.put, s1_, s2_, s3_, i64_w, i32_w]
    rfl
  refine take_ (i := 5) (N := some 37) (v := ?_) (a' := ?_) #[true, true, true, true, true, true, false, false, false, false, false] rfl rfl (by kernel_rfl) (fun _ _ _ h => h) (Or.inl ⟨by rfl, ?_⟩) hHeld ?_ ?_
  rotate_left
  · intro w' s0
    have d := s0
    clear s0
    go_simp
    with_reducible rfl
  rotate_left
  · simp only [Act.put, s1_, s2_, s3_, i64_w, i32_w]
    rfl
  refine one_ (i := 6) (N := some 38) #[true, true, true, true, true, true, true, false, false, false, false] rfl rfl (by kernel_rfl) (by decide) (fun K hK => ?_)
  refine goes_ Tryd.func29 (by kernel_rfl) rfl #[(.agg #[]), (.slice (some ⟨b, s, none⟩) (L - s) (C - s))] (by rfl) rfl rfl (by (try simp only [List.map_toArray, List.map_cons, List.map_nil]); rfl) ?_
  refine (get29 b 0 L M s (L - s) s (C - s) w1.drew O1.dat (by omega) (by omega) (by omega)).mono ?_
  rintro e w3 ⟨rfl, hb3⟩
  refine ⟨_, rfl, ?_⟩
  have b3 : w3.heap[w.heap.size]? = some (.cells X 50 (0, 0)) := blk_below b1 hb3
  have B3 := Tch.below B1 (Tch.of_below (S := fun _ => False) hb3) B1.size (fun _ h => h.elim)
  have g3 : w3.cell? ⟨w.heap.size, 0, none⟩ = some (.slice (some ⟨b, s, none⟩) (L - s) (C - s)) := by rw [hX] at b3; exact (blk_cell b3 0).trans rfl
  clear g1 b1 B1 O1 hb3
  refine hK.out _ _ g3 (fun hHeld => ?_)
  clear hK K hHeld
  refine norm_ (a' := ?_) ?_ ?_
  rotate_left
  · show Act.put _ (some 38) _ = _
    simp only [Act.put, s1_, s2_, s3_]
    rfl
  refine one_ (i := 7) (N := some 39) #[true, true, true, true, true, true, true, true, false, false, false] rfl rfl (by kernel_rfl) (by decide) (fun K hK => ?_)
  refine goes_ Tryd.func28 (by kernel_rfl) rfl #[(.int .u64 ((pk M (8 * s) 64 : Nat) : Int))] (by rfl) rfl rfl (by (try simp only [List.map_toArray, List.map_cons, List.map_nil]); rfl) ?_
  refine (le28 _ w3).mono ?_
  rintro e w4 ⟨rfl, rfl⟩
  refine ⟨_, rfl, ?_⟩
  refine hK.out _ _ g3 (fun hHeld => ?_)
  clear hK K
  refine norm_ (a' := ?_) ?_ ?_
  rotate_left
  · show Act.put _ (some 39) _ = _
    simp only [Act.put, s1_, s2_, s3_]
    rfl
  refine pure_ (i := 8) (N := some 40) (v := ?_) (a' := ?_) #[true, true, true, true, true, true, true, true, true, false, false] rfl rfl (by kernel_rfl) (fun _ _ _ h => h) (Or.inl ⟨by rfl, ?_⟩) ?_ ?_
  rotate_left
  · intro w'
    go_simp
    with_reducible rfl
  rotate_left
  · simp only [Act.put, s1_, s2_, s3_, i64_w, i32_w]
    rfl
  refine pure_ (i := 9) (N := some 41) (v := ?_) (a' := ?_) #[true, true, true, true, true, true, true, true, true, true, false] rfl rfl (by kernel_rfl) (fun _ _ _ h => h) (Or.inl ⟨by rfl, ?_⟩) ?_ ?_
  rotate_left
  · intro w'
    go_simp
    with_reducible rfl
  rotate_left
  · simp only [Act.put, s1_, s2_, s3_, i64_w, i32_w]
    rfl
  have c5 : w3.cell? ⟨w.heap.size, 4, none⟩ = some (.int .u64 0) := by rw [hX] at b3; exact (blk_cell b3 4).trans rfl
  have f5 := blk_frozen b3 4
  obtain ⟨wF, hwF⟩ : ∃ wF, wF = w3.setCell ⟨w.heap.size, 4, none⟩ (.int .u64 ((pk M (8 * s) 64 : Nat) : Int)) := ⟨_, rfl⟩
  obtain ⟨Y, hY⟩ : ∃ Y : Array Value, Y = #[.slice (some ⟨b, s, none⟩) (L - s) (C - s), .int .i64 (o : Int), .int .i64 (n : Int), .int .u64 ((2 ^ o - 1 : Nat) : Int), .int .u64 ((pk M (8 * s) 64 : Nat) : Int)] := ⟨_, rfl⟩
  have bF : wF.heap[w.heap.size]? = some (.cells Y 50 (0, 0)) := by rw [hwF]; rw [hX] at b3; exact blk_put b3 4 _ (by rw [hY]; rfl)
  have BF : Below w.heap.size w wF := by rw [hwF]; exact B3.setCell (Nat.le_refl _) _
  have gF : wF.cell? ⟨w.heap.size, 0, none⟩ = some (.slice (some ⟨b, s, none⟩) (L - s) (C - s)) := by rw [hY] at bF; exact (blk_cell bF 0).trans rfl
  refine one_ (i := 10) (N := none) #[true, true, true, true, true, true, true, true, true, true, true] rfl rfl (by kernel_rfl) (by decide) (fun K hK => ?_)
  have HF := Lib.hid hwF
  clear hwF
  refine skip_ (w1 := wF) (by rfl) rfl ?_ ?_
  · clear bF BF gF b3 B3 g3
    go_simp
    rw [HF.out]
  refine hK.out _ _ gF (fun hHeld => ?_)
  clear hK K
  clear HF c5 f5 b3 B3 g3 hX gF
  refine done_ (by kernel_rfl) ?_
  have HE := Lib.hid (And.intro BF (And.intro bF hY))
  clear hHeld BF bF hY
  go_wp2
  go_ret
  obtain ⟨BF, bF, hY⟩ := HE.out
  refine ⟨rfl, BF, some ⟨b, s, none⟩, fun _ => rfl, ?_⟩
  rw [bF, hY]
set_option maxHeartbeats 4000000 in
theorem new18c (b C L : Nat) (M : Nat → Nat) (p s o n : Nat) (w : World) (hO : Own w b C L M) (hL : L ≤ C) (hp : p + n ≤ 8 * L) (hE : L < 2 ^ 40) (hs : s = p / 8) (ho : o = p % 8) (h0 : p % 8 ≠ 0) (hn : 0 < n) (hn2 : n < 64) :
    Calls Tryd.prog 18 #[.slice (some ⟨b, 0, none⟩) L C, .int .i64 (p : Int), .int .i64 (n : Int)] w fun e w' => e = .returned (.pointer (some ⟨w.heap.size, 0, none⟩)) ∧ Below w.heap.size w w' ∧ Ws w' w.heap.size b C L s o (n : Int) (M s) := by
  have e1 : (p : Int) / 8 = (s : Int) := by omega
  have e2 : (p : Int) % 8 = (o : Int) := by omega
  have l1 : (s : Int) ≤ (L : Int) := by omega
  have l2 : C ≠ s := by omega
  have l3 : s ≤ C := by omega
  have l4 : o < 8 := by omega
  have e3 : IntKind.u64.wrap (o : Int) = (o : Int) := wrap_u64 o (by omega)
  have hpw : 2 ^ o ≤ 2 ^ 7 := Nat.pow_le_pow_right (by omega) (by omega)
  have hpz := Nat.two_pow_pos o
  obtain ⟨T, hTT⟩ : ∃ T : Nat, T = 2 ^ o := ⟨_, rfl⟩
  have e4 : (2 : Int) ^ o = (T : Int) := by rw [hTT, Int.natCast_pow]; rfl
  rw [← hTT] at hpw hpz
  have h2 : (o : Int) ≠ 0 := by omega
  have h3 : ¬ (64 : Int) ≤ (n : Int) := by omega
  have h6 : (0 : Int) < (n : Int) := by omega
  have l7 : (0 : Int) < ((L - s : Nat) : Int) := by omega
  have l8 : 0 < L - s := by omega
  have hblt := hO.lt
  have hT1 : (T : Int) - 1 = ((T - 1 : Nat) : Int) := by omega
  have HV := Lib.hid (And.intro hTT (And.intro hO (And.intro hp (And.intro hL (And.intro hs (And.intro ho hT1))))))
  clear hTT hO hp hs ho hT1
  go_enter Tryd.func18, Tryd.ntmps18
  go_upto_region 6 with fail
  refine wp_at ?_
  intro w1 hw1
  obtain ⟨hTT, hO, hp, hL, hs, ho, hT1⟩ := HV.out
  obtain ⟨X, hX⟩ : ∃ X : Array Value, X = #[.slice (some ⟨b, s, none⟩) (L - s) (C - s), .int .i64 (o : Int), .int .i64 (n : Int), .int .u64 ((2 ^ o - 1 : Nat) : Int), .int .u64 0] := ⟨_, rfl⟩
  have b1 : w1.drew.heap[w.heap.size]? = some (.cells X 50 (0, 0)) := by
    rw [hw1, hX, ← hTT, ← hT1]
    exact blk_drew_ (blk_new_at rfl)
  have B1 : Below w.heap.size w w1.drew := by rw [hw1]; exact ((Below.refl _ _).alloc (Nat.le_refl _) _).drew
  have O1 : Own w1.drew b C L M := hO.tch (Tch.of_below (S := fun _ => False) B1) (fun h => h)
  have g1 : w1.drew.cell? ⟨w.heap.size, 0, none⟩ = some (.slice (some ⟨b, s, none⟩) (L - s) (C - s)) := by rw [hX] at b1; exact (blk_cell b1 0).trans rfl
  clear hw1 hTT hO hT1 hs ho e1 e2 e3 e4 hpw hpz h2 h3
  refine start_ (n := 10) (S := fun w' => w'.cell? ⟨w.heap.size, 0, none⟩ = some (.slice (some ⟨b, s, none⟩) (L - s) (C - s)) ∧ w'.cell? ⟨b, s, none⟩ = some (.int .u8 (M s : Int))) (ds := []) #[false, false, false, false, false, false, false, false, false, false] (by kernel_rfl) rfl rfl ⟨g1, O1.cell s (by omega)⟩ (fun hHeld => ?_)
  refine pure_ (i := 0) (N := some 47) (v := ?_) (a' := ?_) #[true, false, false, false, false, false, false, false, false, false] rfl rfl (by kernel_rfl) (fun _ _ _ h => h) (Or.inl ⟨by rfl, ?_⟩) ?_ ?_
  rotate_left
  · intro w'
    go_simp
    with_reducible rfl
  rotate_left
  · simp only [Act.put, s1_, s2_, s3_, i64_w, i32_w]
    rfl
  refine pure_ (i := 1) (N := some 48) (v := ?_) (a' := ?_) #[true, true, false, false, false, false, false, false, false, false] rfl rfl (by kernel_rfl) (fun _ _ _ h => h) (Or.inl ⟨by rfl, ?_⟩) ?_ ?_
  rotate_left
  · intro w'
    go_simp
    with_reducible rfl
  rotate_left
  · simp only [Act.put, s1_, s2_, s3_, i64_w, i32_w]
    rfl
  refine pure_ (i := 2) (N := some 49) (v := ?_) (a' := ?_) #[true, true, true, false, false, false, false, false, false, false] rfl rfl (by kernel_rfl) (fun _ _ _ h => h) (Or.inl ⟨by rfl, ?_⟩) ?_ ?_
  rotate_left
  · intro w'
    go_simp
    with_reducible rfl
  rotate_left
  · simp only [Act.put, s1_, s2_, s3_, i64_w, i32_w]
    rfl
  refine pure_ (i := 3) (N := some 50) (v := ?_) (a' := ?_) #[true, true, true, true, false, false, false, false, false, false] rfl rfl (by kernel_rfl) (fun _ _ _ h => h) (Or.inl ⟨by rfl, ?_⟩) ?_ ?_
  rotate_left
  · intro w'
    go_simp
    with_reducible rfl
  rotate_left
  · simp only [Act.put, s1_, s2_, s3_, i64_w, i32_w]
    rfl
  refine pure_ (i := 4) (N := some 51) (v := ?_) (a' := ?_) #[true, true, true, true, true, false, false, false, false, false] rfl rfl (by kernel_rfl) (fun _ _ _ h => h) (Or.inl ⟨by rfl, ?_⟩) ?_ ?_
  rotate_left
  · intro w'
    go_simp
    with_reducible rfl
  rotate_left
  · simp only [Act.put, s1_, s2_, s3_, i64_w, i32_w]
    rfl
  refine pure_ (i := 5) (N := some 52) (v := ?_) (a' := ?_) #[true, true, true, true, true, true, false, false, false, false] rfl rfl (by kernel_rfl) (fun _ _ _ h => h) (Or.inl ⟨by rfl, ?_⟩) ?_ ?_
  rotate_left
  · intro w'
    go_simp
    with_reducible rfl
  rotate_left
  · simp only [Act.put, s1_, s2_, s3_, i64_w, i32_w]
    rfl
  refine take_ (i := 6) (N := some 53) (v := ?_) (a' := ?_) #[true, true, true, true, true, true, true, false, false, false] rfl rfl (by kernel_rfl) (fun _ _ _ h => h) (Or.inl ⟨by rfl, ?_⟩) hHeld ?_ ?_
  rotate_left
  · intro w' s0
    have d := s0.1
    clear s0
    go_simp
    with_reducible rfl
  rotate_left
  · simp only [Act.put, s1_, s2_, s3_, i64_w, i32_w]
    rfl
  refine pure_ (i := 7) (N := some 54) (v := ?_) (a' := ?_) #[true, true, true, true, true, true, true, true, false, false] rfl rfl (by kernel_rfl) (fun _ _ _ h => h) (Or.inl ⟨by rfl, ?_⟩) ?_ ?_
  rotate_left
  · intro w'
    go_simp
    with_reducible rfl
  rotate_left
  · simp only [Act.put, s1_, s2_, s3_, i64_w, i32_w]
    rfl
  refine take_ (i := 8) (N := some 55) (v := ?_) (a' := ?_) #[true, true, true, true, true, true, true, true, true, false] rfl rfl (by kernel_rfl) (fun _ _ _ h => h) (Or.inl ⟨by rfl, ?_⟩) hHeld ?_ ?_
  rotate_left
  · intro w' s0
    have d := s0.2
    clear s0
    go_simp
    with_reducible rfl
  rotate_left
  · simp only [Act.put, s1_, s2_, s3_, i64_w, i32_w]
    rfl
  refine one_ (i := 9) (N := some 56) #[true, true, true, true, true, true, true, true, true, true] rfl rfl (by kernel_rfl) (by decide) (fun K hK => ?_)
  refine goes_ Tryd.func30 (by kernel_rfl) rfl #[(.pointer (some ⟨w.heap.size, 4, none⟩)), (.int .u8 (M s : Int))] (by rfl) rfl rfl (by (try simp only [List.map_toArray, List.map_cons, List.map_nil]); rfl) ?_
  have c5 : w1.drew.cell? ⟨w.heap.size, 4, none⟩ = some (.int .u64 ((0 : Nat) : Int)) := by rw [hX] at b1; exact (blk_cell b1 4).trans rfl
  refine (set30 w.heap.size 4 0 (M s) w1.drew (by omega) (O1.byte s) c5 (blk_frozen b1 4)).mono ?_
  rintro e wF ⟨rfl, hwF⟩
  refine ⟨_, rfl, ?_⟩
  obtain ⟨Y, hY⟩ : ∃ Y : Array Value, Y = #[.slice (some ⟨b, s, none⟩) (L - s) (C - s), .int .i64 (o : Int), .int .i64 (n : Int), .int .u64 ((2 ^ o - 1 : Nat) : Int), .int .u64 ((M s + 2 ^ 8 * (0 / 256) : Nat) : Int)] := ⟨_, rfl⟩
  have bF : wF.heap[w.heap.size]? = some (.cells Y 50 (0, 0)) := by rw [hwF]; rw [hX] at b1; exact blk_put b1 4 _ (by rw [hY]; rfl)
  have BF : Below w.heap.size w wF := by rw [hwF]; exact B1.setCell (Nat.le_refl _) _
  have gF : wF.cell? ⟨w.heap.size, 0, none⟩ = some (.slice (some ⟨b, s, none⟩) (L - s) (C - s)) := by rw [hY] at bF; exact (blk_cell bF 0).trans rfl
  have mF : wF.cell? ⟨b, s, none⟩ = some (.int .u8 (M s : Int)) := (O1.tch (Tch.of_below (S := fun _ => False) (show Below w1.drew.heap.size w1.drew w1.drew from Below.refl _ _)) (fun h => h)).other (i := 4) (g := w.heap.size) (u := .int .u64 ((M s + 2 ^ 8 * (0 / 256) : Nat) : Int)) (by omega) |>.cell s (by omega) |> fun h => by rw [hwF]; exact h
  clear hwF c5 g1 b1 B1 O1 hX
  refine hK.out _ _ ⟨gF, mF⟩ (fun hHeld => ?_)
  clear hK K
  refine norm_ (a' := ?_) ?_ ?_
  rotate_left
  · show Act.put _ (some 56) _ = _
    simp only [Act.put, s1_, s2_, s3_]
    rfl
  refine done_ (by kernel_rfl) ?_
  clear gF mF
  have HE := Lib.hid (And.intro BF (And.intro bF hY))
  clear hHeld BF bF hY
  go_wp2
  go_ret
  obtain ⟨BF, bF, hY⟩ := HE.out
  refine ⟨rfl, BF, some ⟨b, s, none⟩, fun _ => rfl, ?_⟩
  rw [bF, hY]
  rw [show M s + 2 ^ 8 * (0 / 256) = M s by omega]
end Go.Proofs.YthgbfmcicpmepaaDoor.V
