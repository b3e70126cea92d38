/- The new reader of words. -/
import Derived.Test.YthgbfmcicpmepaaDoorBT4
namespace Go.Proofs.YthgbfmcicpmepaaDoor.V
open Go.RowKit Go.Proofs.YthgbfmcicpmepaaDoor.B Go.Proofs.YthgbfmcicpmepaaDoorW.PrintWords Go.Proofs.YthgbfmcicpmepaaDoorW.PrintLast Go.Proofs.YthgbfmcicpmepaaDoorW.PrintMore
set_option linter.unusedVariables false
set_option linter.unusedSimpArgs false
theorem by34 (x : Nat) (w : World) (hx : x < 2 ^ 60) : Calls Tryd.prog 34 #[.int .i64 (x : Int)] w fun e w' => e = .returned (.int .i64 (((x + 7) / 8 : Nat) : Int)) ∧ w = w' := by
  go_enter Tryd.func34, Tryd.ntmps34
  go_wp2
  go_ret
  exact ⟨rfl, rfl⟩
theorem new42a (B O m : Nat) (D : Nat → Nat) (c p n s o L : Nat) (w : World) (hD : Dat w B O m D) (hc : m ≤ c) (hn : 0 < n) (hn2 : n < 64) (hs : s = p / 8) (ho : o = p % 8) (hL : L = (o + n + 7) / 8) (hp : p + n ≤ 8 * m) (hm : m < 2 ^ 40) :
    Calls Tryd.prog 42 #[.slice (some ⟨B, O, none⟩) m c, .int .i64 (p : Int), .int .i64 (n : Int)] w fun e w' => e = .returned (.pointer (some ⟨w.heap.size, 0, none⟩)) ∧ Below w.heap.size w w' ∧ Rdr w' w.heap.size B O (s + L) s (c - s) o 0 (n : Int) (((n + 7) / 8 : Nat) : Int) (D s) := by
  have k3 : Int.tdiv (n : Int) 64 = 0 := by rw [Int.tdiv_eq_ediv_of_nonneg (by omega)]; omega
  have l1 : s < c := by omega
  have l2 : s + L ≤ c := by omega
  have l3 : o + n < 2 ^ 60 := by omega
  have l4 : n < 2 ^ 60 := by omega
  have hP : ∀ W, Calls Tryd.prog 34 #[.int .i64 ((p : Int) % 8 + (n : Int))] W fun e w' => e = .returned (.int .i64 (L : Int)) ∧ W = w' := fun W => by
    have := by34 (o + n) W l3
    rw [← hL, show ((o + n : Nat) : Int) = (p : Int) % 8 + (n : Int) by omega] at this
    exact this
  have l5 : (p : Int) / 8 + (L : Int) ≤ (c : Int) := by omega
  have l6 : (p : Int) / 8 < (c : Int) := by omega
  go_enter Tryd.func42, Tryd.ntmps42
  go_wp2_with (first | (go_at_call 34; (with_reducible refine (hP _).mono ?_); rintro e w1 ⟨rfl, rfl⟩))
  refine calls_at ?_
  intro w1 hw1
  have b1 : Below w.heap.size w w1 := by rw [hw1]; exact (Below.refl _ _).alloc (Nat.le_refl _) _
  have B1 : w1.heap[w.heap.size]? = some (.cells #[.slice (some ⟨B, O + s, none⟩) L (c - s), .int .i64 (o : Int), .int .i64 0, .int .i64 (n : Int), .int .i64 0, .int .u64 0] 77 (0, 0)) := by
    rw [hw1, hL, ho, hs]
    exact blk_new_at rfl
  clear hw1 hP
  refine (by34 n w1 l4).mono ?_
  rintro e w2 ⟨rfl, rfl⟩
  have h2 : w1.cell? ⟨w.heap.size, 2, none⟩ = some (.int .i64 0) := (blk_cell B1 2).trans rfl
  have h4 : w1.cell? ⟨w.heap.size, 4, none⟩ = some (.int .i64 0) := (blk_cell B1 4).trans rfl
  have f4 := blk_frozen B1 4
  have H1 := Lib.hid (And.intro b1 B1)
  clear b1 B1
  have ln : (0 : Int) < (n : Int) := by omega
  have l7 : (0 : Int) < (L : Int) := by omega
  have l8 : 0 < L := by omega
  have l9 : s < m := by omega
  clear hs ho hL l1 l2 l5 l6
  go_wp2
  refine wp_at ?_
  intro w2 hw2
  obtain ⟨b1, B1⟩ := H1.out
  obtain ⟨X, hX⟩ : ∃ X : Array Value, X = #[.slice (some ⟨B, O + s, none⟩) L (c - s), .int .i64 (o : Int), .int .i64 0, .int .i64 (n : Int), .int .i64 (((n + 7) / 8 : Nat) : Int), .int .u64 0] := ⟨_, rfl⟩
  have B2 : w2.heap[w.heap.size]? = some (.cells X 77 (0, 0)) := by rw [hw2, hX]; exact blk_put B1 4 _ rfl
  have b2 : Below w.heap.size w w2.drew := by rw [hw2]; exact (b1.setCell (Nat.le_refl _) _).drew
  have D2 := hD.tch (Tch.of_below (S := fun _ => False) b2) (fun h => h)
  clear hw2 H1 h2 h4 f4 b1 B1
  have g0 : w2.drew.cell? ⟨w.heap.size, 0, none⟩ = some (.slice (some ⟨B, O + s, none⟩) L (c - s)) := by rw [hX] at B2; exact (blk_cell (blk_drew_ B2) 0).trans rfl
  refine start_ (n := 10) (S := fun w' => w'.cell? ⟨w.heap.size, 0, none⟩ = some (.slice (some ⟨B, O + s, none⟩) L (c - s)) ∧ Dat w' B O m D) (ds := []) #[false, false, false, false, false, false, false, false, false, false] (by kernel_rfl) rfl rfl ⟨g0, D2⟩ (fun hHeld => ?_)
  refine pure_ (i := 0) (N := some 73) (v := ?_) (a' := ?_) #[true, false, false, false, false, false, false, false, false, false] rfl rfl (by kernel_rfl) (fun _ _ _ h => h) (Or.inl ⟨by rfl, ?_⟩) ?_ ?_
  rotate_left
  · intro w'
    go_simp
    with_reducible rfl
  rotate_left
  · simp only [Act.put, s1_, s2_, s3_, i64_w, i32_w]
    rfl
  refine pure_ (i := 1) (N := some 74) (v := ?_) (a' := ?_) #[true, true, false, false, false, false, false, false, false, false] rfl rfl (by kernel_rfl) (fun _ _ _ h => h) (Or.inl ⟨by rfl, ?_⟩) ?_ ?_
  rotate_left
  · intro w'
    go_simp
    with_reducible rfl
  rotate_left
  · simp only [Act.put, s1_, s2_, s3_, i64_w, i32_w]
    rfl
  refine pure_ (i := 2) (N := some 75) (v := ?_) (a' := ?_) #[true, true, true, false, false, false, false, false, false, false] rfl rfl (by kernel_rfl) (fun _ _ _ h => h) (Or.inl ⟨by rfl, ?_⟩) ?_ ?_
  rotate_left
  · intro w'
    go_simp
    with_reducible rfl
  rotate_left
  · simp only [Act.put, s1_, s2_, s3_, i64_w, i32_w]
    rfl
  refine pure_ (i := 3) (N := some 76) (v := ?_) (a' := ?_) #[true, true, true, true, false, false, false, false, false, false] rfl rfl (by kernel_rfl) (fun _ _ _ h => h) (Or.inl ⟨by rfl, ?_⟩) ?_ ?_
  rotate_left
  · intro w'
    go_simp
    with_reducible rfl
  rotate_left
  · simp only [Act.put, s1_, s2_, s3_, i64_w, i32_w]
    rfl
  refine pure_ (i := 4) (N := some 77) (v := ?_) (a' := ?_) #[true, true, true, true, true, false, false, false, false, false] rfl rfl (by kernel_rfl) (fun _ _ _ h => h) (Or.inl ⟨by rfl, ?_⟩) ?_ ?_
  rotate_left
  · intro w'
    go_simp
    with_reducible rfl
  rotate_left
  · simp only [Act.put, s1_, s2_, s3_, i64_w, i32_w]
    rfl
  refine pure_ (i := 5) (N := some 78) (v := ?_) (a' := ?_) #[true, true, true, true, true, true, false, false, false, false] rfl rfl (by kernel_rfl) (fun _ _ _ h => h) (Or.inl ⟨by rfl, ?_⟩) ?_ ?_
  rotate_left
  · intro w'
    go_simp
    with_reducible rfl
  rotate_left
  · simp only [Act.put, s1_, s2_, s3_, i64_w, i32_w]
    rfl
  refine take_ (i := 6) (N := some 79) (v := ?_) (a' := ?_) #[true, true, true, true, true, true, true, false, false, false] rfl rfl (by kernel_rfl) (fun _ _ _ h => h) (Or.inl ⟨by rfl, ?_⟩) hHeld ?_ ?_
  rotate_left
  · intro w' s0
    have d := s0.1
    clear s0
    go_simp
    with_reducible rfl
  rotate_left
  · simp only [Act.put, s1_, s2_, s3_, i64_w, i32_w]
    rfl
  refine pure_ (i := 7) (N := some 80) (v := ?_) (a' := ?_) #[true, true, true, true, true, true, true, true, false, false] rfl rfl (by kernel_rfl) (fun _ _ _ h => h) (Or.inl ⟨by rfl, ?_⟩) ?_ ?_
  rotate_left
  · intro w'
    go_simp
    with_reducible rfl
  rotate_left
  · simp only [Act.put, s1_, s2_, s3_, i64_w, i32_w]
    rfl
  refine take_ (i := 8) (N := some 81) (v := ?_) (a' := ?_) #[true, true, true, true, true, true, true, true, true, false] rfl rfl (by kernel_rfl) (fun _ _ _ h => h) (Or.inl ⟨by rfl, ?_⟩) hHeld ?_ ?_
  rotate_left
  · intro w' s0
    have d := s0.2.at_ s (O + s) l9 rfl
    clear s0
    go_simp
    with_reducible rfl
  rotate_left
  · simp only [Act.put, s1_, s2_, s3_, i64_w, i32_w]
    rfl
  refine one_ (i := 9) (N := some 82) #[true, true, true, true, true, true, true, true, true, true] rfl rfl (by kernel_rfl) (by decide) (fun K hK => ?_)
  refine goes_ Tryd.func30 (by kernel_rfl) rfl #[(.pointer (some ⟨w.heap.size, 5, none⟩)), (.int .u8 (D s : Int))] (by rfl) rfl rfl (by (try simp only [List.map_toArray, List.map_cons, List.map_nil]); rfl) ?_
  have c5 : w2.drew.cell? ⟨w.heap.size, 5, none⟩ = some (.int .u64 ((0 : Nat) : Int)) := by rw [hX] at B2; exact (blk_cell (blk_drew_ B2) 5).trans rfl
  refine (set30 w.heap.size 5 0 (D s) w2.drew (by omega) (hD.byte s) c5 (blk_frozen (blk_drew_ B2) 5)).mono ?_
  rintro e w3 ⟨rfl, hw3⟩
  refine ⟨_, rfl, ?_⟩
  obtain ⟨Y, hY⟩ : ∃ Y : Array Value, Y = #[.slice (some ⟨B, O + s, none⟩) L (c - s), .int .i64 (o : Int), .int .i64 0, .int .i64 (n : Int), .int .i64 (((n + 7) / 8 : Nat) : Int), .int .u64 (((D s + 2 ^ 8 * (0 / 256) : Nat)) : Int)] := ⟨_, rfl⟩
  have B3 : w3.heap[w.heap.size]? = some (.cells Y 77 (0, 0)) := by rw [hw3]; rw [hX] at B2; exact blk_put (blk_drew_ B2) 5 _ (by rw [hY]; rfl)
  have b3 : Below w.heap.size w w3 := by rw [hw3]; exact b2.setCell (Nat.le_refl _) _
  have D3 := hD.tch (Tch.of_below (S := fun _ => False) b3) (fun h => h)
  have g3 : w3.cell? ⟨w.heap.size, 0, none⟩ = some (.slice (some ⟨B, O + s, none⟩) L (c - s)) := by rw [hY] at B3; exact (blk_cell B3 0).trans rfl
  clear hw3 c5 g0 B2 b2 D2 hX
  refine hK.out _ _ ⟨g3, D3⟩ (fun hHeld => ?_)
  clear hK K hHeld
  refine norm_ (a' := ?_) ?_ ?_
  rotate_left
  · show Act.put _ (some 82) _ = _
    simp only [Act.put, s1_, s2_, s3_]
    rfl
  refine done_ (by kernel_rfl) ?_
  have HE := Lib.hid (And.intro b3 (And.intro B3 hY))
  clear b3 B3 hY g3 D3
  go_wp2
  go_ret
  obtain ⟨b3, B3, hY⟩ := HE.out
  refine ⟨rfl, b3, ?_⟩
  unfold Rdr
  rw [B3, hY, show s + L - s = L by omega, show D s + 2 ^ 8 * (0 / 256) = D s by omega]
theorem new42b (B O m : Nat) (D : Nat → Nat) (c p n s o L : Nat) (w : World) (hD : Dat w B O m D) (hc : m ≤ c) (hn : 0 < n) (hn1 : 64 ≤ n) (hn2 : n < 128) (hs : s = p / 8) (ho : o = p % 8) (hL : L = (o + n + 7) / 8) (hp : p + n ≤ 8 * m) (hm : m < 2 ^ 40) :
    Calls Tryd.prog 42 #[.slice (some ⟨B, O, none⟩) m c, .int .i64 (p : Int), .int .i64 (n : Int)] w fun e w' => e = .returned (.pointer (some ⟨w.heap.size, 0, none⟩)) ∧ Below w.heap.size w w' ∧ Rdr w' w.heap.size B O (s + L) s (c - s) o 0 (n : Int) (((n + 7) / 8 : Nat) : Int) (D s) := by
  have k3 : Int.tdiv (n : Int) 64 = 1 := by rw [Int.tdiv_eq_ediv_of_nonneg (by omega)]; omega
  have l1 : s < c := by omega
  have l2 : s + L ≤ c := by omega
  have l3 : o + n < 2 ^ 60 := by omega
  have l4 : n < 2 ^ 60 := by omega
  have hP : ∀ W, Calls Tryd.prog 34 #[.int .i64 ((p : Int) % 8 + (n : Int))] W fun e w' => e = .returned (.int .i64 (L : Int)) ∧ W = w' := fun W => by
    have := by34 (o + n) W l3
    rw [← hL, show ((o + n : Nat) : Int) = (p : Int) % 8 + (n : Int) by omega] at this
    exact this
  have l5 : (p : Int) / 8 + (L : Int) ≤ (c : Int) := by omega
  have l6 : (p : Int) / 8 < (c : Int) := by omega
  go_enter Tryd.func42, Tryd.ntmps42
  go_wp2_with (first | (go_at_call 34; (with_reducible refine (hP _).mono ?_); rintro e w1 ⟨rfl, rfl⟩))
  refine calls_at ?_
  intro w1 hw1
  have b1 : Below w.heap.size w w1 := by rw [hw1]; exact (Below.refl _ _).alloc (Nat.le_refl _) _
  have B1 : w1.heap[w.heap.size]? = some (.cells #[.slice (some ⟨B, O + s, none⟩) L (c - s), .int .i64 (o : Int), .int .i64 0, .int .i64 (n : Int), .int .i64 0, .int .u64 0] 77 (0, 0)) := by
    rw [hw1, hL, ho, hs]
    exact blk_new_at rfl
  clear hw1 hP
  refine (by34 n w1 l4).mono ?_
  rintro e w2 ⟨rfl, rfl⟩
  have h2 : w1.cell? ⟨w.heap.size, 2, none⟩ = some (.int .i64 0) := (blk_cell B1 2).trans rfl
  have h4 : w1.cell? ⟨w.heap.size, 4, none⟩ = some (.int .i64 0) := (blk_cell B1 4).trans rfl
  have f4 := blk_frozen B1 4
  have H1 := Lib.hid (And.intro b1 B1)
  clear b1 B1
  have ln : (0 : Int) < (n : Int) := by omega
  have l7 : (0 : Int) < (L : Int) := by omega
  have l8 : 0 < L := by omega
  have l9 : s < m := by omega
  clear hs ho hL l1 l2 l5 l6
  go_wp2
  refine wp_at ?_
  intro w2 hw2
  obtain ⟨b1, B1⟩ := H1.out
  obtain ⟨X, hX⟩ : ∃ X : Array Value, X = #[.slice (some ⟨B, O + s, none⟩) L (c - s), .int .i64 (o : Int), .int .i64 0, .int .i64 (n : Int), .int .i64 (((n + 7) / 8 : Nat) : Int), .int .u64 0] := ⟨_, rfl⟩
  have B2 : w2.heap[w.heap.size]? = some (.cells X 77 (0, 0)) := by rw [hw2, hX]; exact blk_put B1 4 _ rfl
  have b2 : Below w.heap.size w w2.drew := by rw [hw2]; exact (b1.setCell (Nat.le_refl _) _).drew
  have D2 := hD.tch (Tch.of_below (S := fun _ => False) b2) (fun h => h)
  clear hw2 H1 h2 h4 f4 b1 B1
  have g0 : w2.drew.cell? ⟨w.heap.size, 0, none⟩ = some (.slice (some ⟨B, O + s, none⟩) L (c - s)) := by rw [hX] at B2; exact (blk_cell (blk_drew_ B2) 0).trans rfl
  refine start_ (n := 10) (S := fun w' => w'.cell? ⟨w.heap.size, 0, none⟩ = some (.slice (some ⟨B, O + s, none⟩) L (c - s)) ∧ Dat w' B O m D) (ds := []) #[false, false, false, false, false, false, false, false, false, false] (by kernel_rfl) rfl rfl ⟨g0, D2⟩ (fun hHeld => ?_)
  refine pure_ (i := 0) (N := some 73) (v := ?_) (a' := ?_) #[true, false, false, false, false, false, false, false, false, false] rfl rfl (by kernel_rfl) (fun _ _ _ h => h) (Or.inl ⟨by rfl, ?_⟩) ?_ ?_
  rotate_left
  · intro w'
    go_simp
    with_reducible rfl
  rotate_left
  · simp only [Act.put, s1_, s2_, s3_, i64_w, i32_w]
    rfl
  refine pure_ (i := 1) (N := some 74) (v := ?_) (a' := ?_) #[true, true, false, false, false, false, false, false, false, false] rfl rfl (by kernel_rfl) (fun _ _ _ h => h) (Or.inl ⟨by rfl, ?_⟩) ?_ ?_
  rotate_left
  · intro w'
    go_simp
    with_reducible rfl
  rotate_left
  · simp only [Act.put, s1_, s2_, s3_, i64_w, i32_w]
    rfl
  refine pure_ (i := 2) (N := some 75) (v := ?_) (a' := ?_) #[true, true, true, false, false, false, false, false, false, false] rfl rfl (by kernel_rfl) (fun _ _ _ h => h) (Or.inl ⟨by rfl, ?_⟩) ?_ ?_
  rotate_left
  · intro w'
    go_simp
    with_reducible rfl
  rotate_left
  · simp only [Act.put, s1_, s2_, s3_, i64_w, i32_w]
    rfl
  refine pure_ (i := 3) (N := some 76) (v := ?_) (a' := ?_) #[true, true, true, true, false, false, false, false, false, false] rfl rfl (by kernel_rfl) (fun _ _ _ h => h) (Or.inl ⟨by rfl, ?_⟩) ?_ ?_
  rotate_left
  · intro w'
    go_simp
    with_reducible rfl
  rotate_left
  · simp only [Act.put, s1_, s2_, s3_, i64_w, i32_w]
    rfl
  refine pure_ (i := 4) (N := some 77) (v := ?_) (a' := ?_) #[true, true, true, true, true, false, false, false, false, false] rfl rfl (by kernel_rfl) (fun _ _ _ h => h) (Or.inl ⟨by rfl, ?_⟩) ?_ ?_
  rotate_left
  · intro w'
    go_simp
    with_reducible rfl
  rotate_left
  · simp only [Act.put, s1_, s2_, s3_, i64_w, i32_w]
    rfl
  refine pure_ (i := 5) (N := some 78) (v := ?_) (a' := ?_) #[true, true, true, true, true, true, false, false, false, false] rfl rfl (by kernel_rfl) (fun _ _ _ h => h) (Or.inl ⟨by rfl, ?_⟩) ?_ ?_
  rotate_left
  · intro w'
    go_simp
    with_reducible rfl
  rotate_left
  · simp only [Act.put, s1_, s2_, s3_, i64_w, i32_w]
    rfl
  refine take_ (i := 6) (N := some 79) (v := ?_) (a' := ?_) #[true, true, true, true, true, true, true, false, false, false] rfl rfl (by kernel_rfl) (fun _ _ _ h => h) (Or.inl ⟨by rfl, ?_⟩) hHeld ?_ ?_
  rotate_left
  · intro w' s0
    have d := s0.1
    clear s0
    go_simp
    with_reducible rfl
  rotate_left
  · simp only [Act.put, s1_, s2_, s3_, i64_w, i32_w]
    rfl
  refine pure_ (i := 7) (N := some 80) (v := ?_) (a' := ?_) #[true, true, true, true, true, true, true, true, false, false] rfl rfl (by kernel_rfl) (fun _ _ _ h => h) (Or.inl ⟨by rfl, ?_⟩) ?_ ?_
  rotate_left
  · intro w'
    go_simp
    with_reducible rfl
  rotate_left
  · simp only [Act.put, s1_, s2_, s3_, i64_w, i32_w]
    rfl
  refine take_ (i := 8) (N := some 81) (v := ?_) (a' := ?_) #[true, true, true, true, true, true, true, true, true, false] rfl rfl (by kernel_rfl) (fun _ _ _ h => h) (Or.inl ⟨by rfl, ?_⟩) hHeld ?_ ?_
  rotate_left
  · intro w' s0
    have d := s0.2.at_ s (O + s) l9 rfl
    clear s0
    go_simp
    with_reducible rfl
  rotate_left
  · simp only [Act.put, s1_, s2_, s3_, i64_w, i32_w]
    rfl
  refine one_ (i := 9) (N := some 82) #[true, true, true, true, true, true, true, true, true, true] rfl rfl (by kernel_rfl) (by decide) (fun K hK => ?_)
  refine goes_ Tryd.func30 (by kernel_rfl) rfl #[(.pointer (some ⟨w.heap.size, 5, none⟩)), (.int .u8 (D s : Int))] (by rfl) rfl rfl (by (try simp only [List.map_toArray, List.map_cons, List.map_nil]); rfl) ?_
  have c5 : w2.drew.cell? ⟨w.heap.size, 5, none⟩ = some (.int .u64 ((0 : Nat) : Int)) := by rw [hX] at B2; exact (blk_cell (blk_drew_ B2) 5).trans rfl
  refine (set30 w.heap.size 5 0 (D s) w2.drew (by omega) (hD.byte s) c5 (blk_frozen (blk_drew_ B2) 5)).mono ?_
  rintro e w3 ⟨rfl, hw3⟩
  refine ⟨_, rfl, ?_⟩
  obtain ⟨Y, hY⟩ : ∃ Y : Array Value, Y = #[.slice (some ⟨B, O + s, none⟩) L (c - s), .int .i64 (o : Int), .int .i64 0, .int .i64 (n : Int), .int .i64 (((n + 7) / 8 : Nat) : Int), .int .u64 (((D s + 2 ^ 8 * (0 / 256) : Nat)) : Int)] := ⟨_, rfl⟩
  have B3 : w3.heap[w.heap.size]? = some (.cells Y 77 (0, 0)) := by rw [hw3]; rw [hX] at B2; exact blk_put (blk_drew_ B2) 5 _ (by rw [hY]; rfl)
  have b3 : Below w.heap.size w w3 := by rw [hw3]; exact b2.setCell (Nat.le_refl _) _
  have D3 := hD.tch (Tch.of_below (S := fun _ => False) b3) (fun h => h)
  have g3 : w3.cell? ⟨w.heap.size, 0, none⟩ = some (.slice (some ⟨B, O + s, none⟩) L (c - s)) := by rw [hY] at B3; exact (blk_cell B3 0).trans rfl
  clear hw3 c5 g0 B2 b2 D2 hX
  refine hK.out _ _ ⟨g3, D3⟩ (fun hHeld => ?_)
  clear hK K hHeld
  refine norm_ (a' := ?_) ?_ ?_
  rotate_left
  · show Act.put _ (some 82) _ = _
    simp only [Act.put, s1_, s2_, s3_]
    rfl
  refine done_ (by kernel_rfl) ?_
  have HE := Lib.hid (And.intro b3 (And.intro B3 hY))
  clear b3 B3 hY g3 D3
  go_wp2
  go_ret
  obtain ⟨b3, B3, hY⟩ := HE.out
  refine ⟨rfl, b3, ?_⟩
  unfold Rdr
  rw [B3, hY, show s + L - s = L by omega, show D s + 2 ^ 8 * (0 / 256) = D s by omega]
theorem new42c (B O m : Nat) (D : Nat → Nat) (c p n s o L nw t : Nat) (w : World) (hD : Dat w B O m D) (hc : m ≤ c) (hn : 0 < n) (hn1 : n = 64 * nw + t) (hn2 : 0 < nw) (hn3 : 64 ≤ t) (hn4 : t < 128) (hs : s = p / 8) (ho : o = p % 8) (hL : L = (o + n + 7) / 8) (hp : p + n ≤ 8 * m) (hm : m < 2 ^ 40) :
    Calls Tryd.prog 42 #[.slice (some ⟨B, O, none⟩) m c, .int .i64 (p : Int), .int .i64 (n : Int)] w fun e w' => e = .returned (.pointer (some ⟨w.heap.size, 0, none⟩)) ∧ Below w.heap.size w w' ∧ Rdr w' w.heap.size B O (s + L) s (c - s) o (nw : Int) (t : Int) (((t + 7) / 8 : Nat) : Int) (pk D (8 * s) 64) := by
  have k3 : Int.tdiv (n : Int) 64 = (nw : Int) + 1 := by rw [Int.tdiv_eq_ediv_of_nonneg (by omega)]; omega
  have k4 : ¬ (nw : Int) < 0 := by omega
  have k5 : (0 : Int) < (nw : Int) := by omega
  have k6 : (nw : Int) < 2 ^ 50 := by omega
  have k7 : 64 * (nw : Int) ≤ (n : Int) := by omega
  have k8 : (n : Int) < 2 ^ 60 := by omega
  have l10 : 8 ≤ L := by omega
  have l11 : s + 8 ≤ m := by omega
  have l1 : s < c := by omega
  have l2 : s + L ≤ c := by omega
  have l3 : o + n < 2 ^ 60 := by omega
  have l4 : t < 2 ^ 60 := by omega
  have hP : ∀ W, Calls Tryd.prog 34 #[.int .i64 ((p : Int) % 8 + (n : Int))] W fun e w' => e = .returned (.int .i64 (L : Int)) ∧ W = w' := fun W => by
    have := by34 (o + n) W l3
    rw [← hL, show ((o + n : Nat) : Int) = (p : Int) % 8 + (n : Int) by omega] at this
    exact this
  have l5 : (p : Int) / 8 + (L : Int) ≤ (c : Int) := by omega
  have l6 : (p : Int) / 8 < (c : Int) := by omega
  have HN := Lib.hid hn1
  clear hn1
  go_enter Tryd.func42, Tryd.ntmps42
  go_wp2_with (go_at_call 34; fail)
  refine (hP _).mono ?_
  rintro e w1 ⟨rfl, rfl⟩
  clear hP
  go_upto_region 4 with fail
  refine wp_at ?_
  intro w1 hw1
  have b1 : Below w.heap.size w w1 := by rw [hw1]; exact (Below.refl _ _).alloc (Nat.le_refl _) _
  have B1 : w1.heap[w.heap.size]? = some (.cells #[.slice (some ⟨B, O + s, none⟩) L (c - s), .int .i64 (o : Int), .int .i64 (nw : Int), .int .i64 0, .int .i64 0, .int .u64 0] 77 (0, 0)) := by
    rw [hw1, hL, ho, hs]
    exact blk_new_at rfl
  clear hw1
  have h2 : w1.cell? ⟨w.heap.size, 2, none⟩ = some (.int .i64 (nw : Int)) := (blk_cell B1 2).trans rfl
  have h3 : w1.cell? ⟨w.heap.size, 3, none⟩ = some (.int .i64 0) := (blk_cell B1 3).trans rfl
  have f3 := blk_frozen B1 3
  have H1 := Lib.hid (And.intro b1 B1)
  have l7 : (0 : Int) < (L : Int) := by omega
  have l8 : 0 < L := by omega
  have HK := Lib.hid (And.intro l4 (And.intro l10 (And.intro l11 (And.intro k6 (And.intro k7 (And.intro k8 (And.intro l7 l8)))))))
  clear b1 B1 k3 k4 hn2 hn3 hn4 l3 l4 l5 l6 l10 l11 k6 k7 k8 l7 l8 hL hs ho hp hm hc
  go_upto_region 6 with fail
  obtain ⟨l4, l10, l11, k6, k7, k8, l7, l8⟩ := HK.out
  clear l4 l10 l11 l7 l8
  go_wp2_with (go_at_call 34; fail)
  obtain ⟨l4, l10, l11, k6', k7', k8', l7, l8⟩ := HK.out
  clear k6' k7' k8' k6 k7 k8
  have hn1 := HN.out
  rw [show (n : Int) - (nw : Int) * 8 * 8 = (t : Int) by omega]
  clear hn1
  refine calls_at ?_
  intro w3 hw3
  obtain ⟨b1, B1⟩ := H1.out
  have b3 : Below w.heap.size w w3 := by rw [hw3]; exact b1.setCell (Nat.le_refl _) _
  have B3 := blk_put B1 3 (.int .i64 (t : Int)) rfl
  rw [← hw3] at B3
  clear hw3 b1 B1 H1 h2 h3 f3
  refine (by34 t w3 l4).mono ?_
  rintro e w4 ⟨rfl, rfl⟩
  have h2 : w3.cell? ⟨w.heap.size, 2, none⟩ = some (.int .i64 (nw : Int)) := (blk_cell B3 2).trans rfl
  have h4 : w3.cell? ⟨w.heap.size, 4, none⟩ = some (.int .i64 0) := (blk_cell B3 4).trans rfl
  have f4 := blk_frozen B3 4
  have H1 := Lib.hid (And.intro b3 B3)
  clear b3 B3
  have ln : (0 : Int) < (n : Int) := by omega
  have HK2 := Lib.hid (And.intro l4 (And.intro l10 (And.intro l11 (And.intro l7 l8))))
  clear l1 l2 l4 l10 l11 l7 l8
  go_wp2
  obtain ⟨l4, l10, l11, l7, l8⟩ := HK2.out
  refine wp_at ?_
  intro w2 hw2
  obtain ⟨b1, B1⟩ := H1.out
  obtain ⟨X, hX⟩ : ∃ X : Array Value, X = #[.slice (some ⟨B, O + s, none⟩) L (c - s), .int .i64 (o : Int), .int .i64 (nw : Int), .int .i64 (t : Int), .int .i64 (((t + 7) / 8 : Nat) : Int), .int .u64 0] := ⟨_, rfl⟩
  have B2 : w2.heap[w.heap.size]? = some (.cells X 77 (0, 0)) := by rw [hw2, hX]; exact blk_put B1 4 _ rfl
  have b2 : Below w.heap.size w w2.drew := by rw [hw2]; exact (b1.setCell (Nat.le_refl _) _).drew
  have D2 := hD.tch (Tch.of_below (S := fun _ => False) b2) (fun h => h)
  clear hw2 H1 h2 h4 f4 b1 B1
  have g0 : w2.drew.cell? ⟨w.heap.size, 0, none⟩ = some (.slice (some ⟨B, O + s, none⟩) L (c - s)) := by rw [hX] at B2; exact (blk_cell (blk_drew_ B2) 0).trans rfl
  refine start_ (n := 11) (S := fun w' => w'.cell? ⟨w.heap.size, 0, none⟩ = some (.slice (some ⟨B, O + s, none⟩) L (c - s)) ∧ Dat w' B O m D) (ds := []) #[false, false, false, false, false, false, false, false, false, false, false] (by kernel_rfl) rfl rfl ⟨g0, D2⟩ (fun hHeld => ?_)
  refine pure_ (i := 0) (N := some 61) (v := ?_) (a' := ?_) #[true, false, false, false, false, false, false, false, false, false, false] rfl rfl (by kernel_rfl) (fun _ _ _ h => h) (Or.inl ⟨by rfl, ?_⟩) ?_ ?_
  rotate_left
  · intro w'
    go_simp
    with_reducible rfl
  rotate_left
  · simp only [Act.put, s1_, s2_, s3_, i64_w, i32_w]
    rfl
  refine pure_ (i := 2) (N := some 63) (v := ?_) (a' := ?_) #[true, false, true, false, false, false, false, false, false, false, false] rfl rfl (by kernel_rfl) (fun _ _ _ h => h) (Or.inl ⟨by rfl, ?_⟩) ?_ ?_
  rotate_left
  · intro w'
    go_simp
    with_reducible rfl
  rotate_left
  · simp only [Act.put, s1_, s2_, s3_, i64_w, i32_w]
    rfl
  refine pure_ (i := 3) (N := some 64) (v := ?_) (a' := ?_) #[true, false, true, true, false, false, false, false, false, false, false] rfl rfl (by kernel_rfl) (fun _ _ _ h => h) (Or.inl ⟨by rfl, ?_⟩) ?_ ?_
  rotate_left
  · intro w'
    go_simp
    with_reducible rfl
  rotate_left
  · simp only [Act.put, s1_, s2_, s3_, i64_w, i32_w]
    rfl
  refine pure_ (i := 4) (N := some 65) (v := ?_) (a' := ?_) #[true, false, true, true, true, false, false, false, false, false, false] rfl rfl (by kernel_rfl) (fun _ _ _ h => h) (Or.inl ⟨by rfl, ?_⟩) ?_ ?_
  rotate_left
  · intro w'
    go_simp
    with_reducible rfl
  rotate_left
  · simp only [Act.put, s1_, s2_, s3_, i64_w, i32_w]
    rfl
  refine take_ (i := 1) (N := some 62) (v := ?_) (a' := ?_) #[true, true, true, true, true, false, false, false, false, false, false] rfl rfl (by kernel_rfl) (fun _ _ _ h => h) (Or.inl ⟨by rfl, ?_⟩) hHeld ?_ ?_
  rotate_left
  · intro w' s0
    clear s0
    go_simp
    with_reducible rfl
  rotate_left
  · simp only [Act.put, s1_, s2_, s3_, i64_w, i32_w]
    rfl
  refine take_ (i := 5) (N := some 66) (v := ?_) (a' := ?_) #[true, true, true, true, true, true, false, false, false, false, false] rfl rfl (by kernel_rfl) (fun _ _ _ h => h) (Or.inl ⟨by rfl, ?_⟩) hHeld ?_ ?_
  rotate_left
  · intro w' s0
    have d := s0.1
    clear s0
    go_simp
    with_reducible rfl
  rotate_left
  · simp only [Act.put, s1_, s2_, s3_, i64_w, i32_w]
    rfl
  refine one_ (i := 6) (N := some 67) #[true, true, true, true, true, true, true, false, false, false, false] rfl rfl (by kernel_rfl) (by decide) (fun K hK => ?_)
  refine goes_ Tryd.func29 (by kernel_rfl) rfl #[(.agg #[]), (.slice (some ⟨B, O + s, none⟩) L (c - s))] (by rfl) rfl rfl (by (try simp only [List.map_toArray, List.map_cons, List.map_nil]); rfl) ?_
  refine (get29 B O m D (O + s) L s (c - s) w2.drew D2 rfl l10 l11).mono ?_
  rintro e w3 ⟨rfl, hb3⟩
  refine ⟨_, rfl, ?_⟩
  have B3 : w3.heap[w.heap.size]? = some (.cells X 77 (0, 0)) := blk_below (blk_drew_ B2) hb3
  have D3 := D2.tch (Tch.of_below (S := fun _ => False) hb3) (fun h => h)
  have b3 := Tch.below b2 (Tch.of_below (S := fun _ => False) hb3) b2.size (fun _ h => h.elim)
  have g3 : w3.cell? ⟨w.heap.size, 0, none⟩ = some (.slice (some ⟨B, O + s, none⟩) L (c - s)) := by rw [hX] at B3; exact (blk_cell B3 0).trans rfl
  clear g0 B2 b2 D2
  refine hK.out _ _ ⟨g3, D3⟩ (fun hHeld => ?_)
  clear hK K hHeld
  refine norm_ (a' := ?_) ?_ ?_
  rotate_left
  · show Act.put _ (some 67) _ = _
    simp only [Act.put, s1_, s2_, s3_]
    rfl
  clear hb3
  refine one_ (i := 7) (N := some 68) #[true, true, true, true, true, true, true, true, false, false, false] rfl rfl (by kernel_rfl) (by decide) (fun K hK => ?_)
  refine goes_ Tryd.func28 (by kernel_rfl) rfl #[(.int .u64 ((pk D (8 * s) 64 : Nat) : Int))] (by rfl) rfl rfl (by (try simp only [List.map_toArray, List.map_cons, List.map_nil]); rfl) ?_
  refine (le28 _ w3).mono ?_
  rintro e w4 ⟨rfl, rfl⟩
  refine ⟨_, rfl, ?_⟩
  refine hK.out _ _ ⟨g3, D3⟩ (fun hHeld => ?_)
  clear hK K
  refine norm_ (a' := ?_) ?_ ?_
  rotate_left
  · show Act.put _ (some 68) _ = _
    simp only [Act.put, s1_, s2_, s3_]
    rfl
  refine pure_ (i := 8) (N := some 69) (v := ?_) (a' := ?_) #[true, true, true, true, true, true, true, true, true, false, false] rfl rfl (by kernel_rfl) (fun _ _ _ h => h) (Or.inl ⟨by rfl, ?_⟩) ?_ ?_
  rotate_left
  · intro w'
    go_simp
    with_reducible rfl
  rotate_left
  · simp only [Act.put, s1_, s2_, s3_, i64_w, i32_w]
    rfl
  refine pure_ (i := 9) (N := some 70) (v := ?_) (a' := ?_) #[true, true, true, true, true, true, true, true, true, true, false] rfl rfl (by kernel_rfl) (fun _ _ _ h => h) (Or.inl ⟨by rfl, ?_⟩) ?_ ?_
  rotate_left
  · intro w'
    go_simp
    with_reducible rfl
  rotate_left
  · simp only [Act.put, s1_, s2_, s3_, i64_w, i32_w]
    rfl
  have c5 : w3.cell? ⟨w.heap.size, 5, none⟩ = some (.int .u64 0) := by rw [hX] at B3; exact (blk_cell B3 5).trans rfl
  have f5 := blk_frozen B3 5
  obtain ⟨wF, hwF⟩ : ∃ wF, wF = w3.setCell ⟨w.heap.size, 5, none⟩ (.int .u64 ((pk D (8 * s) 64 : Nat) : Int)) := ⟨_, rfl⟩
  obtain ⟨Y, hY⟩ : ∃ Y : Array Value, Y = #[.slice (some ⟨B, O + s, none⟩) L (c - s), .int .i64 (o : Int), .int .i64 (nw : Int), .int .i64 (t : Int), .int .i64 (((t + 7) / 8 : Nat) : Int), .int .u64 ((pk D (8 * s) 64 : Nat) : Int)] := ⟨_, rfl⟩
  have BF : wF.heap[w.heap.size]? = some (.cells Y 77 (0, 0)) := by rw [hwF]; rw [hX] at B3; exact blk_put B3 5 _ (by rw [hY]; rfl)
  have bF : Below w.heap.size w wF := by rw [hwF]; exact b3.setCell (Nat.le_refl _) _
  have DF := hD.tch (Tch.of_below (S := fun _ => False) bF) (fun h => h)
  have gF : wF.cell? ⟨w.heap.size, 0, none⟩ = some (.slice (some ⟨B, O + s, none⟩) L (c - s)) := by rw [hY] at BF; exact (blk_cell BF 0).trans rfl
  refine one_ (i := 10) (N := none) #[true, true, true, true, true, true, true, true, true, true, true] rfl rfl (by kernel_rfl) (by decide) (fun K hK => ?_)
  have HF := Lib.hid hwF
  clear hwF
  refine skip_ (w1 := wF) (by rfl) rfl ?_ ?_
  · clear BF B3 bF DF gF
    go_simp
    rw [HF.out]
  refine hK.out _ _ ⟨gF, DF⟩ (fun hHeld => ?_)
  clear hK K hHeld
  refine done_ (by kernel_rfl) ?_
  have HE := Lib.hid (And.intro bF (And.intro BF hY))
  clear bF BF hY gF DF HF c5 f5 B3 b3 hX g3 D3
  go_wp2
  go_ret
  obtain ⟨b3, B3, hY⟩ := HE.out
  refine ⟨rfl, b3, ?_⟩
  unfold Rdr
  rw [B3, hY, show s + L - s = L by omega]
theorem new42z (B O m c p : Nat) (w : World) (hm : m ≤ c) (hc : p ≤ 8 * m) (hp : c < 2 ^ 40) :
    Calls Tryd.prog 42 #[.slice (some ⟨B, O, none⟩) m c, .int .i64 (p : Int), .int .i64 0] w fun e w' => e = .returned (.pointer (some ⟨w.heap.size, 0, none⟩)) ∧ Below w.heap.size w w' ∧ w'.cell? ⟨w.heap.size, 2, none⟩ = some (.int .i64 0) ∧ w'.cell? ⟨w.heap.size, 4, none⟩ = some (.int .i64 0) := by
  obtain ⟨L, hL⟩ : ∃ L, L = (p % 8 + 7) / 8 := ⟨_, rfl⟩
  have l2 : p / 8 + L ≤ c := by omega
  have l5 : (p : Int) / 8 + (L : Int) ≤ (c : Int) := by omega
  have l6 : (p : Int) / 8 ≤ (c : Int) := by omega
  have hP : ∀ W, Calls Tryd.prog 34 #[.int .i64 ((p : Int) % 8)] W fun e w' => e = .returned (.int .i64 (L : Int)) ∧ W = w' := fun W => by
    have := by34 (p % 8) W (by omega)
    rw [← hL, show ((p % 8 : Nat) : Int) = (p : Int) % 8 by omega] at this
    exact this
  have hQ : ∀ W, Calls Tryd.prog 34 #[.int .i64 0] W fun e w' => e = .returned (.int .i64 0) ∧ W = w' := fun W => by34 0 W (by omega)
  by_cases hz : p / 8 < c
  · have l7 : ¬ c = p / 8 := by omega
    clear hL
    go_enter Tryd.func42, Tryd.ntmps42
    go_wp2_with (first | (go_at_call 34; (with_reducible refine (hP _).mono ?_); rintro e w1 ⟨rfl, rfl⟩))
    refine calls_at ?_
    intro w1 hw1
    have b1 : Below w.heap.size w w1 := by rw [hw1]; exact (Below.refl _ _).alloc (Nat.le_refl _) _
    obtain ⟨X, Y, B1⟩ : ∃ X Y, w1.heap[w.heap.size]? = some (.cells #[X, Y, .int .i64 0, .int .i64 0, .int .i64 0, .int .u64 0] 77 (0, 0)) := ⟨_, _, by rw [hw1]; exact blk_new_at rfl⟩
    clear hw1
    refine (hQ w1).mono ?_
    rintro e w2 ⟨rfl, rfl⟩
    have h2 : w1.cell? ⟨w.heap.size, 2, none⟩ = some (.int .i64 0) := (blk_cell B1 2).trans rfl
    have h4 : w1.cell? ⟨w.heap.size, 4, none⟩ = some (.int .i64 0) := (blk_cell B1 4).trans rfl
    have f4 := blk_frozen B1 4
    have H1 := Lib.hid (And.intro b1 B1)
    clear b1 B1
    go_wp2
    go_ret
    obtain ⟨b1, B1⟩ := H1.out
    have B2 := blk_put B1 4 (.int .i64 0) rfl
    exact ⟨rfl, b1.setCell (Nat.le_refl _) _, (blk_cell B2 2).trans rfl, (blk_cell B2 4).trans rfl⟩
  · have l7 : c = p / 8 := by omega
    have l9 : (p : Int) % 8 = 0 := by omega
    clear hL
    go_enter Tryd.func42, Tryd.ntmps42
    go_wp2_with (first | (go_at_call 34; (with_reducible refine (hQ _).mono ?_); rintro e w1 ⟨rfl, rfl⟩))
    go_ret
    refine ⟨rfl, ?_, ?_, ?_⟩
    · exact (Below.refl _ _).alloc (Nat.le_refl _) _
    · exact (blk_cell (blk_new_at rfl) 2).trans rfl
    · exact (blk_cell (blk_new_at rfl) 4).trans rfl
theorem new42n (w : World) :
    Calls Tryd.prog 42 #[.slice none 0 0, .int .i64 0, .int .i64 0] w fun e w' => e = .returned (.pointer (some ⟨w.heap.size, 0, none⟩)) ∧ Below w.heap.size w w' ∧ w'.cell? ⟨w.heap.size, 2, none⟩ = some (.int .i64 0) ∧ w'.cell? ⟨w.heap.size, 4, none⟩ = some (.int .i64 0) := by
  have hQ : ∀ W, Calls Tryd.prog 34 #[.int .i64 0] W fun e w' => e = .returned (.int .i64 0) ∧ W = w' := fun W => by34 0 W (by omega)
  go_enter Tryd.func42, Tryd.ntmps42
  go_wp2_with (first | (go_at_call 34; (with_reducible refine (hQ _).mono ?_); rintro e w1 ⟨rfl, rfl⟩))
  go_ret
  refine ⟨rfl, ?_, ?_, ?_⟩
  · exact (Below.refl _ _).alloc (Nat.le_refl _) _
  · exact (blk_cell (blk_new_at rfl) 2).trans rfl
  · exact (blk_cell (blk_new_at rfl) 4).trans rfl
end Go.Proofs.YthgbfmcicpmepaaDoor.V
