/- The writer of words: at a byte's beginning. -/
import Derived.Test.YthgbfmcicpmepaaDoorBW5
namespace Go.Proofs.YthgbfmcicpmepaaDoor.V
open Go.RowKit Go.Proofs.YthgbfmcicpmepaaDoor.B Go.Proofs.YthgbfmcicpmepaaDoorW.PrintWords Go.Proofs.YthgbfmcicpmepaaDoorW.PrintLast Go.Proofs.YthgbfmcicpmepaaDoorW.PrintMore
set_option linter.unusedVariables false
set_option linter.unusedSimpArgs false
set_option maxHeartbeats 4000000 in
set_option maxRecDepth 100000 in
theorem byte20z (g b C L : Nat) (M : Nat → Nat) (s x cw : Nat) (len : Int) (w : World) (hO : Own w b C L M) (hg : b ≠ g) (h : Ws w g b C L s 0 len cw) (hL : L ≤ C) (hs : s + 1 ≤ L) (hE : L < 2 ^ 40) (hx : x < 256) :
    Calls Tryd.prog 20 #[.pointer (some ⟨g, 0, none⟩), .int .u8 (x : Int), .int .i64 8] w fun e w' => e = .returned (.tuple #[]) ∧ Tch (fun k => k = g ∨ k = b) w w' ∧ ∃ M', Own w' b C L M' ∧ Upd M (8 * s) 8 x M' ∧ Ws w' g b C L (s + 1) 0 len cw := by
  obtain ⟨A, hA, hb⟩ := h
  obtain rfl := hA (by omega)
  clear hA
  have h0 : w.cell? ⟨g, 0, none⟩ = some (.slice (some ⟨b, s, none⟩) (L - s) (C - s)) := (blk_cell hb 0).trans rfl
  have h1 : w.cell? ⟨g, 1, none⟩ = some (.int .i64 0) := (blk_cell hb 1).trans rfl
  have h4 : w.cell? ⟨g, 4, none⟩ = some (.int .u64 (cw : Int)) := (blk_cell hb 4).trans rfl
  have f0 := blk_frozen hb 0
  have cb0 := hO.cell s (by omega)
  have fb0 := hO.frozen s
  have q0 : (0 : Int) < ((L - s : Nat) : Int) := by omega
  have q3 : 1 ≤ C - s := by omega
  have q4 : (1 : Int) ≤ ((L - s : Nat) : Int) := by omega
  have hge : g ≠ b := fun e => hg e.symm
  have HZ := Lib.hid (And.intro hb (And.intro hO (And.intro hL hs)))
  clear hb hO hL hs
  by_cases q2 : C - s = 1
  · go_enter Tryd.func20, Tryd.ntmps20
    go_wp2_with (first | (go_at_call 32; (with_reducible refine (lsb32 _ _).mono ?_); rintro e w1 ⟨rfl, rfl⟩))
    go_end0
    obtain ⟨hb, hO, hL, hs⟩ := HZ.out
    refine ⟨rfl, ((Tch.refl _ _).set (.inl (.inr rfl)) _).set (.inl (.inl rfl)) _, _, (hO.put s x hx).other hg, put1D_upd M s x hx, ⟨some ⟨b, s, none⟩, fun h => by omega, ?_⟩⟩
    rw [show L - (s + 1) = L - s - 1 by omega, show C - (s + 1) = C - s - 1 by omega, q2]
    exact blk_put (blk_other_ hge hb) 0 _ rfl
  · go_enter Tryd.func20, Tryd.ntmps20
    go_wp2_with (first | (go_at_call 32; (with_reducible refine (lsb32 _ _).mono ?_); rintro e w1 ⟨rfl, rfl⟩))
    go_end0
    obtain ⟨hb, hO, hL, hs⟩ := HZ.out
    refine ⟨rfl, ((Tch.refl _ _).set (.inl (.inr rfl)) _).set (.inl (.inl rfl)) _, _, (hO.put s x hx).other hg, put1D_upd M s x hx, ⟨some ⟨b, s + 1, none⟩, fun h => rfl, ?_⟩⟩
    rw [show L - (s + 1) = L - s - 1 by omega, show C - (s + 1) = C - s - 1 by omega]
    exact blk_put (blk_other_ hge hb) 0 _ rfl
set_option maxHeartbeats 4000000 in
set_option maxRecDepth 100000 in
theorem word19z (g b C L : Nat) (M : Nat → Nat) (s x cw : Nat) (len : Int) (w : World) (hO : Own w b C L M) (hg : b ≠ g) (h : Ws w g b C L s 0 len cw) (hL : L ≤ C) (hs : s + 8 ≤ L) (hE : L < 2 ^ 40) (hx : x < 2 ^ 64) :
    Calls Tryd.prog 19 #[.pointer (some ⟨g, 0, none⟩), .int .u64 (x : Int)] w fun e w' => e = .returned (.tuple #[]) ∧ Tch (fun k => k = g ∨ k = b) w w' ∧ ∃ M', Own w' b C L M' ∧ Upd M (8 * s) 64 x M' ∧ Ws w' g b C L (s + 8) 0 len cw := by
  obtain ⟨A, hA, hb⟩ := h
  obtain rfl := hA (by omega)
  clear hA
  have h1 : w.cell? ⟨g, 1, none⟩ = some (.int .i64 0) := (blk_cell hb 1).trans rfl
  obtain ⟨X, hX⟩ : ∃ X : Array Value, X = #[.slice (some ⟨b, s, none⟩) (L - s) (C - s), .int .i64 ((0 : Nat) : Int), .int .i64 len, .int .u64 ((2 ^ 0 - 1 : Nat) : Int), .int .u64 (cw : Int)] := ⟨_, rfl⟩
  rw [← hX] at hb
  have hge : g ≠ b := fun e => hg e.symm
  have HZ := Lib.hid (And.intro hb (And.intro hO (And.intro hL (And.intro hs hx))))
  clear hb hO hL hs hx
  go_enter Tryd.func19, Tryd.ntmps19
  go_upto_region 9 with fail
  obtain ⟨hb, hO, hL, hs, hx⟩ := HZ.out
  clear h1
  refine wp_at ?_
  intro w1 hw1
  have b1 : w1.drew.heap[g]? = some (.cells X 50 (0, 0)) := by rw [hw1]; exact hb
  have O1 : Own w1.drew b C L M := by rw [hw1]; exact hO.tch ((Tch.refl (fun _ => False) _).drew) (fun h => h)
  have T1 : Tch (fun k => k = g ∨ k = b) w w1.drew := by rw [hw1]; exact (Tch.refl _ _).drew
  clear hw1 hb hO
  refine start_ (n := 8) (S := fun w' => w'.heap[g]? = some (.cells X 50 (0, 0))) (ds := []) #[false, false, false, false, false, false, false, false] (by kernel_rfl) rfl rfl b1 (fun hHeld => ?_)
  refine take_ (i := 0) (N := some 94) (v := ?_) (a' := ?_) #[true, false, false, false, false, false, false, false] rfl rfl (by kernel_rfl) (fun _ _ _ h => h) (Or.inl ⟨by rfl, ?_⟩) hHeld ?_ ?_
  rotate_left
  · intro w' s0
    clear s0
    go_simp
    with_reducible rfl
  rotate_left
  · simp only [Act.put, s1_, s2_, s3_, i64_w, i32_w]
    rfl
  refine pure_ (i := 1) (N := some 95) (v := ?_) (a' := ?_) #[true, true, false, false, false, false, false, false] rfl rfl (by kernel_rfl) (fun _ _ _ h => h) (Or.inl ⟨by rfl, ?_⟩) ?_ ?_
  rotate_left
  · intro w'
    go_simp
    with_reducible rfl
  rotate_left
  · simp only [Act.put, s1_, s2_, s3_, i64_w, i32_w]
    rfl
  refine pure_ (i := 2) (N := some 96) (v := ?_) (a' := ?_) #[true, true, true, false, false, false, false, false] rfl rfl (by kernel_rfl) (fun _ _ _ h => h) (Or.inl ⟨by rfl, ?_⟩) ?_ ?_
  rotate_left
  · intro w'
    go_simp
    with_reducible rfl
  rotate_left
  · simp only [Act.put, s1_, s2_, s3_, i64_w, i32_w]
    rfl
  refine pure_ (i := 3) (N := some 97) (v := ?_) (a' := ?_) #[true, true, true, true, false, false, false, false] rfl rfl (by kernel_rfl) (fun _ _ _ h => h) (Or.inl ⟨by rfl, ?_⟩) ?_ ?_
  rotate_left
  · intro w'
    go_simp
    with_reducible rfl
  rotate_left
  · simp only [Act.put, s1_, s2_, s3_, i64_w, i32_w]
    rfl
  refine take_ (i := 4) (N := some 98) (v := ?_) (a' := ?_) #[true, true, true, true, true, false, false, false] rfl rfl (by kernel_rfl) (fun _ _ _ h => h) (Or.inl ⟨by rfl, ?_⟩) hHeld ?_ ?_
  rotate_left
  · intro w' s0
    have d : w'.cell? ⟨g, 0, none⟩ = some (.slice (some ⟨b, s, none⟩) (L - s) (C - s)) := by rw [hX] at s0; exact (blk_cell s0 0).trans rfl
    clear s0
    go_simp
    with_reducible rfl
  rotate_left
  · simp only [Act.put, s1_, s2_, s3_, i64_w, i32_w]
    rfl
  refine pure_ (i := 5) (N := some 99) (v := ?_) (a' := ?_) #[true, true, true, true, true, true, false, false] rfl rfl (by kernel_rfl) (fun _ _ _ h => h) (Or.inl ⟨by rfl, ?_⟩) ?_ ?_
  rotate_left
  · intro w'
    go_simp
    with_reducible rfl
  rotate_left
  · simp only [Act.put, s1_, s2_, s3_, i64_w, i32_w]
    rfl
  refine one_ (i := 6) (N := some 100) #[true, true, true, true, true, true, true, false] rfl rfl (by kernel_rfl) (by decide) (fun K hK => ?_)
  refine goes_ Tryd.func28 (by kernel_rfl) rfl #[(.int .u64 (x : Int))] (by rfl) rfl rfl (by (try simp only [List.map_toArray, List.map_cons, List.map_nil]); rfl) ?_
  refine (le28 _ w1.drew).mono ?_
  rintro e w_ ⟨rfl, rfl⟩
  refine ⟨_, rfl, ?_⟩
  refine hK.out _ _ b1 (fun hHeld => ?_)
  clear hK K
  refine norm_ (a' := ?_) ?_ ?_
  rotate_left
  · show Act.put _ (some 100) _ = _
    simp only [Act.put, s1_, s2_, s3_]
    rfl
  refine one_ (i := 7) (N := some 101) #[true, true, true, true, true, true, true, true] rfl rfl (by kernel_rfl) (by decide) (fun K hK => ?_)
  refine goes_ Tryd.func31 (by kernel_rfl) rfl #[(.agg #[]), (.slice (some ⟨b, s, none⟩) (L - s) (C - s)), (.int .u64 (x : Int))] (by rfl) rfl rfl (by (try simp only [List.map_toArray, List.map_cons, List.map_nil]); rfl) ?_
  refine (put31 b C L M s (L - s) (C - s) x w1.drew O1 (by omega) (by omega) hx).mono ?_
  rintro e w2 ⟨rfl, hT_, O2⟩
  refine ⟨_, rfl, ?_⟩
  have b2 : w2.heap[g]? = some (.cells X 50 (0, 0)) := hT_.blk b1 (fun e => hg e.symm)
  have T2 : Tch (fun k => k = g ∨ k = b) w w2 := T1.trans (hT_.mono (fun k h => .inr h))
  clear b1 O1 T1 hT_
  refine hK.out _ _ b2 (fun hHeld => ?_)
  clear hK K
  refine norm_ (a' := ?_) ?_ ?_
  rotate_left
  · show Act.put _ (some 101) _ = _
    simp only [Act.put, s1_, s2_, s3_]
    rfl
  refine done_ (by kernel_rfl) ?_
  clear hHeld
  have c0 : w2.cell? ⟨g, 0, none⟩ = some (.slice (some ⟨b, s, none⟩) (L - s) (C - s)) := by rw [hX] at b2; exact (blk_cell b2 0).trans rfl
  have f0 := blk_frozen b2 0
  have q3 : 8 ≤ C - s := by omega
  have q4 : (8 : Int) ≤ ((L - s : Nat) : Int) := by omega
  have HY := Lib.hid (And.intro b2 (And.intro O2 (And.intro T2 hX)))
  clear b2 O2 T2 hX hL hs hx
  by_cases q2 : C - s = 8
  · go_wp2
    go_end0
    obtain ⟨b2, O2, T2, hX⟩ := HY.out
    obtain ⟨hb, hO, hL, hs, hx⟩ := HZ.out
    rw [hX] at b2
    refine ⟨rfl, T2.set (.inl (.inl rfl)) _, _, O2.other hg, putW_upd M s x, ⟨some ⟨b, s, none⟩, fun h => by omega, ?_⟩⟩
    rw [show L - (s + 8) = L - s - 8 by omega, show C - (s + 8) = C - s - 8 by omega, q2]
    exact blk_put b2 0 _ rfl
  · go_wp2
    go_end0
    obtain ⟨b2, O2, T2, hX⟩ := HY.out
    obtain ⟨hb, hO, hL, hs, hx⟩ := HZ.out
    rw [hX] at b2
    refine ⟨rfl, T2.set (.inl (.inl rfl)) _, _, O2.other hg, putW_upd M s x, ⟨some ⟨b, s + 8, none⟩, fun h => rfl, ?_⟩⟩
    rw [show L - (s + 8) = L - s - 8 by omega, show C - (s + 8) = C - s - 8 by omega]
    exact blk_put b2 0 _ rfl
end Go.Proofs.YthgbfmcicpmepaaDoor.V
