/- What the readers of words do. -/
import Derived.Test.YthgbfmcicpmepaaDoorBT2
namespace Go.Proofs.YthgbfmcicpmepaaDoor.V
open Go.RowKit Go.Proofs.YthgbfmcicpmepaaDoor.B Go.Proofs.YthgbfmcicpmepaaDoorW.PrintWords Go.Proofs.YthgbfmcicpmepaaDoorW.PrintLast Go.Proofs.YthgbfmcicpmepaaDoorW.PrintMore
set_option linter.unusedVariables false
set_option linter.unusedSimpArgs false
/-- A reader of words: its block, at a byte of the data. -/
def Rdr (w : World) (g B O E : Nat) (s c o : Nat) (nw tb tB : Int) (cw : Nat) : Prop := w.heap[g]? = some (.cells #[.slice (some ⟨B, O + s, none⟩) (E - s) c, .int .i64 (o : Int), .int .i64 nw, .int .i64 tb, .int .i64 tB, .int .u64 (cw : Int)] 77 (0, 0))
theorem word_join (D : Nat → Nat) (s o : Nat) (h0 : 0 < o) (ho : o < 8) : bits .or .u64 ((pk D (8 * s) 64 : Nat) / 2 ^ o) (IntKind.u64.wrap (((pk D (8 * (s + 8)) 64 : Nat) : Int) * 2 ^ (64 - o))) = ((pk D (8 * s + o) 64 : Nat) : Int) := by
  have a := pk_shr D (8 * s) o 64 (by omega)
  have b := pk_shl D (8 * (s + 8)) (64 - o) 64 64 (by omega) (by omega)
  have c := pk_split D (8 * s + o) (64 - o) o
  rw [show 64 - o + o = 64 by omega, show 8 * s + o + (64 - o) = 8 * (s + 8) by omega] at c
  rw [show 64 - (64 - o) = o by omega] at b
  have l1 := pk_lt D (8 * s + o) (64 - o)
  have l2 := pk_lt D (8 * s + o) 64
  have e1 : ((pk D (8 * s) 64 : Nat) : Int) / 2 ^ o = ((pk D (8 * s + o) (64 - o) : Nat) : Int) := by rw [← a, Int.natCast_ediv, Int.natCast_pow]; rfl
  have e2 : IntKind.u64.wrap (((pk D (8 * (s + 8)) 64 : Nat) : Int) * 2 ^ (64 - o)) = ((2 ^ (64 - o) * pk D (8 * (s + 8)) o : Nat) : Int) := by
    rw [← b, show ((pk D (8 * (s + 8)) 64 : Nat) : Int) * 2 ^ (64 - o) = ((pk D (8 * (s + 8)) 64 * 2 ^ (64 - o) : Nat) : Int) by rw [Int.natCast_mul, Int.natCast_pow]; rfl]
    generalize pk D (8 * (s + 8)) 64 * 2 ^ (64 - o) = z
    simp [IntKind.wrap, IntKind.bits, IntKind.signed]
  rw [e1, e2, or_u64 (64 - o) _ _ l1 (by rw [← c]; exact l2), ← c]
theorem le28 (x : Int) (w : World) : Calls Tryd.prog 28 #[.int .u64 x] w fun e w' => e = .returned (.int .u64 x) ∧ w = w' := by
  go_enter Tryd.func28, Tryd.ntmps28
  go_wp2
  go_ret
  exact ⟨rfl, rfl⟩
theorem word44 (g B O E : Nat) (D : Nat → Nat) (s c o : Nat) (nw tb tB : Int) (w : World) (hD : Dat w B O E D) (hg : B ≠ g) (h : Rdr w g B O E s c o nw tb tB (pk D (8 * s) 64)) (hc : E - s ≤ c) (hs : s + 16 ≤ E) (ho : o < 8) (hE : E < 2 ^ 40) :
    Calls Tryd.prog 44 #[.pointer (some ⟨g, 0, none⟩)] w fun e w' => e = .returned (.int .u64 (pk D (8 * s + o) 64 : Nat)) ∧ Tch (fun k => k = g) w w' ∧ ∃ c', E - (s + 8) ≤ c' ∧ Rdr w' g B O E (s + 8) c' o nw tb tB (pk D (8 * (s + 8)) 64) := by
  unfold Rdr at h
  have h0 : w.cell? ⟨g, 0, none⟩ = some (.slice (some ⟨B, O + s, none⟩) (E - s) c) := (blk_cell h 0).trans rfl
  have h1 : w.cell? ⟨g, 1, none⟩ = some (.int .i64 (o : Int)) := (blk_cell h 1).trans rfl
  have h5 : w.cell? ⟨g, 5, none⟩ = some (.int .u64 (pk D (8 * s) 64 : Nat)) := (blk_cell h 5).trans rfl
  have f0 := blk_frozen h 0
  have f5 := blk_frozen h 5
  have k2 : c ≠ 8 := by omega
  have k3 : 8 ≤ c := by omega
  have k1 : (8 : Int) ≤ ((E - s : Nat) : Int) := by omega
  have H := Lib.hid h
  clear h
  go_enter Tryd.func44, Tryd.ntmps44
  go_wp2_with (go_at_call 29; fail)
  refine wp_at ?_
  intro w1 hw1
  obtain ⟨X, hX⟩ : ∃ X : Array Value, X = #[.slice (some ⟨B, O + s + 8, none⟩) (E - s - 8) (c - 8), .int .i64 (o : Int), .int .i64 nw, .int .i64 tb, .int .i64 tB, .int .u64 ((pk D (8 * s) 64 : Nat) : Int)] := ⟨_, rfl⟩
  have B1 : w1.heap[g]? = some (.cells X 77 (0, 0)) := by rw [hw1, hX]; exact blk_put H.out 0 _ rfl
  have T1 : Tch (fun k => k = g) w w1 := by rw [hw1]; exact tset (Tch.refl _ _)
  have T1' := T1.drew
  have D1 := hD.tch T1' hg
  clear hw1 H h0 h1 h5 f0 f5 T1
  refine start_ (n := 8) (S := fun w' => w'.heap[g]? = some (.cells X 77 (0, 0)) ∧ Dat w' B O E D) (ds := []) #[false, false, false, false, false, false, false, false] (by kernel_rfl) rfl rfl ⟨B1, D1⟩ (fun hHeld => ?_)
  refine pure_ (i := 1) (N := some 18) (v := ?_) (a' := ?_) #[false, true, false, false, false, false, false, false] rfl rfl (by kernel_rfl) (fun _ _ _ h => h) (Or.inl ⟨by rfl, ?_⟩) ?_ ?_
  rotate_left
  · intro w'
    go_simp
    with_reducible rfl
  rotate_left
  · simp only [Act.put, s1_, s2_, s3_, i64_w, i32_w]
    rfl
  refine pure_ (i := 2) (N := some 19) (v := ?_) (a' := ?_) #[false, true, true, false, false, false, false, false] rfl rfl (by kernel_rfl) (fun _ _ _ h => h) (Or.inl ⟨by rfl, ?_⟩) ?_ ?_
  rotate_left
  · intro w'
    go_simp
    with_reducible rfl
  rotate_left
  · simp only [Act.put, s1_, s2_, s3_, i64_w, i32_w]
    rfl
  refine pure_ (i := 3) (N := some 20) (v := ?_) (a' := ?_) #[false, true, true, true, false, false, false, false] rfl rfl (by kernel_rfl) (fun _ _ _ h => h) (Or.inl ⟨by rfl, ?_⟩) ?_ ?_
  rotate_left
  · intro w'
    go_simp
    with_reducible rfl
  rotate_left
  · simp only [Act.put, s1_, s2_, s3_, i64_w, i32_w]
    rfl
  refine take_ (i := 0) (N := some 17) (v := ?_) (a' := ?_) #[true, true, true, true, false, false, false, false] rfl rfl (by kernel_rfl) (fun _ _ _ h => h) (Or.inl ⟨by rfl, ?_⟩) hHeld ?_ ?_
  rotate_left
  · intro w' s0
    clear s0
    go_simp
    with_reducible rfl
  rotate_left
  · simp only [Act.put, s1_, s2_, s3_, i64_w, i32_w]
    rfl
  refine take_ (i := 4) (N := some 21) (v := ?_) (a' := ?_) #[true, true, true, true, true, false, false, false] rfl rfl (by kernel_rfl) (fun _ _ _ h => h) (Or.inl ⟨by rfl, ?_⟩) hHeld ?_ ?_
  rotate_left
  · intro w' s0
    have d : w'.cell? ⟨g, 0, none⟩ = some (.slice (some ⟨B, O + s + 8, none⟩) (E - s - 8) (c - 8)) := by rw [hX] at s0; exact (blk_cell s0.1 0).trans rfl
    clear s0
    go_simp
    with_reducible rfl
  rotate_left
  · simp only [Act.put, s1_, s2_, s3_, i64_w, i32_w]
    rfl
  refine one_ (i := 5) (N := some 22) #[true, true, true, true, true, true, false, false] rfl rfl (by kernel_rfl) (by decide) (fun K hK => ?_)
  refine goes_ Tryd.func29 (by kernel_rfl) rfl #[(.agg #[]), (.slice (some ⟨B, O + s + 8, none⟩) (E - s - 8) (c - 8))] (by rfl) rfl rfl (by (try simp only [List.map_toArray, List.map_cons, List.map_nil]); rfl) ?_
  refine (get29 B O E D (O + s + 8) (E - s - 8) (s + 8) (c - 8) w1.drew D1 (by omega) (by omega) (by omega)).mono ?_
  rintro e w2 ⟨rfl, hb2⟩
  refine ⟨_, rfl, ?_⟩
  have B2 : w2.heap[g]? = some (.cells X 77 (0, 0)) := blk_below (blk_drew_ B1) hb2
  have D2 := D1.tch (Tch.of_below (S := fun _ => False) hb2) (fun h => h)
  have T2 := T1'.trans (Tch.of_below hb2)
  clear D1 T1' B1
  refine hK.out _ _ ⟨B2, D2⟩ (fun hHeld => ?_)
  clear hK K
  refine norm_ (a' := ?_) ?_ ?_
  rotate_left
  · show Act.put _ (some 22) _ = _
    simp only [Act.put, s1_, s2_, s3_]
    rfl
  refine one_ (i := 6) (N := some 23) #[true, true, true, true, true, true, true, false] rfl rfl (by kernel_rfl) (by decide) (fun K hK => ?_)
  refine goes_ Tryd.func28 (by kernel_rfl) rfl #[(.int .u64 ((pk D (8 * (s + 8)) 64 : Nat) : Int))] (by rfl) rfl rfl (by (try simp only [List.map_toArray, List.map_cons, List.map_nil]); rfl) ?_
  refine (le28 _ w2).mono ?_
  rintro e w3 ⟨rfl, rfl⟩
  refine ⟨_, rfl, ?_⟩
  refine hK.out _ _ ⟨B2, D2⟩ (fun hHeld => ?_)
  clear hK K
  refine norm_ (a' := ?_) ?_ ?_
  rotate_left
  · show Act.put _ (some 23) _ = _
    simp only [Act.put, s1_, s2_, s3_]
    rfl
  refine pure_ (i := 7) (N := some 4) (v := ?_) (a' := ?_) #[true, true, true, true, true, true, true, true] rfl rfl (by kernel_rfl) (fun _ _ _ h => h) (Or.inl ⟨by rfl, ?_⟩) ?_ ?_
  rotate_left
  · intro w'
    go_simp
    with_reducible rfl
  rotate_left
  · simp only [Act.put, s1_, s2_, s3_, i64_w, i32_w]
    rfl
  refine done_ (by kernel_rfl) ?_
  have e1 : w2.cell? ⟨g, 1, none⟩ = some (.int .i64 (o : Int)) := by rw [hX] at B2; exact (blk_cell B2 1).trans rfl
  have e5 : w2.cell? ⟨g, 5, none⟩ = some (.int .u64 ((pk D (8 * s) 64 : Nat) : Int)) := by rw [hX] at B2; exact (blk_cell B2 5).trans rfl
  have f5 := blk_frozen B2 5
  have HE := Lib.hid (And.intro T2 (And.intro B2 hX))
  clear T2 B2 hX D2 hHeld
  rcases Nat.eq_zero_or_pos o with rfl | hop
  · go_wp2
    go_ret
    obtain ⟨T2, B2, hX⟩ := HE.out
    refine ⟨rfl, tset T2, c - 8, by omega, ?_⟩
    rw [hX] at B2
    unfold Rdr
    rw [show O + (s + 8) = O + s + 8 by omega, show E - (s + 8) = E - s - 8 by omega]
    exact blk_put B2 5 _ rfl
  · have ko : ¬ (o : Int) = 0 := by omega
    go_wp2
    go_ret
    obtain ⟨T2, B2, hX⟩ := HE.out
    refine ⟨congrArg (fun z => Ending.returned (Value.int .u64 z)) (word_join D s o hop ho), tset T2, c - 8, by omega, ?_⟩
    rw [hX] at B2
    unfold Rdr
    rw [show O + (s + 8) = O + s + 8 by omega, show E - (s + 8) = E - s - 8 by omega]
    exact blk_put B2 5 _ rfl
end Go.Proofs.YthgbfmcicpmepaaDoor.V
