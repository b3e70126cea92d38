/- What the readers of words do with the bytes behind the words. -/
import Derived.Test.YthgbfmcicpmepaaDoorBT3
namespace Go.Proofs.YthgbfmcicpmepaaDoor.V
open Go.RowKit Go.Proofs.YthgbfmcicpmepaaDoor.B Go.Proofs.YthgbfmcicpmepaaDoorW.PrintWords Go.Proofs.YthgbfmcicpmepaaDoorW.PrintLast Go.Proofs.YthgbfmcicpmepaaDoorW.PrintMore
set_option linter.unusedVariables false
set_option linter.unusedSimpArgs false
theorem as33 (a b : Value) (w : World) : Calls Tryd.prog 33 #[a, b] w fun e w' => e = .returned (.tuple #[]) ∧ w = w' := by
  go_enter Tryd.func33, Tryd.ntmps33
  go_wp2
  go_end0
  exact ⟨rfl, rfl⟩
theorem lsb32 (x : Nat) (w : World) : Calls Tryd.prog 32 #[.int .u64 (x : Int)] w fun e w' => e = .returned (.int .u8 ((x % 256 : Nat) : Int)) ∧ w = w' := by
  go_enter Tryd.func32, Tryd.ntmps32
  go_wp2
  go_ret
  exact ⟨rfl, rfl⟩
theorem byte_join (D : Nat → Nat) (s o : Nat) (h0 : 0 < o) (ho : o < 8) (b0 : D s < 256) (b1 : D (s + 1) < 256) : bits .or .u8 ((D s : Int) / 2 ^ o) ((D (s + 1) : Int) * 2 ^ (8 - o) % 256) = ((pk D (8 * s + o) 8 : Nat) : Int) := by
  have a := pk_shr D (8 * s) o 8 (by omega)
  have b := pk_shl D (8 * (s + 1)) (8 - o) 8 8 (by omega) (by omega)
  have c := pk_split D (8 * s + o) (8 - o) o
  rw [show 8 - o + o = 8 by omega, show 8 * s + o + (8 - o) = 8 * (s + 1) by omega] at c
  rw [show 8 - (8 - o) = o by omega, pk_byte D (s + 1) b1] at b
  rw [pk_byte D s b0] at a
  have l1 := pk_lt D (8 * s + o) (8 - o)
  have l2 := pk_lt D (8 * s + o) 8
  have e1 : (D s : Int) / 2 ^ o = ((pk D (8 * s + o) (8 - o) : Nat) : Int) := by rw [← a, Int.natCast_ediv, Int.natCast_pow]; rfl
  have e2 : (D (s + 1) : Int) * 2 ^ (8 - o) % 256 = ((2 ^ (8 - o) * pk D (8 * (s + 1)) o : Nat) : Int) := by
    rw [← b, show (D (s + 1) : Int) * 2 ^ (8 - o) = ((D (s + 1) * 2 ^ (8 - o) : Nat) : Int) by rw [Int.natCast_mul, Int.natCast_pow]; rfl]
    rfl
  rw [e1, e2, or_u8 (8 - o) _ _ l1 (by rw [← c]; exact l2), ← c]
theorem byte46 (g B O E : Nat) (D : Nat → Nat) (s c o cw tb : Nat) (nw tB : Int) (w : World) (hD : Dat w B O E D) (hg : B ≠ g) (h : Rdr w g B O E s c o nw (tb : Int) tB cw) (hcw : cw % 256 = D s) (hw : cw < 2 ^ 64) (hc : E - s ≤ c) (hs : s + 2 ≤ E) (ho : o < 8) (hE : E < 2 ^ 40) (ht : 8 < tb) (ht2 : tb < 2 ^ 40) (hB : 0 ≤ tB) (hB2 : tB < 2 ^ 40) :
    Calls Tryd.prog 46 #[.pointer (some ⟨g, 0, none⟩)] w fun e w' => e = .returned (.tuple #[.int .u8 (pk D (8 * s + o) 8 : Nat), .int .i64 8]) ∧ Tch (fun k => k = g) w w' ∧ ∃ c' cw', E - (s + 1) ≤ c' ∧ cw' % 256 = D (s + 1) ∧ cw' < 2 ^ 64 ∧ Rdr w' g B O E (s + 1) c' o nw ((tb - 8 : Nat) : Int) (tB - 1) cw' := by
  unfold Rdr at h
  have h0 : w.cell? ⟨g, 0, none⟩ = some (.slice (some ⟨B, O + s, none⟩) (E - s) c) := (blk_cell h 0).trans rfl
  have h1 : w.cell? ⟨g, 1, none⟩ = some (.int .i64 (o : Int)) := (blk_cell h 1).trans rfl
  have h3 : w.cell? ⟨g, 3, none⟩ = some (.int .i64 (tb : Int)) := (blk_cell h 3).trans rfl
  have h5 : w.cell? ⟨g, 5, none⟩ = some (.int .u64 (cw : Int)) := (blk_cell h 5).trans rfl
  have f0 := blk_frozen h 0
  have hb := hD.at_ (s + 1) (O + s + 1) (by omega) (by omega)
  have hg2 : g ≠ B := fun e => hg e.symm
  have k0 : (0 : Int) < ((E - s : Nat) : Int) - 1 := by omega
  have k0' : 0 < E - s - 1 := by omega
  have k2 : c ≠ 1 := by omega
  have k3 : 1 ≤ c := by omega
  have k4 : (1 : Int) ≤ ((E - s : Nat) : Int) := by omega
  have k5 : ¬ (tb : Int) ≤ 8 := by omega
  have H := Lib.hid h
  clear h
  go_enter Tryd.func46, Tryd.ntmps46
  go_wp2_with (first | (go_at_call 33; (with_reducible refine (as33 _ _ _).mono ?_); rintro e w1 ⟨rfl, rfl⟩) | (go_at_call 32; fail))
  refine calls_at ?_
  intro w1 hw1
  have T1 : Tch (fun k => k = g) w w1 := by rw [hw1]; exact tset (Tch.refl _ _)
  have B1 := blk_put H.out 0 (.slice (some ⟨B, O + s + 1, none⟩) (E - s - 1) (c - 1)) rfl
  rw [← hw1] at B1
  clear hw1 H h0 h1 h3 h5 f0 hb
  have h1 : w1.cell? ⟨g, 1, none⟩ = some (.int .i64 (o : Int)) := (blk_cell B1 1).trans rfl
  have h3 : w1.cell? ⟨g, 3, none⟩ = some (.int .i64 (tb : Int)) := (blk_cell B1 3).trans rfl
  have h4 : w1.cell? ⟨g, 4, none⟩ = some (.int .i64 tB) := (blk_cell B1 4).trans rfl
  have h5 : w1.cell? ⟨g, 5, none⟩ = some (.int .u64 (cw : Int)) := (blk_cell B1 5).trans rfl
  have f5 := blk_frozen B1 5
  have H1 := Lib.hid (And.intro T1 B1)
  clear T1 B1
  refine (lsb32 cw w1).mono ?_
  rintro e w2 ⟨rfl, rfl⟩
  have hby := hD.byte (s + 1)
  rcases Nat.eq_zero_or_pos o with rfl | hop
  · go_wp2_with (go_at_call 30; fail)
    refine (set30 g 5 cw (D (s + 1)) w1 hw hby h5 f5).mono ?_
    rintro e w2 ⟨rfl, hw2⟩
    obtain ⟨T1, B1⟩ := H1.out
    have T2 : Tch (fun k => k = g) w w2 := by rw [hw2]; exact tset T1
    have B2 := blk_put B1 5 (.int .u64 ((D (s + 1) + 2 ^ 8 * (cw / 256) : Nat) : Int)) rfl
    rw [← hw2] at B2
    clear hw2 T1 B1 H1 h1 h3 h4 h5 f5
    have h3 : w2.cell? ⟨g, 3, none⟩ = some (.int .i64 (tb : Int)) := (blk_cell B2 3).trans rfl
    have h4 : w2.cell? ⟨g, 4, none⟩ = some (.int .i64 tB) := (blk_cell B2 4).trans rfl
    have f3 := blk_frozen B2 3
    have f4 := blk_frozen B2 4
    have H2 := Lib.hid (And.intro T2 B2)
    clear T2 B2
    go_wp2
    go_ret2
    obtain ⟨T2, B2⟩ := H2.out
    refine ⟨by rw [show pk D (8 * s + 0) 8 = D s from pk_byte D s (hD.byte s)]; rfl, tset (tset T2), c - 1, D (s + 1) + 2 ^ 8 * (cw / 256), by omega, by omega, by omega, ?_⟩
    unfold Rdr
    rw [show O + (s + 1) = O + s + 1 by omega, show E - (s + 1) = E - s - 1 by omega, show ((tb - 8 : Nat) : Int) = (tb : Int) - 8 by omega]
    exact blk_put (blk_put B2 3 _ rfl) 4 _ rfl
  · have ko : ¬ (o : Int) = 0 := by omega
    go_wp2_with (go_at_call 30; fail)
    refine (set30 g 5 cw (D (s + 1)) w1 hw hby h5 f5).mono ?_
    rintro e w2 ⟨rfl, hw2⟩
    obtain ⟨T1, B1⟩ := H1.out
    have T2 : Tch (fun k => k = g) w w2 := by rw [hw2]; exact tset T1
    have B2 := blk_put B1 5 (.int .u64 ((D (s + 1) + 2 ^ 8 * (cw / 256) : Nat) : Int)) rfl
    rw [← hw2] at B2
    clear hw2 T1 B1 H1 h1 h3 h4 h5 f5
    have h3 : w2.cell? ⟨g, 3, none⟩ = some (.int .i64 (tb : Int)) := (blk_cell B2 3).trans rfl
    have h4 : w2.cell? ⟨g, 4, none⟩ = some (.int .i64 tB) := (blk_cell B2 4).trans rfl
    have f3 := blk_frozen B2 3
    have f4 := blk_frozen B2 4
    have H2 := Lib.hid (And.intro T2 B2)
    clear T2 B2
    go_wp2
    go_ret2
    obtain ⟨T2, B2⟩ := H2.out
    refine ⟨congrArg (fun z => Ending.returned (Value.tuple #[.int .u8 z, .int .i64 8])) (byte_join D s o hop ho (hD.byte s) (hD.byte (s + 1))), tset (tset T2), c - 1, D (s + 1) + 2 ^ 8 * (cw / 256), by omega, by omega, by omega, ?_⟩
    unfold Rdr
    rw [show O + (s + 1) = O + s + 1 by omega, show E - (s + 1) = E - s - 1 by omega, show ((tb - 8 : Nat) : Int) = (tb : Int) - 8 by omega]
    exact blk_put (blk_put B2 3 _ rfl) 4 _ rfl
end Go.Proofs.YthgbfmcicpmepaaDoor.V
