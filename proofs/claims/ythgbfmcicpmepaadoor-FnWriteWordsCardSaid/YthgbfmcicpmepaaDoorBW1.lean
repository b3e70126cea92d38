/- The small functions of the writers of bits. -/
import Derived.Test.YthgbfmcicpmepaaDoorBW0
namespace Go.Proofs.YthgbfmcicpmepaaDoor.V
open Go.RowKit Go.Proofs.YthgbfmcicpmepaaDoor.B Go.Proofs.YthgbfmcicpmepaaDoorW.PrintWords Go.Proofs.YthgbfmcicpmepaaDoorW.PrintLast Go.Proofs.YthgbfmcicpmepaaDoorW.PrintMore
set_option linter.unusedVariables false
set_option linter.unusedSimpArgs false
set_option maxHeartbeats 4000000 in
theorem put31 (b C L : Nat) (M : Nat → Nat) (s m c v : Nat) (w : World) (h : Own w b C L M) (hm : 8 ≤ m) (hs : s + 8 ≤ L) (hv : v < 2 ^ 64) :
    Calls Tryd.prog 31 #[.agg #[], .slice (some ⟨b, s, none⟩) m c, .int .u64 (v : Int)] w fun e w' => e = .returned (.tuple #[]) ∧ Tch (fun k => k = b) w w' ∧ Own w' b C L (putW M s v) := by
  go_enter Tryd.func31, Tryd.ntmps31
  go_upto_region 1 with fail
  refine wp_at ?_
  intro w0 hw0
  have T0 : Tch (fun k => k = b) w w0 := by rw [hw0]; exact (Tch.refl _ _).alloc _
  have O0 : Own w0 b C L M := h.tch (S := fun _ => False) (by rw [hw0]; exact (Tch.refl _ _).alloc _) (fun h => h)
  clear hw0 h
  have c0 := O0.cell (s) (by omega)
  have f0 := O0.frozen (s)
  have c1 := O0.cell (s + 1) (by omega)
  have f1 := O0.frozen (s + 1)
  have c2 := O0.cell (s + 2) (by omega)
  have f2 := O0.frozen (s + 2)
  have c3 := O0.cell (s + 3) (by omega)
  have f3 := O0.frozen (s + 3)
  have c4 := O0.cell (s + 4) (by omega)
  have f4 := O0.frozen (s + 4)
  have c5 := O0.cell (s + 5) (by omega)
  have f5 := O0.frozen (s + 5)
  have c6 := O0.cell (s + 6) (by omega)
  have f6 := O0.frozen (s + 6)
  have c7 := O0.cell (s + 7) (by omega)
  have f7 := O0.frozen (s + 7)
  have l7 : (7 : Int) < (m : Int) := by omega
  have k0 : (0 : Int) < (m : Int) := by omega
  have k1 : (1 : Int) < (m : Int) := by omega
  have k2 : (2 : Int) < (m : Int) := by omega
  have k3 : (3 : Int) < (m : Int) := by omega
  have k4 : (4 : Int) < (m : Int) := by omega
  have k5 : (5 : Int) < (m : Int) := by omega
  have k6 : (6 : Int) < (m : Int) := by omega
  have k7 : (7 : Int) < (m : Int) := by omega
  obtain ⟨x0, hx0⟩ : ∃ x : Nat, x = v % 256 := ⟨_, rfl⟩
  have d0 : (v : Int) % 256 = (x0 : Int) := by omega
  obtain ⟨x1, hx1⟩ : ∃ x : Nat, x = v / 256 % 256 := ⟨_, rfl⟩
  have d1 : (v : Int) / 256 % 256 = (x1 : Int) := by omega
  obtain ⟨x2, hx2⟩ : ∃ x : Nat, x = v / 65536 % 256 := ⟨_, rfl⟩
  have d2 : (v : Int) / 65536 % 256 = (x2 : Int) := by omega
  obtain ⟨x3, hx3⟩ : ∃ x : Nat, x = v / 16777216 % 256 := ⟨_, rfl⟩
  have d3 : (v : Int) / 16777216 % 256 = (x3 : Int) := by omega
  obtain ⟨x4, hx4⟩ : ∃ x : Nat, x = v / 4294967296 % 256 := ⟨_, rfl⟩
  have d4 : (v : Int) / 4294967296 % 256 = (x4 : Int) := by omega
  obtain ⟨x5, hx5⟩ : ∃ x : Nat, x = v / 1099511627776 % 256 := ⟨_, rfl⟩
  have d5 : (v : Int) / 1099511627776 % 256 = (x5 : Int) := by omega
  obtain ⟨x6, hx6⟩ : ∃ x : Nat, x = v / 281474976710656 % 256 := ⟨_, rfl⟩
  have d6 : (v : Int) / 281474976710656 % 256 = (x6 : Int) := by omega
  obtain ⟨x7, hx7⟩ : ∃ x : Nat, x = v / 72057594037927936 := ⟨_, rfl⟩
  have d7 : (v : Int) / 72057594037927936 = (x7 : Int) := by omega
  have HX := Lib.hid (And.intro hx0 (And.intro hx1 (And.intro hx2 (And.intro hx3 (And.intro hx4 (And.intro hx5 (And.intro hx6 hx7)))))))
  clear hx0 hx1 hx2 hx3 hx4 hx5 hx6 hx7
  have HO := Lib.hid (And.intro T0 O0)
  clear T0 O0
  go_wp2
  go_end0
  obtain ⟨T0, O0⟩ := HO.out
  obtain ⟨hx0, hx1, hx2, hx3, hx4, hx5, hx6, hx7⟩ := HX.out
  refine ⟨rfl, tset (tset (tset (tset (tset (tset (tset (tset T0))))))), ?_⟩
  unfold putW
  rw [← hx0, ← hx1, ← hx2, ← hx3, ← hx4, ← hx5, ← hx6, show v / 72057594037927936 % 256 = x7 by omega]
  exact (((((((O0.put s x0 (by omega)).put (s + 1) x1 (by omega)).put (s + 2) x2 (by omega)).put (s + 3) x3 (by omega)).put (s + 4) x4 (by omega)).put (s + 5) x5 (by omega)).put (s + 6) x6 (by omega)).put (s + 7) x7 (by omega)
theorem blk_other_ {W : World} {g b i : Nat} {o : Obj} {u : Value} (hne : g ≠ b) (h : W.heap[g]? = some o) : (W.setCell ⟨b, i, none⟩ u).heap[g]? = some o := (heap_setCell_other W ⟨b, i, none⟩ g u hne).trans h
theorem Own.other {W : World} {g b C L i : Nat} {M : Nat → Nat} {u : Value} (hne : b ≠ g) (h : Own W b C L M) : Own (W.setCell ⟨g, i, none⟩ u) b C L M := by
  obtain ⟨arr, h1, h2, h3⟩ := h.blk
  exact ⟨h.byte, arr, blk_other_ hne h1, h2, h3⟩
end Go.Proofs.YthgbfmcicpmepaaDoor.V
