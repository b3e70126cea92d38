/- What impl.DecSum answers, called with decimals. -/
import Derived.Test.YtiiicmfobljnaaaTS3
import Derived.Test.YtiiicmfobljnaaaMS
namespace Go.Proofs.Ytiiicmfobljnaaa.V
set_option linter.unusedVariables false
open Go.RowKit Go.Proofs.YtiiicmfobljnaaaW.PrintWords Go.Proofs.YtiiicmfobljnaaaW.PrintLast Go.Proofs.YtiiicmfobljnaaaW.PrintMore

theorem cellI {w : World} {A : Option Addr} {l : List Int} (h : Kd.C (Kd.int .u64) w A l.length l) (hl : 0 < l.length) : ∃ ad, A = some ad ∧ ∀ i : Nat, i < l.length → w.cell? (ad.add i) = some (.int .u64 (rd l (i : Int))) := by
  obtain ⟨ad, e, hx⟩ := Kd.at_int h 0 (by omega) (by omega)
  refine ⟨ad, e, fun i hi => ?_⟩
  obtain ⟨ad', e', hx'⟩ := Kd.at_int h (i : Int) (by omega) (by omega)
  rw [e] at e'
  injection e' with e'
  rw [e']
  exact hx'
/-- impl.decOf gives this decimal in every later world. -/
def IsOf (w : World) (a0 : Int) (S : Value) (x1 x2 x3 x4 x5 x6 x7 x8 : Int) : Prop :=
  ∀ W, Below w.heap.size w W → Calls Try.prog 23 #[.int .i64 a0, S] W fun e W' => e = .returned (.tuple #[decA a0 x1 x2 x3 x4 x5 x6 x7 x8, .bool true]) ∧ Below W.heap.size W W'
theorem of32 {w : World} {A : Option Addr} {l : List Int} {c : Nat} (h : Kd.C (Kd.int .u64) w A l.length l) (hl : l.length = 1) (hx : wrap64 (rd l 0) = wrap64 (wrap32 (rd l 0))) : IsOf w 32 (.slice A l.length c) (wrap32 (rd l 0)) 0 0 0 0 0 0 0 := by
  intro W hb
  obtain ⟨ad, rfl, g⟩ := cellI h (by omega)
  rw [hl]
  exact decOf32 ad c _ W (keep hb (g 0 (by omega))) hx
theorem of64 {w : World} {A : Option Addr} {l : List Int} {c : Nat} (h : Kd.C (Kd.int .u64) w A l.length l) (hl : l.length = 1) : IsOf w 64 (.slice A l.length c) 0 (wrap64 (rd l 0)) 0 0 0 0 0 0 := by
  intro W hb
  obtain ⟨ad, rfl, g⟩ := cellI h (by omega)
  rw [hl]
  exact decOf64 ad c _ W (keep hb (g 0 (by omega)))
theorem of128 {w : World} {A : Option Addr} {l : List Int} {c : Nat} (h : Kd.C (Kd.int .u64) w A l.length l) (hl : l.length = 2) : IsOf w 128 (.slice A l.length c) 0 0 (rd l 0) (wrap64 (rd l 1)) 0 0 0 0 := by
  intro W hb
  obtain ⟨ad, rfl, g⟩ := cellI h (by omega)
  rw [hl]
  exact decOf128 ad c _ _ W (keep hb (g 0 (by omega))) (keep hb (g 1 (by omega)))
theorem of256 {w : World} {A : Option Addr} {l : List Int} {c : Nat} (h : Kd.C (Kd.int .u64) w A l.length l) (hl : l.length = 4) : IsOf w 256 (.slice A l.length c) 0 0 0 0 (rd l 0) (rd l 1) (rd l 2) (rd l 3) := by
  intro W hb
  obtain ⟨ad, rfl, g⟩ := cellI h (by omega)
  rw [hl]
  exact decOf256 ad c _ _ _ _ W (keep hb (g 0 (by omega))) (keep hb (g 1 (by omega))) (keep hb (g 2 (by omega))) (keep hb (g 3 (by omega)))
/-- A word. -/
def W64 (x : Int) : Prop := 0 ≤ x ∧ x < 18446744073709551616
theorem W64_0 : W64 0 := ⟨by omega, by omega⟩
theorem W64_rd {l : List Int} (h : M.U64 l) {i : Nat} (hi : i < l.length) : W64 (rd l (i : Int)) := by rw [M.rd_lt hi]; exact h _ (List.getElem_mem hi)
/-- impl.DecSum, a sum, whatever the width, of decimals; what (dec).words then gives. -/
theorem add_all (wd : Int) (S1 S2 : Value) (r : List Int) (x1 x2 x3 x4 x5 x6 x7 x8 y1 y2 y3 y4 y5 y6 y7 y8 : Int) (w : World) (hx : IsOf w wd S1 x1 x2 x3 x4 x5 x6 x7 x8) (hy : IsOf w wd S2 y1 y2 y3 y4 y5 y6 y7 y8)
    (b3 : W64 x3) (b5 : W64 x5) (b6 : W64 x6) (b7 : W64 x7) (b8 : W64 x8) (c3 : W64 y3) (c5 : W64 y5) (c6 : W64 y6) (c7 : W64 y7) (c8 : W64 y8)
    (hw : ∀ W, Calls Try.prog 26 #[decA wd (wrap32 (x1 + y1)) (wrap64 (x2 + y2)) ((x3 + y3) % 18446744073709551616) (wrap64 (wrap64 (x4 + y4) + wrap64 ((x3 + y3) / 18446744073709551616))) ((x5 + y5 + 0) % 18446744073709551616) ((x6 + y6 + ((x5 + y5 + 0) / 18446744073709551616)) % 18446744073709551616) ((x7 + y7 + ((x6 + y6 + ((x5 + y5 + 0) / 18446744073709551616)) / 18446744073709551616)) % 18446744073709551616) ((x8 + y8 + ((x7 + y7 + ((x6 + y6 + ((x5 + y5 + 0) / 18446744073709551616)) / 18446744073709551616)) / 18446744073709551616)) % 18446744073709551616)] W fun e W' => ∃ v, e = .returned v ∧ Kd.V (Kd.int .u64) 25 W' W.heap.size (fun k_ => W.heap.size ≤ k_) v r ∧ Below W.heap.size W W') :
    Calls Try.prog 18 #[.int .i64 wd, .bool false, S1, S2] w fun e w' => ∃ v, e = .returned (.tuple #[v, .bool true]) ∧ Kd.V (Kd.int .u64) 25 w' w.heap.size (fun k_ => w.heap.size ≤ k_) v r ∧ Below w.heap.size w w' := by
  obtain ⟨b3, b3'⟩ := b3
  obtain ⟨c3, c3'⟩ := c3
  obtain ⟨b5, b5'⟩ := b5
  obtain ⟨c5, c5'⟩ := c5
  obtain ⟨b6, b6'⟩ := b6
  obtain ⟨c6, c6'⟩ := c6
  obtain ⟨b7, b7'⟩ := b7
  obtain ⟨c7, c7'⟩ := c7
  obtain ⟨b8, b8'⟩ := b8
  obtain ⟨c8, c8'⟩ := c8
  have k1 : 0 ≤ ((x5 + y5 + 0) / 18446744073709551616) ∧ ((x5 + y5 + 0) / 18446744073709551616) ≤ 1 := by omega
  have k2 : 0 ≤ ((x6 + y6 + ((x5 + y5 + 0) / 18446744073709551616)) / 18446744073709551616) ∧ ((x6 + y6 + ((x5 + y5 + 0) / 18446744073709551616)) / 18446744073709551616) ≤ 1 := by omega
  have k3 : 0 ≤ ((x7 + y7 + ((x6 + y6 + ((x5 + y5 + 0) / 18446744073709551616)) / 18446744073709551616)) / 18446744073709551616) ∧ ((x7 + y7 + ((x6 + y6 + ((x5 + y5 + 0) / 18446744073709551616)) / 18446744073709551616)) / 18446744073709551616) ≤ 1 := by omega
  have hadd : ∀ W, Calls Try.prog 48 #[d256A x5 x6 x7 x8, d256A y5 y6 y7 y8] W fun e W' => e = .returned (d256A ((x5 + y5 + 0) % 18446744073709551616) ((x6 + y6 + ((x5 + y5 + 0) / 18446744073709551616)) % 18446744073709551616) ((x7 + y7 + ((x6 + y6 + ((x5 + y5 + 0) / 18446744073709551616)) / 18446744073709551616)) % 18446744073709551616) ((x8 + y8 + ((x7 + y7 + ((x6 + y6 + ((x5 + y5 + 0) / 18446744073709551616)) / 18446744073709551616)) / 18446744073709551616)) % 18446744073709551616)) ∧ Below W.heap.size W W' := fun W =>
    add256 x5 x6 x7 x8 y5 y6 y7 y8 ((x5 + y5 + 0) % 18446744073709551616) ((x6 + y6 + ((x5 + y5 + 0) / 18446744073709551616)) % 18446744073709551616) ((x7 + y7 + ((x6 + y6 + ((x5 + y5 + 0) / 18446744073709551616)) / 18446744073709551616)) % 18446744073709551616) ((x8 + y8 + ((x7 + y7 + ((x6 + y6 + ((x5 + y5 + 0) / 18446744073709551616)) / 18446744073709551616)) / 18446744073709551616)) % 18446744073709551616) ((x5 + y5 + 0) / 18446744073709551616) ((x6 + y6 + ((x5 + y5 + 0) / 18446744073709551616)) / 18446744073709551616) ((x7 + y7 + ((x6 + y6 + ((x5 + y5 + 0) / 18446744073709551616)) / 18446744073709551616)) / 18446744073709551616) ((x8 + y8 + ((x7 + y7 + ((x6 + y6 + ((x5 + y5 + 0) / 18446744073709551616)) / 18446744073709551616)) / 18446744073709551616)) / 18446744073709551616) W
      (fun w => add64 x5 y5 (0 : Int) b5 c5 (by omega) (by omega) w)
      (fun w => add64 x6 y6 ((x5 + y5 + 0) / 18446744073709551616) b6 c6 k1.1 k1.2 w)
      (fun w => add64 x7 y7 ((x6 + y6 + ((x5 + y5 + 0) / 18446744073709551616)) / 18446744073709551616) b7 c7 k2.1 k2.2 w)
      (fun w => add64 x8 y8 ((x7 + y7 + ((x6 + y6 + ((x5 + y5 + 0) / 18446744073709551616)) / 18446744073709551616)) / 18446744073709551616) b8 c8 k3.1 k3.2 w)
  exact decAdd wd S1 S2 r x1 x2 x3 x4 x5 x6 x7 x8 y1 y2 y3 y4 y5 y6 y7 y8 (wrap32 (x1 + y1)) (wrap64 (x2 + y2)) ((x3 + y3) % 18446744073709551616) (wrap64 (wrap64 (x4 + y4) + wrap64 ((x3 + y3) / 18446744073709551616))) ((x5 + y5 + 0) % 18446744073709551616) ((x6 + y6 + ((x5 + y5 + 0) / 18446744073709551616)) % 18446744073709551616) ((x7 + y7 + ((x6 + y6 + ((x5 + y5 + 0) / 18446744073709551616)) / 18446744073709551616)) % 18446744073709551616) ((x8 + y8 + ((x7 + y7 + ((x6 + y6 + ((x5 + y5 + 0) / 18446744073709551616)) / 18446744073709551616)) / 18446744073709551616)) % 18446744073709551616) w hx hy
    (fun W => (decimal_Decimal32_Add.calls x1 y1 _ W rfl).mono fun _ _ h => ⟨h.1, drawn_below h.2⟩)
    (fun W => (decimal_Decimal64_Add.calls x2 y2 _ W rfl).mono fun _ _ h => ⟨h.1, drawn_below h.2⟩)
    (fun W => add128 x3 x4 y3 y4 W b3 c3) hadd hw
/-- impl.DecSum, a difference, whatever the width, of decimals; what (dec).words then gives. -/
theorem sub_all (wd : Int) (S1 S2 : Value) (r : List Int) (x1 x2 x3 x4 x5 x6 x7 x8 y1 y2 y3 y4 y5 y6 y7 y8 : Int) (w : World) (hx : IsOf w wd S1 x1 x2 x3 x4 x5 x6 x7 x8) (hy : IsOf w wd S2 y1 y2 y3 y4 y5 y6 y7 y8)
    (b3 : W64 x3) (b5 : W64 x5) (b6 : W64 x6) (b7 : W64 x7) (b8 : W64 x8) (c3 : W64 y3) (c5 : W64 y5) (c6 : W64 y6) (c7 : W64 y7) (c8 : W64 y8)
    (n5 n6 n7 n8 : Int) (e5 : n5 = ((18446744073709551616 - y5) % 18446744073709551616)) (e6 : n6 = (if ((18446744073709551616 - y5) % 18446744073709551616) = 0 then ((18446744073709551616 - y6) % 18446744073709551616) else (18446744073709551615 - y6))) (e7 : n7 = (if ((18446744073709551616 - y5) % 18446744073709551616) = 0 ∧ ((18446744073709551616 - y6) % 18446744073709551616) = 0 then ((18446744073709551616 - y7) % 18446744073709551616) else (18446744073709551615 - y7))) (e8 : n8 = (if ((18446744073709551616 - y5) % 18446744073709551616) = 0 ∧ ((18446744073709551616 - y6) % 18446744073709551616) = 0 ∧ ((18446744073709551616 - y7) % 18446744073709551616) = 0 then ((18446744073709551616 - y8) % 18446744073709551616) else (18446744073709551615 - y8)))
    (hw : ∀ W, Calls Try.prog 26 #[decA wd (wrap32 (x1 - y1)) (wrap64 (x2 - y2)) ((x3 - y3) % 18446744073709551616) (wrap64 (wrap64 (x4 - y4) - wrap64 (if x3 < y3 then 1 else 0))) ((x5 + n5 + 0) % 18446744073709551616) ((x6 + n6 + ((x5 + n5 + 0) / 18446744073709551616)) % 18446744073709551616) ((x7 + n7 + ((x6 + n6 + ((x5 + n5 + 0) / 18446744073709551616)) / 18446744073709551616)) % 18446744073709551616) ((x8 + n8 + ((x7 + n7 + ((x6 + n6 + ((x5 + n5 + 0) / 18446744073709551616)) / 18446744073709551616)) / 18446744073709551616)) % 18446744073709551616)] W fun e W' => ∃ v, e = .returned v ∧ Kd.V (Kd.int .u64) 25 W' W.heap.size (fun k_ => W.heap.size ≤ k_) v r ∧ Below W.heap.size W W') :
    Calls Try.prog 18 #[.int .i64 wd, .bool true, S1, S2] w fun e w' => ∃ v, e = .returned (.tuple #[v, .bool true]) ∧ Kd.V (Kd.int .u64) 25 w' w.heap.size (fun k_ => w.heap.size ≤ k_) v r ∧ Below w.heap.size w w' := by
  obtain ⟨b3, b3'⟩ := b3
  obtain ⟨c3, c3'⟩ := c3
  obtain ⟨b5, b5'⟩ := b5
  obtain ⟨c5, c5'⟩ := c5
  obtain ⟨b6, b6'⟩ := b6
  obtain ⟨c6, c6'⟩ := c6
  obtain ⟨b7, b7'⟩ := b7
  obtain ⟨c7, c7'⟩ := c7
  obtain ⟨b8, b8'⟩ := b8
  obtain ⟨c8, c8'⟩ := c8
  have m5 : 0 ≤ n5 ∧ n5 < 18446744073709551616 := by rw [e5]; omega
  have m6 : 0 ≤ n6 ∧ n6 < 18446744073709551616 := by rw [e6]; split <;> omega
  have m7 : 0 ≤ n7 ∧ n7 < 18446744073709551616 := by rw [e7]; split <;> omega
  have m8 : 0 ≤ n8 ∧ n8 < 18446744073709551616 := by rw [e8]; split <;> omega
  have hneg : ∀ W, Calls Try.prog 78 #[d256A y5 y6 y7 y8] W fun e W' => e = .returned (d256A n5 n6 n7 n8) ∧ Below W.heap.size W W' := fun W => by
    rw [e5, e6, e7, e8]
    exact neg256 y5 y6 y7 y8 ((18446744073709551616 - y5) % 18446744073709551616) ((18446744073709551616 - y6) % 18446744073709551616) ((18446744073709551616 - y7) % 18446744073709551616) ((18446744073709551616 - y8) % 18446744073709551616) (18446744073709551615 - y6) (18446744073709551615 - y7) (18446744073709551615 - y8) W (by rw [M.xor_max _ c5 c5', M.u64w]; congr 1; omega) (by rw [M.xor_max _ c6 c6', M.u64w]; congr 1; omega) (by rw [M.xor_max _ c7 c7', M.u64w]; congr 1; omega) (by rw [M.xor_max _ c8 c8', M.u64w]; congr 1; omega) (by rw [M.xor_max _ c6 c6', M.u64w]; omega) (by rw [M.xor_max _ c7 c7', M.u64w]; omega) (by rw [M.xor_max _ c8 c8', M.u64w]; omega)
  clear e5 e6 e7 e8
  have k1 : 0 ≤ ((x5 + n5 + 0) / 18446744073709551616) ∧ ((x5 + n5 + 0) / 18446744073709551616) ≤ 1 := by omega
  have k2 : 0 ≤ ((x6 + n6 + ((x5 + n5 + 0) / 18446744073709551616)) / 18446744073709551616) ∧ ((x6 + n6 + ((x5 + n5 + 0) / 18446744073709551616)) / 18446744073709551616) ≤ 1 := by omega
  have k3 : 0 ≤ ((x7 + n7 + ((x6 + n6 + ((x5 + n5 + 0) / 18446744073709551616)) / 18446744073709551616)) / 18446744073709551616) ∧ ((x7 + n7 + ((x6 + n6 + ((x5 + n5 + 0) / 18446744073709551616)) / 18446744073709551616)) / 18446744073709551616) ≤ 1 := by omega
  have hadd : ∀ W, Calls Try.prog 48 #[d256A x5 x6 x7 x8, d256A n5 n6 n7 n8] W fun e W' => e = .returned (d256A ((x5 + n5 + 0) % 18446744073709551616) ((x6 + n6 + ((x5 + n5 + 0) / 18446744073709551616)) % 18446744073709551616) ((x7 + n7 + ((x6 + n6 + ((x5 + n5 + 0) / 18446744073709551616)) / 18446744073709551616)) % 18446744073709551616) ((x8 + n8 + ((x7 + n7 + ((x6 + n6 + ((x5 + n5 + 0) / 18446744073709551616)) / 18446744073709551616)) / 18446744073709551616)) % 18446744073709551616)) ∧ Below W.heap.size W W' := fun W =>
    add256 x5 x6 x7 x8 n5 n6 n7 n8 ((x5 + n5 + 0) % 18446744073709551616) ((x6 + n6 + ((x5 + n5 + 0) / 18446744073709551616)) % 18446744073709551616) ((x7 + n7 + ((x6 + n6 + ((x5 + n5 + 0) / 18446744073709551616)) / 18446744073709551616)) % 18446744073709551616) ((x8 + n8 + ((x7 + n7 + ((x6 + n6 + ((x5 + n5 + 0) / 18446744073709551616)) / 18446744073709551616)) / 18446744073709551616)) % 18446744073709551616) ((x5 + n5 + 0) / 18446744073709551616) ((x6 + n6 + ((x5 + n5 + 0) / 18446744073709551616)) / 18446744073709551616) ((x7 + n7 + ((x6 + n6 + ((x5 + n5 + 0) / 18446744073709551616)) / 18446744073709551616)) / 18446744073709551616) ((x8 + n8 + ((x7 + n7 + ((x6 + n6 + ((x5 + n5 + 0) / 18446744073709551616)) / 18446744073709551616)) / 18446744073709551616)) / 18446744073709551616) W
      (fun w => add64 x5 n5 (0 : Int) b5 m5.1 (by omega) (by omega) w)
      (fun w => add64 x6 n6 ((x5 + n5 + 0) / 18446744073709551616) b6 m6.1 k1.1 k1.2 w)
      (fun w => add64 x7 n7 ((x6 + n6 + ((x5 + n5 + 0) / 18446744073709551616)) / 18446744073709551616) b7 m7.1 k2.1 k2.2 w)
      (fun w => add64 x8 n8 ((x7 + n7 + ((x6 + n6 + ((x5 + n5 + 0) / 18446744073709551616)) / 18446744073709551616)) / 18446744073709551616) b8 m8.1 k3.1 k3.2 w)
  exact decSub wd S1 S2 r x1 x2 x3 x4 x5 x6 x7 x8 y1 y2 y3 y4 y5 y6 y7 y8 (wrap32 (x1 - y1)) (wrap64 (x2 - y2)) ((x3 - y3) % 18446744073709551616) (wrap64 (wrap64 (x4 - y4) - wrap64 (if x3 < y3 then 1 else 0))) ((x5 + n5 + 0) % 18446744073709551616) ((x6 + n6 + ((x5 + n5 + 0) / 18446744073709551616)) % 18446744073709551616) ((x7 + n7 + ((x6 + n6 + ((x5 + n5 + 0) / 18446744073709551616)) / 18446744073709551616)) % 18446744073709551616) ((x8 + n8 + ((x7 + n7 + ((x6 + n6 + ((x5 + n5 + 0) / 18446744073709551616)) / 18446744073709551616)) / 18446744073709551616)) % 18446744073709551616) w hx hy
    (fun W => (decimal_Decimal32_Sub.calls x1 y1 _ W rfl).mono fun _ _ h => ⟨h.1, drawn_below h.2⟩)
    (fun W => (decimal_Decimal64_Sub.calls x2 y2 _ W rfl).mono fun _ _ h => ⟨h.1, drawn_below h.2⟩)
    (fun W => sub128 x3 x4 y3 y4 W ⟨b3, b3'⟩ ⟨c3, c3'⟩)
    (fun W => sub256 x5 x6 x7 x8 y5 y6 y7 y8 n5 n6 n7 n8 ((x5 + n5 + 0) % 18446744073709551616) ((x6 + n6 + ((x5 + n5 + 0) / 18446744073709551616)) % 18446744073709551616) ((x7 + n7 + ((x6 + n6 + ((x5 + n5 + 0) / 18446744073709551616)) / 18446744073709551616)) % 18446744073709551616) ((x8 + n8 + ((x7 + n7 + ((x6 + n6 + ((x5 + n5 + 0) / 18446744073709551616)) / 18446744073709551616)) / 18446744073709551616)) % 18446744073709551616) W hneg hadd) hw

/-- Decimals of one width: their sum, or difference, as words of this width; of others nothing is said. -/
def impl_DecSum.f (a0 : Int) (a1 : Bool) (l1 l2 : List Int) : Option (List Int × Bool) :=
  if M.isDec a0 l1 = true ∧ M.isDec a0 l2 = true ∧ (∀ x ∈ l1, 0 ≤ x ∧ x < 18446744073709551616) ∧ (∀ x ∈ l2, 0 ≤ x ∧ x < 18446744073709551616) then
    some (M.wrW a0 (if a1 = true then M.sv l1 - M.sv l2 else M.sv l1 + M.sv l2), true)
  else none
theorem words_V {wd : Int} {r : List Int} {x1 x2 x3 x4 x5 x6 x7 x8 : Int} (h : ∀ W, Calls Try.prog 26 #[decA wd x1 x2 x3 x4 x5 x6 x7 x8] W fun e w' => ∃ v, e = .returned v ∧ Kd.R (Kd.int .u64) 25 w' W.heap.size (fun k_ => W.heap.size ≤ k_) v r ∧ Below W.heap.size W w') :
    ∀ W, Calls Try.prog 26 #[decA wd x1 x2 x3 x4 x5 x6 x7 x8] W fun e w' => ∃ v, e = .returned v ∧ Kd.V (Kd.int .u64) 25 w' W.heap.size (fun k_ => W.heap.size ≤ k_) v r ∧ Below W.heap.size W w' :=
  fun W => (h W).mono fun e w' h => by
    obtain ⟨v, rfl, hR, hb⟩ := h
    exact ⟨v, rfl, Kd.R_V hR, hb⟩
theorem eq_one {l : List Int} (h : l.length = 1) : l = [rd l 0] := by
  obtain ⟨x, rfl⟩ := List.length_eq_one_iff.mp h
  rw [M.rd_single]
theorem eq_two {l : List Int} (h : l.length = 2) : l = [rd l 0, rd l 1] := by
  match l, h with
  | [a, b], _ => rfl
theorem eq_four {l : List Int} (h : l.length = 4) : l = [rd l 0, rd l 1, rd l 2, rd l 3] := by
  match l, h with
  | [a, b, c, d], _ => rfl
theorem sv64 {l : List Int} (u : M.U64 l) (h : l.length = 1) : M.sv l = wrap64 (rd l 0) := M.sv_one u h
theorem sv128 {l : List Int} (u : M.U64 l) (h : l.length = 2) : M.sv l = rd l 0 + 18446744073709551616 * wrap64 (rd l 1) := by
  have hb : W64 (rd l 1) := W64_rd u (i := 1) (by omega)
  have e := M.sv_two (a := rd l 0) hb
  rw [← eq_two h] at e
  exact e
theorem sv256 {l : List Int} (h : l.length = 4) : ∃ e, M.sv l = rd l 0 + 18446744073709551616 * (rd l 1 + 18446744073709551616 * (rd l 2 + 18446744073709551616 * (rd l 3 + 18446744073709551616 * e))) := by
  have e := M.sv_four (a := rd l 0) (b := rd l 1) (c := rd l 2) (d := rd l 3)
  rw [← eq_four h] at e
  exact e
theorem sum128 (x3 h1 y3 h2 : Int) : M.wrW 128 (x3 + 18446744073709551616 * wrap64 h1 + (y3 + 18446744073709551616 * wrap64 h2)) =
    [(x3 + y3) % 18446744073709551616, IntKind.u64.wrap (wrap64 (wrap64 (wrap64 h1 + wrap64 h2) + wrap64 ((x3 + y3) / 18446744073709551616)))] := by
  rw [M.wrW128, M.u64_w64]
  generalize wrap64 h1 = p
  generalize wrap64 h2 = q
  unfold wrap64
  congr 1
  · omega
  · congr 1; omega
theorem dif128 (x3 h1 y3 h2 : Int) (b3 : W64 x3) (c3 : W64 y3) : M.wrW 128 (x3 + 18446744073709551616 * wrap64 h1 - (y3 + 18446744073709551616 * wrap64 h2)) =
    [(x3 - y3) % 18446744073709551616, IntKind.u64.wrap (wrap64 (wrap64 (wrap64 h1 - wrap64 h2) - wrap64 (if x3 < y3 then 1 else 0)))] := by
  obtain ⟨b3, b3'⟩ := b3
  obtain ⟨c3, c3'⟩ := c3
  rw [M.wrW128, M.u64_w64]
  generalize wrap64 h1 = p
  generalize wrap64 h2 = q
  unfold wrap64
  congr 1
  · omega
  · congr 1
    split <;> omega
set_option maxHeartbeats 1000000 in
theorem impl_DecSum.calls (a0 : Int) (a1 : Bool) (A1 : Option Addr) (c1 : Nat) (l1 : List Int) (A2 : Option Addr) (c2 : Nat) (l2 : List Int) (r1 : List Int) (r2 : Bool) (w : World)
    (hr1 : Kd.C (Kd.int .u64) w A1 l1.length l1) (hc1 : l1.length ≤ c1) (hr2 : Kd.C (Kd.int .u64) w A2 l2.length l2) (hc2 : l2.length ≤ c2) (h : impl_DecSum.f a0 a1 l1 l2 = some (r1, r2)) :
    Calls Try.prog 18 #[.int .i64 a0, .bool a1, .slice A1 l1.length c1, .slice A2 l2.length c2] w fun e w' => ∃ v1_, e = .returned (.tuple #[v1_, .bool r2]) ∧ Kd.V (Kd.int .u64) 25 w' w.heap.size (fun k_ => w.heap.size ≤ k_) v1_ r1 ∧ Below w.heap.size w w' := by
  unfold impl_DecSum.f at h
  split at h
  · next c =>
    obtain ⟨d1, d2, u1, u2⟩ := c
    simp only [Option.some.injEq, Prod.mk.injEq] at h
    obtain ⟨rfl, rfl⟩ := h
    simp only [M.isDec, decide_eq_true_eq] at d1 d2
    have z := W64_0
    obtain ⟨rfl, e1, k1⟩ | ⟨rfl, e1⟩ | ⟨rfl, e1⟩ | ⟨rfl, e1⟩ := d1
    · obtain ⟨_, e2, k2⟩ : _ ∧ _ ∧ _ := by
        obtain h | h | h | h := d2
        · exact h
        all_goals exact absurd h.1 (by decide)
      have x1 := M.dec32 k1
      have x2 := M.dec32 k2
      rw [sv64 u1 e1, sv64 u2 e2, x1, x2, M.w64_w32, M.w64_w32]
      cases a1 with
      | false =>
        rw [if_neg (by decide), M.wrW32]
        exact add_all 32 _ _ _ _ _ _ _ _ _ _ _ _ _ _ _ _ _ _ _ w (of32 hr1 e1 x1) (of32 hr2 e2 x2) z z z z z z z z z z (words_V fun W => words32 _ _ _ _ _ _ _ _ W)
      | true =>
        rw [if_pos rfl, M.wrW32]
        exact sub_all 32 _ _ _ _ _ _ _ _ _ _ _ _ _ _ _ _ _ _ _ w (of32 hr1 e1 x1) (of32 hr2 e2 x2) z z z z z z z z z z _ _ _ _ rfl rfl rfl rfl (words_V fun W => words32 _ _ _ _ _ _ _ _ W)
    · have e2 : l2.length = 1 := by omega
      rw [sv64 u1 e1, sv64 u2 e2, M.wrW64]
      cases a1 with
      | false =>
        rw [if_neg (by decide), ← M.u64_w64]
        exact add_all 64 _ _ _ _ _ _ _ _ _ _ _ _ _ _ _ _ _ _ _ w (of64 hr1 e1) (of64 hr2 e2) z z z z z z z z z z (words_V fun W => words64 _ _ _ _ _ _ _ _ W)
      | true =>
        rw [if_pos rfl, ← M.u64_w64]
        exact sub_all 64 _ _ _ _ _ _ _ _ _ _ _ _ _ _ _ _ _ _ _ w (of64 hr1 e1) (of64 hr2 e2) z z z z z z z z z z _ _ _ _ rfl rfl rfl rfl (words_V fun W => words64 _ _ _ _ _ _ _ _ W)
    · have e2 : l2.length = 2 := by omega
      rw [sv128 u1 e1, sv128 u2 e2]
      have b0 : W64 (rd l1 0) := W64_rd u1 (i := 0) (by omega)
      have b1 : W64 (rd l2 0) := W64_rd u2 (i := 0) (by omega)
      cases a1 with
      | false =>
        rw [if_neg (by decide), sum128]
        exact add_all 128 _ _ _ _ _ _ _ _ _ _ _ _ _ _ _ _ _ _ _ w (of128 hr1 e1) (of128 hr2 e2) b0 z z z z b1 z z z z (fun W => words128 _ _ _ _ _ _ _ _ W)
      | true =>
        rw [if_pos rfl, dif128 _ _ _ _ b0 b1]
        exact sub_all 128 _ _ _ _ _ _ _ _ _ _ _ _ _ _ _ _ _ _ _ w (of128 hr1 e1) (of128 hr2 e2) b0 z z z z b1 z z z z _ _ _ _ rfl rfl rfl rfl (fun W => words128 _ _ _ _ _ _ _ _ W)
    · have e2 : l2.length = 4 := by omega
      obtain ⟨e, s1⟩ := sv256 e1
      obtain ⟨f, s2⟩ := sv256 e2
      have b0 : W64 (rd l1 0) := W64_rd u1 (i := 0) (by omega)
      have b1 : W64 (rd l1 1) := W64_rd u1 (i := 1) (by omega)
      have b2 : W64 (rd l1 2) := W64_rd u1 (i := 2) (by omega)
      have b3 : W64 (rd l1 3) := W64_rd u1 (i := 3) (by omega)
      have g0 : W64 (rd l2 0) := W64_rd u2 (i := 0) (by omega)
      have g1 : W64 (rd l2 1) := W64_rd u2 (i := 1) (by omega)
      have g2 : W64 (rd l2 2) := W64_rd u2 (i := 2) (by omega)
      have g3 : W64 (rd l2 3) := W64_rd u2 (i := 3) (by omega)
      rw [M.wrW256]
      cases a1 with
      | false =>
        rw [if_neg (by decide), M.sum256 _ _ _ _ _ _ _ _ e f _ _ s1 s2]
        refine add_all 256 _ _ _ _ _ _ _ _ _ _ _ _ _ _ _ _ _ _ _ w (of256 hr1 e1) (of256 hr2 e2) z b0 b1 b2 b3 z g0 g1 g2 g3 (fun W => ?_)
        rw [Int.add_zero (rd l1 0 + rd l2 0)]
        exact words256 _ _ _ _ _ _ _ _ W
      | true =>
        obtain ⟨f', s3⟩ := M.neg256_val (rd l2 0) (rd l2 1) (rd l2 2) (rd l2 3) _ _ _ _ _ _ _ f _ g0 g1 g2 g3 s2 rfl rfl rfl rfl rfl rfl rfl
        rw [if_pos rfl, Int.sub_eq_add_neg, M.sum256 _ _ _ _ _ _ _ _ e f' _ _ s1 s3]
        refine sub_all 256 _ _ _ _ _ _ _ _ _ _ _ _ _ _ _ _ _ _ _ w (of256 hr1 e1) (of256 hr2 e2) z b0 b1 b2 b3 z g0 g1 g2 g3 _ _ _ _ rfl rfl rfl rfl (fun W => ?_)
        rw [Int.add_zero (rd l1 0 + _)]
        exact words256 _ _ _ _ _ _ _ _ W
  · cases h
end Go.Proofs.Ytiiicmfobljnaaa.V
