/- What impl.decOf gives at each width, in every later world. -/
import Derived.Test.YtiiicmfobljnaaaTS2
namespace Go.Proofs.Ytiiicmfobljnaaa.V
set_option linter.unusedVariables false
open Go.RowKit Go.Proofs.YtiiicmfobljnaaaW.PrintWords Go.Proofs.YtiiicmfobljnaaaW.PrintLast Go.Proofs.YtiiicmfobljnaaaW.PrintMore

theorem cellI {w : World} {A : Option Addr} {l : List Int} (h : Kd.C (Kd.int .u64) w A l.length l) (hl : 0 < l.length) : ∃ ad, A = some ad ∧ ∀ i : Nat, i < l.length → w.cell? (ad.add i) = some (.int .u64 (rd l (i : Int))) := by
  obtain ⟨ad, e, hx⟩ := Kd.at_int h 0 (by omega) (by omega)
  refine ⟨ad, e, fun i hi => ?_⟩
  obtain ⟨ad', e', hx'⟩ := Kd.at_int h (i : Int) (by omega) (by omega)
  rw [e] at e'
  injection e' with e'
  rw [e']
  exact hx'
/-- impl.decOf gives this decimal in every later world. -/
def IsOf (w : World) (a0 : Int) (S : Value) (x1 x2 x3 x4 x5 x6 x7 x8 : Int) : Prop :=
  ∀ W, Below w.heap.size w W → Calls Try.prog 23 #[.int .i64 a0, S] W fun e W' => e = .returned (.tuple #[decA a0 x1 x2 x3 x4 x5 x6 x7 x8, .bool true]) ∧ Below W.heap.size W W'
theorem of32 {w : World} {A : Option Addr} {l : List Int} {c : Nat} (h : Kd.C (Kd.int .u64) w A l.length l) (hl : l.length = 1) (hx : wrap64 (rd l 0) = wrap64 (wrap32 (rd l 0))) : IsOf w 32 (.slice A l.length c) (wrap32 (rd l 0)) 0 0 0 0 0 0 0 := by
  intro W hb
  obtain ⟨ad, rfl, g⟩ := cellI h (by omega)
  rw [hl]
  exact decOf32 ad c _ W (keep hb (g 0 (by omega))) hx
theorem of64 {w : World} {A : Option Addr} {l : List Int} {c : Nat} (h : Kd.C (Kd.int .u64) w A l.length l) (hl : l.length = 1) : IsOf w 64 (.slice A l.length c) 0 (wrap64 (rd l 0)) 0 0 0 0 0 0 := by
  intro W hb
  obtain ⟨ad, rfl, g⟩ := cellI h (by omega)
  rw [hl]
  exact decOf64 ad c _ W (keep hb (g 0 (by omega)))
theorem of128 {w : World} {A : Option Addr} {l : List Int} {c : Nat} (h : Kd.C (Kd.int .u64) w A l.length l) (hl : l.length = 2) : IsOf w 128 (.slice A l.length c) 0 0 (rd l 0) (wrap64 (rd l 1)) 0 0 0 0 := by
  intro W hb
  obtain ⟨ad, rfl, g⟩ := cellI h (by omega)
  rw [hl]
  exact decOf128 ad c _ _ W (keep hb (g 0 (by omega))) (keep hb (g 1 (by omega)))
theorem of256 {w : World} {A : Option Addr} {l : List Int} {c : Nat} (h : Kd.C (Kd.int .u64) w A l.length l) (hl : l.length = 4) : IsOf w 256 (.slice A l.length c) 0 0 0 0 (rd l 0) (rd l 1) (rd l 2) (rd l 3) := by
  intro W hb
  obtain ⟨ad, rfl, g⟩ := cellI h (by omega)
  rw [hl]
  exact decOf256 ad c _ _ _ _ W (keep hb (g 0 (by omega))) (keep hb (g 1 (by omega))) (keep hb (g 2 (by omega))) (keep hb (g 3 (by omega)))
end Go.Proofs.Ytiiicmfobljnaaa.V
