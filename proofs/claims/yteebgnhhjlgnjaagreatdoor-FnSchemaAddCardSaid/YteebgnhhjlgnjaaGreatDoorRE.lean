/- What an argument that is a schema reads as. -/
import Derived.Test.YteebgnhhjlgnjaaGreatDoorRD
namespace Go.Proofs.YteebgnhhjlgnjaaGreatDoor.V
open Go.RowKit Go.Proofs.YteebgnhhjlgnjaaGreatDoorW.PrintWords Go.Proofs.YteebgnhhjlgnjaaGreatDoorW.PrintLast Go.Proofs.YteebgnhhjlgnjaaGreatDoorW.PrintMore
set_option maxHeartbeats 40000000
set_option maxRecDepth 100000
set_option linter.unusedVariables false
set_option linter.unusedSimpArgs false
section
variable {H : Type} {enc : TypeId × Value → H} {W : World} {sp : Nat → Bool} {held : Bool}
theorem read25 {m : Nat} {cs : List Value} {x : DataW H × List MemPlace} (h : DataW.trod enc Tryz.prog W 0 sp held m 25 cs = some x) :
 ∃ (fs : List S30) (mm : List S73) (A9 : Option Addr) (c9 : Nat) (Am : Option Addr) (cm : Nat), cs = [.slice A9 fs.length c9, .slice Am mm.length cm] ∧ fs.length ≤ c9 ∧ Kd.C k30 W A9 fs.length fs ∧ mm.length ≤ cm ∧ Kd.C k73 W Am mm.length mm ∧ ∀ f ∈ fs, f.f0.size ≤ 9223372036854775807 ∧ SzT f.f2 := by
 have s22 : Tryz.prog.cellsOf 22 = 1 := by kernel_rfl
 have s23 : Tryz.prog.cellsOf 23 = 1 := by kernel_rfl
 have s25 : Tryz.prog.cellsOf 25 = 2 := by kernel_rfl
 have s30 : Tryz.prog.cellsOf 30 = 13 := by kernel_rfl
 have s73 : Tryz.prog.cellsOf 73 = 2 := by kernel_rfl
 obtain ⟨xs, n, hn, _, hl, hx, hf⟩ := DataW.trod_struct Tryz.underlying25 h
 rw [s25] at hl
 match xs, hx, cs, hl with
 | [x0, x1], _, [c0, c1], _ =>
  have h0 : DataW.trod enc Tryz.prog W 0 sp held n 22 [c0] = some x0 := by simpa [s22] using hf 0 _ rfl
  have h1 : DataW.trod enc Tryz.prog W 0 sp held n 23 [c1] = some x1 := by simpa [s23] using hf 1 _ rfl
  obtain ⟨A9, k9, fs, e0, l9, g9, hg⟩ := open_row (R := k30.K W) (Good := fun f : S30 => f.f0.size ≤ 9223372036854775807 ∧ SzT f.f2) Tryz.underlying22 s30 (fun k hk cs' y hy => read30 (fun k' hk' cs x h => read28 k' cs x h) hy) h0
  obtain ⟨A12, k12, ms, e1, l12, g12, _⟩ := open_row (R := k73.K W) (Good := fun _ => True) Tryz.underlying23 s73 (fun _ _ cs' y hy => read73 hy) h1
  obtain rfl : c0 = .slice A9 fs.length k9 := by simpa using e0
  obtain rfl : c1 = .slice A12 ms.length k12 := by simpa using e1
  exact ⟨fs, ms, A9, k9, A12, k12, rfl, l9, g9, l12, g12, hg⟩
end
end Go.Proofs.YteebgnhhjlgnjaaGreatDoor.V
