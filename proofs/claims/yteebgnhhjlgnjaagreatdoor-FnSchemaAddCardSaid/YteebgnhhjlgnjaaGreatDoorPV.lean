/- The steps of a drawn region over a table of checks. -/
import Derived.Test.YteebgnhhjlgnjaaGreatDoorD0
namespace Go.Proofs.YteebgnhhjlgnjaaGreatDoor.V
open Go.RowKit Go.Proofs.YteebgnhhjlgnjaaGreatDoorW.PrintWords Go.Proofs.YteebgnhhjlgnjaaGreatDoorW.PrintLast Go.Proofs.YteebgnhhjlgnjaaGreatDoorW.PrintMore
set_option maxHeartbeats 40000000
set_option maxRecDepth 100000
set_option linter.unusedVariables false
set_option linter.unusedSimpArgs false
section
variable {P : Program} {md : Region.Mode} {ops : Array Oper} {Q : Exit → Act → World → Prop} {S : World → Prop} {ds : List Nat} {n m fuel : Nat} {oi : Oper} {v : Value} {a a' : Act} {w : World} {l : Array Bool}
theorem pv (i N : Nat) (l' : Array Bool) (hc : anyB md ops l l' i = true) (h : wpAnyLast P md ops Q S ds fuel l' a' w) (hi : ops[i]? = some oi := by exact rfl) (hN : oi.dst = some N := by exact rfl)
 (hQ : ∀ c a w, Q (.panic c) (a.put oi.dst v) w → Q (.panic c) a w := by exact fun _ _ _ h => h) (hw : Region.wanted oi (yielded ops a.tmps) = true := by rfl)
 (hy : ∀ w, (execOp a.eval oi).run P w = .ok (.value v) w := by intro w'; go_simp; with_reducible rfl) (ha : a.put (some N) v = a' := by simp only [Act.put, s1_, s2_, s3_, i64_w, i32_w]; rfl) :
 wpAnyLast P md ops Q S ds (fuel + 1) l a w :=
 pure_ _ hi hN hc hQ (Or.inl ⟨hw, hy⟩) ha h
theorem ov (i N : Nat) (l' : Array Bool) (hc : anyB md ops l l' i = true) (h : wpAnyLast P md ops Q S ds fuel l' a' w) (hi : ops[i]? = some oi := by exact rfl) (hN : oi.dst = some N := by exact rfl)
 (hQ : ∀ c a w, Q (.panic c) (a.put oi.dst undef) w → Q (.panic c) a w := by exact fun _ _ _ h => h) (hw : Region.wanted oi (yielded ops a.tmps) = false := by rfl)
 (ha : a.put (some N) undef = a' := by simp only [Act.put, s1_, s2_, s3_, i64_w, i32_w]; rfl) : wpAnyLast P md ops Q S ds (fuel + 1) l a w :=
 pure_ _ hi hN hc hQ (Or.inr ⟨hw, rfl⟩) ha h
theorem tv (i N : Nat) (l' : Array Bool) (hc : takeB md ops ds l l' i = true) (h : wpAnyLast P md ops Q S ds fuel l' a' w) (hi : ops[i]? = some oi := by exact rfl) (hN : oi.dst = some N := by exact rfl)
 (hQ : ∀ c a w, Q (.panic c) (a.put oi.dst v) w → Q (.panic c) a w := by exact fun _ _ _ h => h) (hw : Region.wanted oi (yielded ops a.tmps) = true := by rfl)
 (hy : ∀ w, S w → (execOp a.eval oi).run P w = .ok (.value v) w := by intro w' hs; repeat (obtain ⟨_, hs⟩ := hs); go_simp; with_reducible rfl) (hS : S w := by assumption) (ha : a.put (some N) v = a' := by simp only [Act.put, s1_, s2_, s3_, i64_w, i32_w]; rfl) :
 wpAnyLast P md ops Q S ds (fuel + 1) l a w :=
 take_ _ hi hN hc hQ (Or.inl ⟨hw, hy⟩) hS ha h
end
end Go.Proofs.YteebgnhhjlgnjaaGreatDoor.V
