/- Bytes as lists. -/
import Derived.Test.YteebgnhhjlgnjaaGreatDoorD0
namespace Go.Proofs.YteebgnhhjlgnjaaGreatDoor.V
open Go.RowKit Go.Proofs.YteebgnhhjlgnjaaGreatDoorW.PrintWords Go.Proofs.YteebgnhhjlgnjaaGreatDoorW.PrintLast Go.Proofs.YteebgnhhjlgnjaaGreatDoorW.PrintMore
set_option maxHeartbeats 40000000
set_option maxRecDepth 100000
set_option linter.unusedVariables false
set_option linter.unusedSimpArgs false
theorem loop_eq (b : ByteArray) : ∀ (d i : Nat) (r : List UInt8), i + d = b.size → ByteArray.toList.loop b i r = r.reverse ++ b.data.toList.drop i
 | 0, i, r, h => by
  unfold ByteArray.toList.loop
  have hs : b.data.toList.length = b.size := Array.length_toList
  rw [if_neg (by omega), List.drop_of_length_le (by omega)]
  simp
 | d + 1, i, r, h => by
  have hs : b.data.toList.length = b.size := Array.length_toList
  unfold ByteArray.toList.loop
  rw [if_pos (by omega), loop_eq b d (i + 1) _ (by omega), List.drop_eq_getElem_cons (i := i) (by omega)]
  have hg : b.get! i = b.data.toList[i]'(by omega) := by
   have h1 : i < b.data.size := by have : b.data.size = b.size := rfl; omega
   show b.data[i]! = _
   rw [getElem!_pos b.data i h1]
   exact (Array.getElem_toList h1).symm
  rw [hg]
  simp
theorem toList_inj {a b : ByteArray} (h : a.toList = b.toList) : a = b := by
 have h1 : ∀ c : ByteArray, c.toList = c.data.toList := fun c => by
  have := loop_eq c c.size 0 [] (by omega)
  show ByteArray.toList.loop c 0 [] = _
  rw [this]
  rfl
 rw [h1, h1] at h
 obtain ⟨x⟩ := a
 obtain ⟨y⟩ := b
 congr
 exact Array.ext' h
end Go.Proofs.YteebgnhhjlgnjaaGreatDoor.V
