/- arrow.TypeEqual of all types that are asked. -/
import Derived.Test.YteebgnhhjlgnjaaGreatDoorTE
import Derived.Test.YteebgnhhjlgnjaaGreatDoorTU
import Derived.Test.YteebgnhhjlgnjaaGreatDoorDP
import Derived.Test.YteebgnhhjlgnjaaGreatDoorSS
namespace Go.Proofs.YteebgnhhjlgnjaaGreatDoor.V
open Go.RowKit Go.Proofs.YteebgnhhjlgnjaaGreatDoorW.PrintWords Go.Proofs.YteebgnhhjlgnjaaGreatDoorW.PrintLast Go.Proofs.YteebgnhhjlgnjaaGreatDoorW.PrintMore
set_option maxHeartbeats 40000000
set_option maxRecDepth 100000
set_option linter.unusedVariables false
set_option linter.unusedSimpArgs false
theorem teC : ∀ n, TeC n
 | 0 => fun T T' d d' v v' w ok ok' A m h => h.elim
 | n + 1 => fun T T' d d' v v' w ok ok' A m h h' hI hI' hdis hO => by
  by_cases hu : tyN d = 224 ∨ tyN d = 226
  ·exact teU n (dpC (n + 1)) (teC n) (fe30 n (teC n)) T T' d d' v v' w ok ok' A m h h' hI hI' hdis hO hu
  ·exact te35 n (dpC (n + 1)) (teC n) (fe30 n (teC n)) T T' d d' v v' w ok ok' A m h h' hI hI' hdis hO hu
def tBool : S28 := ⟨6, 0, false, 0, 0, 0, emp, false, [], []⟩
theorem td_bool : TD 1 tBool (.zero 104) := TDs.zero 6 0 false 0 104 (by decide)
theorem sm19C : ∀ (n : Nat) (T T' : S28) (d d' : DT), TD n T d → TD n T' d' → SmC T T'
 | 0, T, T', d, d', h, _ => h.elim
 | n + 1, T, T', d, d', h, h' => sm19 n (fun T1 T2 d1 d2 h1 h2 => sm19C n T1 T2 d1 d2 h1 h2) T T' d d' h h'
end Go.Proofs.YteebgnhhjlgnjaaGreatDoor.V
