/- The numbers of the types (ID), and == of two of them. -/
import Derived.Test.YteebgnhhjlgnjaaGreatDoorD0
import Derived.LaidEql
import Derived.Handy
import Derived.Stop.Asserts
namespace Go.Proofs.YteebgnhhjlgnjaaGreatDoor.V
open Go.RowKit Go.Proofs.YteebgnhhjlgnjaaGreatDoorW.PrintWords Go.Proofs.YteebgnhhjlgnjaaGreatDoorW.PrintLast Go.Proofs.YteebgnhhjlgnjaaGreatDoorW.PrintMore
set_option maxHeartbeats 40000000
set_option maxRecDepth 100000
set_option linter.unusedVariables false
set_option linter.unusedSimpArgs false
def AsNo (t N : Nat) (v : Value) : Prop := ∀ W, (Instr.typeAssert (.iface t v) 56 N true).run Tryz.prog W = .ok (.tuple #[.pointer none, .bool false]) W
def AsYes (t : Nat) (v : Value) : Prop := ∀ W, (Instr.typeAssert (.iface t v) 56 t true).run Tryz.prog W = .ok (.tuple #[v, .bool true]) W
theorem AsNo.o {u k : Nat} {v : Value} (h : AsNo u k v) (W : World) : (Instr.typeAssert (.iface u v) 56 k true).run Tryz.prog W = .ok (.tuple #[.pointer none, .bool false]) W := h W
end Go.Proofs.YteebgnhhjlgnjaaGreatDoor.V
