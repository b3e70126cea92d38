import Derived.Test.YthgbfmcicpmepaaDoorProg
import Derived.Below
import Derived.Deep.Draws
import Derived.Deep.AppendLies
import Derived.Maps.AppendAt
import Derived.OwnWalk
import Derived.Laws.BytesArg
import Derived.Laws.MakeOwn
import Derived.Laws.OwnMore
import Derived.Deep.OwnRows
import Derived.Tactics
import Derived.Lib.ConvBytes
import Derived.Laws.Slices
import Derived.WalkKit
import Derived.KernelRfl
import Derived.RowKit3
import Derived.Deep.LoopGhost
import Derived.Deep.QuietTactic
import Derived.BigQuiet
import Derived.WideLaws
import Derived.Deep.DeepCutAuto
import Derived.Deep.CutBlock
import Derived.Deep.RegionHeld3
import Derived.Laws.Rows
import Derived.Lib.AppendStr
import Derived.ArgAppend
import Derived.Laws.IdiomCopy
import Derived.OrdersHeld
import Derived.Laws.BitsLemmas
import Derived.RowKit
import Derived.Test.YthgbfmcicpmepaaDoorK1
namespace Go.Proofs.YthgbfmcicpmepaaDoor.V
open Go.RowKit Go.Proofs.YthgbfmcicpmepaaDoorW.PrintWords Go.Proofs.YthgbfmcicpmepaaDoorW.PrintLast Go.Proofs.YthgbfmcicpmepaaDoorW.PrintMore
attribute [local go_sem] max2_int min2_int max_two min_two max_three min_three max_four min_four
set_option linter.unusedVariables false
set_option linter.unusedSimpArgs false



def errW : Option Int → Value
  | none => .nilIface
  | some c => .iface 0 (.int .i64 c)
theorem errW_none : errW none = .nilIface := rfl
theorem errW_some (c : Int) : errW (some c) = .iface 0 (.int .i64 c) := rfl

theorem info4 : (Tryd.prog.info? 4).map (fun i => (i.zero, i.size, i.bytes)) = some (some (.bool false), 1, 1) := by kernel_rfl
theorem info5 : (Tryd.prog.info? 5).map (fun i => (i.zero, i.size, i.bytes)) = some (some (.int .u8 0), 1, 1) := by kernel_rfl

abbrev s1_ := @List.setIfInBounds_toArray
abbrev s2_ := @List.set_cons_zero
abbrev s3_ := @List.set_cons_succ
abbrev b1_ := @below_alloc
abbrev b2_ := @pw_below_drewN
abbrev b3_ := @below_drew1
abbrev b4_ := @below_set
abbrev k1_ := @blk_drewN
abbrev k2_ := @blk_drew
abbrev k3_ := @blk_alloc
abbrev v1_ := @Kd.V_alloc
abbrev v2_ := @Kd.V_drewN
abbrev v3_ := @Kd.V_drew
abbrev v4_ := @Kd.V_mono
abbrev v5_ := @Kd.V_far
abbrev r1_ := @Kd.R_alloc
abbrev r2_ := @Kd.R_drewN
abbrev r3_ := @Kd.R_drew
abbrev a0_ := @Aside0.mk
abbrev o1_ := @Option.some.inj
abbrev o2_ := @Option.bind_some
abbrev d1_ := @of_decide_eq_true
abbrev d2_ := @decide_eq_true
abbrev d3_ := @decide_eq_false
abbrev e1_ := @errW_none
abbrev e2_ := @errW_some

end Go.Proofs.YthgbfmcicpmepaaDoor.V
