/- The head of the printed texts (the kit's print.py wrote it, called with the three laws as roots): rows of the table of types. -/
import Derived.Test.YtgpoplfgngiilaaGreatDoorProg
import Derived.Below
import Derived.Deep.Draws
import Derived.Deep.AppendLies
import Derived.Maps.AppendAt
import Derived.OwnWalk
import Derived.Laws.BytesArg
import Derived.Laws.MakeOwn
import Derived.Laws.OwnMore
import Derived.Deep.OwnRows
import Derived.Tactics
import Derived.Lib.ConvBytes
import Derived.Laws.Slices
import Derived.WalkKit
import Derived.KernelRfl
import Derived.RowKit3
import Derived.Deep.LoopGhost
import Derived.Deep.QuietTactic
import Derived.BigQuiet
import Derived.WideLaws
import Derived.Deep.DeepCutAuto
import Derived.Deep.CutBlock
import Derived.Deep.RegionHeld3
import Derived.Laws.Rows
import Derived.Lib.AppendStr
import Derived.ArgAppend
import Derived.Laws.IdiomCopy
import Derived.OrdersHeld
import Derived.Laws.BitsLemmas
import Derived.RowKit
import Derived.Test.YtgpoplfgngiilaaGreatDoorWWords
import Derived.Test.YtgpoplfgngiilaaGreatDoorWLast
import Derived.Test.YtgpoplfgngiilaaGreatDoorWTab
import Derived.Test.YtgpoplfgngiilaaGreatDoorWFour
import Derived.Test.YtgpoplfgngiilaaGreatDoorWQPut
import Derived.Test.YtgpoplfgngiilaaGreatDoorWApart
import Derived.Test.YtgpoplfgngiilaaGreatDoorWArr
import Derived.Test.YtgpoplfgngiilaaGreatDoorWZeros
import Derived.Test.YtgpoplfgngiilaaGreatDoorWFoot
import Derived.Test.YtgpoplfgngiilaaGreatDoorWKept
import Derived.Test.YtgpoplfgngiilaaGreatDoorWShare
import Derived.Test.YtgpoplfgngiilaaGreatDoorWN
import Derived.Test.YtgpoplfgngiilaaGreatDoorWFootNe
import Derived.Test.YtgpoplfgngiilaaGreatDoorWAt
import Derived.Test.YtgpoplfgngiilaaGreatDoorWEqStruct
import Derived.Test.YtgpoplfgngiilaaGreatDoorWRepsOne
import Derived.Test.YtgpoplfgngiilaaGreatDoorWInv
import Derived.Test.YtgpoplfgngiilaaGreatDoorWInvWords
import Derived.Test.YtgpoplfgngiilaaGreatDoorWGuard
import Derived.Test.YtgpoplfgngiilaaGreatDoorWNEv
import Derived.Test.YtgpoplfgngiilaaGreatDoorWMore
namespace Go.Proofs.YtgpoplfgngiilaaGreatDoor.PAll
open Go.RowKit Go.Proofs.YtgpoplfgngiilaaGreatDoorW.PrintWords Go.Proofs.YtgpoplfgngiilaaGreatDoorW.PrintLast Go.Proofs.YtgpoplfgngiilaaGreatDoorW.PrintMore
attribute [local go_sem] max2_int min2_int max_two min_two max_three min_three max_four min_four   -- for this text's walks alone
set_option linter.unusedVariables false
set_option linter.unusedSimpArgs false



def errW : Option Int → Value
  | none => .nilIface
  | some c => .iface 176 (.int .i64 c)
theorem errW_none : errW none = .nilIface := rfl
theorem errW_some (c : Int) : errW (some c) = .iface 176 (.int .i64 c) := rfl

theorem info3 : (Tryz.prog.info? 3).map (fun i => (i.zero, i.size, i.bytes)) = some (some (.int .i64 0), 1, 8) := by kernel_rfl
theorem info5 : (Tryz.prog.info? 5).map (fun i => (i.zero, i.size, i.bytes)) = some (some (.int .u8 0), 1, 1) := by kernel_rfl
theorem info50 : (Tryz.prog.info? 50).map (fun i => (i.zero, i.size, i.bytes)) = some (some (.int .u64 0), 1, 8) := by kernel_rfl
theorem info167 : (Tryz.prog.info? 167).map (fun i => (i.zero, i.size, i.bytes)) = some (some (.int .u64 0), 1, 8) := by kernel_rfl
-- the values' own types

end Go.Proofs.YtgpoplfgngiilaaGreatDoor.PAll
