/- Written by a program of mine over the kit's print program, turned at a few places (variables of one cell in memory; deferred closures): each Go function as a Lean function, with the proof of its call. -/
import Derived.Test.YticieelobdfloaaDoorProg
import Derived.Below
import Derived.Deep.Draws
import Derived.Deep.AppendLies
import Derived.Maps.AppendAt
import Derived.OwnWalk
import Derived.Laws.BytesArg
import Derived.Laws.MakeOwn
import Derived.Laws.OwnMore
import Derived.Deep.OwnRows
import Derived.Tactics
import Derived.Lib.ConvBytes
import Derived.Laws.Slices
import Derived.WalkKit
import Derived.KernelRfl
import Derived.RowKit3
import Derived.Deep.LoopGhost
import Derived.Deep.QuietTactic
import Derived.BigQuiet
import Derived.WideLaws
import Derived.Deep.DeepCutAuto
import Derived.Deep.CutBlock
import Derived.Deep.RegionHeld3
import Derived.Laws.Rows
import Derived.Lib.AppendStr
import Derived.ArgAppend
import Derived.Laws.IdiomCopy
import Derived.OrdersHeld
import Derived.Laws.BitsLemmas
import Derived.RowKit
import Derived.Test.YticieelobdfloaaDoorAid
import Derived.Test.YticieelobdfloaaDoorQSetRangeIdle
import Derived.Test.YticieelobdfloaaDoorQSetRangeGlob
import Derived.Test.YticieelobdfloaaDoorWWords
import Derived.Test.YticieelobdfloaaDoorWLast
import Derived.Test.YticieelobdfloaaDoorWTab
import Derived.Test.YticieelobdfloaaDoorWFour
import Derived.Test.YticieelobdfloaaDoorWQPut
import Derived.Test.YticieelobdfloaaDoorWApart
import Derived.Test.YticieelobdfloaaDoorWArr
import Derived.Test.YticieelobdfloaaDoorWZeros
import Derived.Test.YticieelobdfloaaDoorWFoot
import Derived.Test.YticieelobdfloaaDoorWKept
import Derived.Test.YticieelobdfloaaDoorWShare
import Derived.Test.YticieelobdfloaaDoorWN
import Derived.Test.YticieelobdfloaaDoorWFootNe
import Derived.Test.YticieelobdfloaaDoorWAt
import Derived.Test.YticieelobdfloaaDoorWEqStruct
import Derived.Test.YticieelobdfloaaDoorWRepsOne
import Derived.Test.YticieelobdfloaaDoorWInv
import Derived.Test.YticieelobdfloaaDoorWInvWords
import Derived.Test.YticieelobdfloaaDoorWGuard
import Derived.Test.YticieelobdfloaaDoorWNEv
import Derived.Test.YticieelobdfloaaDoorWMore
namespace Go.Proofs.YticieelobdfloaaDoor.QSetRange
open Go.RowKit Go.Proofs.YticieelobdfloaaDoorW.PrintWords Go.Proofs.YticieelobdfloaaDoorW.PrintLast Go.Proofs.YticieelobdfloaaDoorW.PrintMore
attribute [local go_sem] max2_int min2_int max_two min_two max_three min_three max_four min_four   -- for this text's walks alone
set_option linter.unusedVariables false
set_option linter.unusedSimpArgs false



def errW : Option Int → Value
  | none => .nilIface
  | some c => .iface 0 (.int .i64 c)
theorem errW_none : errW none = .nilIface := rfl
theorem errW_some (c : Int) : errW (some c) = .iface 0 (.int .i64 c) := rfl

theorem info4 : (Tryd.prog.info? 4).map (fun i => (i.zero, i.size, i.bytes)) = some (some (.bool false), 1, 1) := by kernel_rfl
theorem info5 : (Tryd.prog.info? 5).map (fun i => (i.zero, i.size, i.bytes)) = some (some (.int .u8 0), 1, 1) := by kernel_rfl
-- the values' own types

end Go.Proofs.YticieelobdfloaaDoor.QSetRange
