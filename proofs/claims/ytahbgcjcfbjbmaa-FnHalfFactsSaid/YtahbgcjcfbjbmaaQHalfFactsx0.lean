/- Written by a program of mine over the kit's print program, turned at a few places (variables of one cell in memory; deferred closures): each Go function as a Lean function, with the proof of its call. -/
import Derived.Test.YtahbgcjcfbjbmaaProg
import Derived.Below
import Derived.Deep.Draws
import Derived.Deep.AppendLies
import Derived.Maps.AppendAt
import Derived.OwnWalk
import Derived.Laws.BytesArg
import Derived.Laws.MakeOwn
import Derived.Laws.OwnMore
import Derived.Deep.OwnRows
import Derived.Tactics
import Derived.Lib.ConvBytes
import Derived.Laws.Slices
import Derived.WalkKit
import Derived.KernelRfl
import Derived.RowKit3
import Derived.Deep.LoopGhost
import Derived.Deep.QuietTactic
import Derived.BigQuiet
import Derived.WideLaws
import Derived.Deep.DeepCutAuto
import Derived.Deep.CutBlock
import Derived.Deep.RegionHeld3
import Derived.Laws.Rows
import Derived.Lib.AppendStr
import Derived.ArgAppend
import Derived.Laws.IdiomCopy
import Derived.OrdersHeld
import Derived.Laws.BitsLemmas
import Derived.RowKit
import Derived.Test.YtahbgcjcfbjbmaaAid
import Derived.Test.YtahbgcjcfbjbmaaQHalfFactsIdle
import Derived.Test.YtahbgcjcfbjbmaaWWords
import Derived.Test.YtahbgcjcfbjbmaaWLast
import Derived.Test.YtahbgcjcfbjbmaaWTab
import Derived.Test.YtahbgcjcfbjbmaaWFour
import Derived.Test.YtahbgcjcfbjbmaaWQPut
import Derived.Test.YtahbgcjcfbjbmaaWApart
import Derived.Test.YtahbgcjcfbjbmaaWArr
import Derived.Test.YtahbgcjcfbjbmaaWZeros
import Derived.Test.YtahbgcjcfbjbmaaWFoot
import Derived.Test.YtahbgcjcfbjbmaaWKept
import Derived.Test.YtahbgcjcfbjbmaaWShare
import Derived.Test.YtahbgcjcfbjbmaaWN
import Derived.Test.YtahbgcjcfbjbmaaWFootNe
import Derived.Test.YtahbgcjcfbjbmaaWAt
import Derived.Test.YtahbgcjcfbjbmaaWEqStruct
import Derived.Test.YtahbgcjcfbjbmaaWRepsOne
import Derived.Test.YtahbgcjcfbjbmaaWInv
import Derived.Test.YtahbgcjcfbjbmaaWInvWords
import Derived.Test.YtahbgcjcfbjbmaaWGuard
import Derived.Test.YtahbgcjcfbjbmaaWNEv
import Derived.Test.YtahbgcjcfbjbmaaWMore
namespace Go.Proofs.Ytahbgcjcfbjbmaa.QHalfFacts
open Go.RowKit Go.Proofs.YtahbgcjcfbjbmaaW.PrintWords Go.Proofs.YtahbgcjcfbjbmaaW.PrintLast Go.Proofs.YtahbgcjcfbjbmaaW.PrintMore
attribute [local go_sem] max2_int min2_int max_two min_two max_three min_three max_four min_four   -- for this text's walks alone
set_option linter.unusedVariables false
set_option linter.unusedSimpArgs false



def errW : Option Int → Value
  | none => .nilIface
  | some c => .iface 0 (.int .i64 c)
theorem errW_none : errW none = .nilIface := rfl
theorem errW_some (c : Int) : errW (some c) = .iface 0 (.int .i64 c) := rfl

-- the values' own types

end Go.Proofs.Ytahbgcjcfbjbmaa.QHalfFacts
