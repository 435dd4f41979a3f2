/- Printed by a program of mine: each deferred closure of this seat's functions finds nothing to recover on a way that returns. -/
import Derived.Test.YticieelobdfloaaDoorProg
import Derived.Test.YticieelobdfloaaDoorAid
import Derived.WalkKit
namespace Go.Proofs.YticieelobdfloaaDoor.QSetRange
open Go.RowKit

theorem idle23 (x0 : Value) : Aid.Idle Tryd.prog 23 #[x0] := ⟨fun w => by
  refine callsD_of_wpS Tryd.func23 rfl fun c₀ cs hu => ?_
  apply wpS_seq
  apply wpS_region
  simp [wpOpsS, go_sem, recoverD, hu, Tryd.ntmps23, Exit.thenS]
  refine wpS_cond (t := false) (by simp [Act.eval, Array.replicate]) ?_
  simp only [Bool.false_eq_true, if_false]
  refine wpS_of_wp (wp_skip ?_)
  cases c₀
  simp_all [bodyPostS, results, Tryd.results23]⟩

end Go.Proofs.YticieelobdfloaaDoor.QSetRange
