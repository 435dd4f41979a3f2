/- Printed by a program of mine: each deferred closure of this seat's functions finds nothing to recover on a way that returns. -/
import Derived.Test.YticieelobdfloaaProg
import Derived.Test.YticieelobdfloaaAid
import Derived.WalkKit
namespace Go.Proofs.Yticieelobdfloaa.QMeta
open Go.RowKit

theorem idle18 (x0 x1 x2 x3 : Value) : Aid.Idle Try.prog 18 #[x0, x1, x2, x3] := ⟨fun w => by
  refine callsD_of_wpS Try.func18 rfl fun c₀ cs hu => ?_
  apply wpS_seq
  apply wpS_region
  simp [wpOpsS, go_sem, recoverD, hu, Try.ntmps18, Exit.thenS]
  refine wpS_cond (t := false) (by simp [Act.eval, Array.replicate]) ?_
  simp only [Bool.false_eq_true, if_false]
  refine wpS_of_wp (wp_skip ?_)
  cases c₀
  simp_all [bodyPostS, results, Try.results18]⟩

end Go.Proofs.Yticieelobdfloaa.QMeta
