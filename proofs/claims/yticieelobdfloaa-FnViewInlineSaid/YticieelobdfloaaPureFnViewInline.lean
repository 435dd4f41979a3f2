/- FnViewInline: over the printed Lean functions of the program, a length from 0 to 2^31 - 1 is told to stand in its view just if it is at most 12; for every int. -/
import Derived.Test.YticieelobdfloaaPFnViewInlinex1
namespace Go.Proofs.Yticieelobdfloaa.Pure
open Go.RowKit Go.Proofs.Yticieelobdfloaa.PFnViewInline Go.Proofs.YticieelobdfloaaW.PrintWords Go.Proofs.YticieelobdfloaaW.PrintLast

theorem FnViewInline : laws_FnViewInline.Pure := by
  intro a0 _
  simp [laws_FnViewInline.f, impl_ViewInline.f, arrow_IsViewInline.f]

end Go.Proofs.Yticieelobdfloaa.Pure
