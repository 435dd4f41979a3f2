/- Words for package-level arrays of whole numbers that a row lists with what they hold. No program in sight. -/
import Derived.Test.YticieelobdfloaaDoorWWords
import Derived.Lib.LaidU8
import Derived.MakeChecks
import Derived.OpenVars
namespace Go.Proofs.YticieelobdfloaaDoor.Laid
open Go.RowKit Go.Proofs.YticieelobdfloaaDoorW.PrintWords

theorem tab_reads {P : Program} {W : World} {n : String} {k : IntKind} {zs : List Int} {g : Nat} {t e : TypeId} {m : Nat}
    (hg : P.globalNamed n = some g) (hty : (P.globals[g]?).map (·.type) = some t) (ht : P.underlying t = some (.array m e)) (he : P.underlying e = some (.int k)) (hce : P.cellsOf e = 1) (hct : P.cellsOf t = m)
    (hz : zs.length ≤ 9223372036854775807) (h : Lib.VarReads P W n (Lib.tabData k zs)) : (Kd.int k).C W (some ⟨g, 0, none⟩) zs.length zs := by
  obtain ⟨g', t', cs, fuel, p, hg', ht', hvar, hd⟩ := h
  obtain rfl := Option.some.inj (hg.symm.trans hg')
  obtain rfl := Option.some.inj (hty.symm.trans ht')
  have hT : Lib.TabIs P W n k zs := by
    unfold Lib.TabIs
    rw [hvar, ← Lib.cells_of_tab ht he hce hct hd]
  refine Kd.C_of_reads (d := (0 : Int)) (h1 := fun _ => rfl) ⟨rfl, hz, fun _ => ⟨_, rfl, fun j hj => ?_⟩⟩
  have := hT.cell hg j hj
  by_cases h0 : j = 0
  · subst h0; simpa [Addr.add] using this
  · simpa [Addr.add, h0] using this

end Go.Proofs.YticieelobdfloaaDoor.Laid
