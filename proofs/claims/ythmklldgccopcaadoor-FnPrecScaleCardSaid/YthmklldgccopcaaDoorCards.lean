/-
  DERIVED. GIVEN WITH THE SEED: THE CARDS: each row of YthmklldgccopcaaDoorRows.lean that lists a variable, with what it lists TIED to the program's text (the seventh form; the later family's looks); each row that meets fmt, with fmt's text TOLD by the authors' own Lean function (tested against real Go, not proved from fmt's source: count such statements apart). THE CARD IS WHAT COUNTS. Prove the row's statement (the work); the ties are given (YthmklldgccopcaaDoorTie.lean); close each card by the builder's one call (the guide's Derived/Test/ToyasCard.lean, 'card_holds'). Laid BY PROGRAM, IN A SANDBOX (cutbox-door.mjs). By AI agents, Wed Nov 11 2026. No macro, syntax, notation, axiom, sorry.
-/
import Derived.Test.YthmklldgccopcaaDoorRows
import GoSem.ClaimSeven
namespace Go.Proofs.YthmklldgccopcaaDoor
namespace Rows

/-- THE TIED CARD OF 'laws.FnPrecScale'. -/
def fnPrecScaleCard : Claim7 := { stood := { row := fnPrecScaleRow, standIns := [], harness := (true, "bc979aca681a522f6da0061d38cccb1933d9124441c0d960cc7cbd7ff48e40ae"), looks := true }, kinds := [], alts := [], laidByText := true, laidKinds := [.data, .data, .data, .sentinel, .sentinel], laidTests := true, laidLooks := .later }
def FnPrecScaleCardSaid : Prop := Claim7.holds Tryd.pinned (.plain (OpenSpec.ofChange fnPrecScaleSpec)) fnPrecScaleCard

/-- THE SECOND FORM's CARD OF 'laws.FnPrecScale'. -/
def fnPrecScaleUptoCard : Claim7 := { stood := { row := fnPrecScaleUptoRow, standIns := [], harness := (true, "bc979aca681a522f6da0061d38cccb1933d9124441c0d960cc7cbd7ff48e40ae"), looks := true }, kinds := [], alts := [], laidByText := true, laidKinds := [.data, .data, .data, .sentinel, .sentinel], laidTests := true, laidLooks := .later }
def FnPrecScaleUptoCardSaid : Prop := Claim7.holds Tryd.pinned (.plain (OpenSpec.upto fnPrecScaleSpec)) fnPrecScaleUptoCard
end Rows
end Go.Proofs.YthmklldgccopcaaDoor
