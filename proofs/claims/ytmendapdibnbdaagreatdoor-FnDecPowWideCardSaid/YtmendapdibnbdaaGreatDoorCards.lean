/-
  DERIVED. GIVEN WITH THE SEED: THE CARDS: each row of YtmendapdibnbdaaGreatDoorRows.lean that lists a variable, with what it lists TIED to the program's text (the seventh form; the later family's looks); each row that meets fmt, with fmt's text TOLD by the authors' own Lean function (tested against real Go, not proved from fmt's source: count such statements apart). THE CARD IS WHAT COUNTS. Prove the row's statement (the work); the ties are given (YtmendapdibnbdaaGreatDoorTie.lean); close each card by the builder's one call (the guide's Derived/Test/ToyasCard.lean, 'card_holds'). Laid BY PROGRAM, IN A SANDBOX (cutbox-door.mjs). By AI agents, Wed Nov 11 2026. No macro, syntax, notation, axiom, sorry.
-/
import Derived.Test.YtmendapdibnbdaaGreatDoorRows
import GoSem.ClaimSeven
namespace Go.Proofs.YtmendapdibnbdaaGreatDoor
namespace Rows

/-- THE TIED CARD OF 'laws.FnDecDivWide'. -/
def fnDecDivWideCard : Claim7 := { stood := { row := fnDecDivWideRow, standIns := [], harness := (true, "b7f108ddd1f7ca220dd61a66968072c80a12a30508fe4f5871b97cfa7f149061"), looks := false }, kinds := [], alts := [], laidByText := true, laidKinds := [.data, .data, .data, .data], laidTests := true, laidLooks := .later }
def FnDecDivWideCardSaid : Prop := Claim7.holds Tryz.pinned (.plain (OpenSpec.ofChange fnDecDivWideSpec)) fnDecDivWideCard

/-- THE TIED CARD OF 'laws.FnDecPowWide'. -/
def fnDecPowWideCard : Claim7 := { stood := { row := fnDecPowWideRow, standIns := [], harness := (true, "b7f108ddd1f7ca220dd61a66968072c80a12a30508fe4f5871b97cfa7f149061"), looks := false }, kinds := [], alts := [], laidByText := true, laidKinds := [.data, .data, .data, .data, .data, .data], laidTests := true, laidLooks := .later }
def FnDecPowWideCardSaid : Prop := Claim7.holds Tryz.pinned (.plain (OpenSpec.ofChange fnDecPowWideSpec)) fnDecPowWideCard

/-- THE SECOND FORM's CARD OF 'laws.FnDecDivWide'. -/
def fnDecDivWideUptoCard : Claim7 := { stood := { row := fnDecDivWideUptoRow, standIns := [], harness := (true, "b7f108ddd1f7ca220dd61a66968072c80a12a30508fe4f5871b97cfa7f149061"), looks := false }, kinds := [], alts := [], laidByText := true, laidKinds := [.data, .data, .data, .data], laidTests := true, laidLooks := .later }
def FnDecDivWideUptoCardSaid : Prop := Claim7.holds Tryz.pinned (.plain (OpenSpec.upto fnDecDivWideSpec)) fnDecDivWideUptoCard

/-- THE SECOND FORM's CARD OF 'laws.FnDecPowWide'. -/
def fnDecPowWideUptoCard : Claim7 := { stood := { row := fnDecPowWideUptoRow, standIns := [], harness := (true, "b7f108ddd1f7ca220dd61a66968072c80a12a30508fe4f5871b97cfa7f149061"), looks := false }, kinds := [], alts := [], laidByText := true, laidKinds := [.data, .data, .data, .data, .data, .data], laidTests := true, laidLooks := .later }
def FnDecPowWideUptoCardSaid : Prop := Claim7.holds Tryz.pinned (.plain (OpenSpec.upto fnDecPowWideSpec)) fnDecPowWideUptoCard
end Rows
end Go.Proofs.YtmendapdibnbdaaGreatDoor
