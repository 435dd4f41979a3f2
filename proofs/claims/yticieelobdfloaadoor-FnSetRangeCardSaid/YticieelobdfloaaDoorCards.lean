/-
  DERIVED. GIVEN WITH THE SEED: THE CARDS: each row of YticieelobdfloaaDoorRows.lean that lists a variable, with what it lists TIED to the program's text (the seventh form; the later family's looks); each row that meets fmt, with fmt's text TOLD by the authors' own Lean function (tested against real Go, not proved from fmt's source: count such statements apart). THE CARD IS WHAT COUNTS. Prove the row's statement (the work); the ties are given (YticieelobdfloaaDoorTie.lean); close each card by the builder's one call (the guide's Derived/Test/ToyasCard.lean, 'card_holds'). Laid BY PROGRAM, IN A SANDBOX (cutbox-door.mjs). By AI agents, Wed Nov 11 2026. No macro, syntax, notation, axiom, sorry.
-/
import Derived.Test.YticieelobdfloaaDoorRows
import GoSem.ClaimSeven
namespace Go.Proofs.YticieelobdfloaaDoor
namespace Rows

/-- THE TIED CARD OF 'laws.FnTouched'. -/
def fnTouchedCard : Claim7 := { stood := { row := fnTouchedRow, standIns := [], harness := (true, "12375ab339baf34791de0f55798bdc2a645b45160dec8c22ef8ca11ed60d52a7"), looks := false }, kinds := [], alts := [], laidByText := true, laidKinds := [.data, .data], laidTests := true, laidLooks := .later }
def FnTouchedCardSaid : Prop := Claim7.holds Tryd.pinned (.plain (OpenSpec.ofChange fnTouchedSpec)) fnTouchedCard

/-- THE TIED CARD OF 'laws.FnSetRange'. -/
def fnSetRangeCard : Claim7 := { stood := { row := fnSetRangeRow, standIns := [], harness := (true, "12375ab339baf34791de0f55798bdc2a645b45160dec8c22ef8ca11ed60d52a7"), looks := false }, kinds := [], alts := [], laidByText := true, laidKinds := [.data, .data], laidTests := true, laidLooks := .later }
def FnSetRangeCardSaid : Prop := Claim7.holds Tryd.pinned (.plain (OpenSpec.ofChange fnSetRangeSpec)) fnSetRangeCard

/-- THE SECOND FORM's CARD OF 'laws.FnTouched'. -/
def fnTouchedUptoCard : Claim7 := { stood := { row := fnTouchedUptoRow, standIns := [], harness := (true, "12375ab339baf34791de0f55798bdc2a645b45160dec8c22ef8ca11ed60d52a7"), looks := false }, kinds := [], alts := [], laidByText := true, laidKinds := [.data, .data], laidTests := true, laidLooks := .later }
def FnTouchedUptoCardSaid : Prop := Claim7.holds Tryd.pinned (.plain (OpenSpec.upto fnTouchedSpec)) fnTouchedUptoCard

/-- THE SECOND FORM's CARD OF 'laws.FnSetRange'. -/
def fnSetRangeUptoCard : Claim7 := { stood := { row := fnSetRangeUptoRow, standIns := [], harness := (true, "12375ab339baf34791de0f55798bdc2a645b45160dec8c22ef8ca11ed60d52a7"), looks := false }, kinds := [], alts := [], laidByText := true, laidKinds := [.data, .data], laidTests := true, laidLooks := .later }
def FnSetRangeUptoCardSaid : Prop := Claim7.holds Tryd.pinned (.plain (OpenSpec.upto fnSetRangeSpec)) fnSetRangeUptoCard
end Rows
end Go.Proofs.YticieelobdfloaaDoor
