/-
  DERIVED. GIVEN WITH THE SEED: THE CARDS: each row of YtbfbpkcepchldaaDoorRows.lean that lists a variable, with what it lists TIED to the program's text (the seventh form; the later family's looks); each row that meets fmt, with fmt's text TOLD by the authors' own Lean function (tested against real Go, not proved from fmt's source: count such statements apart). THE CARD IS WHAT COUNTS. Prove the row's statement (the work); the ties are given (YtbfbpkcepchldaaDoorTie.lean); close each card by the builder's one call (the guide's Derived/Test/ToyasCard.lean, 'card_holds'). Laid BY PROGRAM, IN A SANDBOX (cutbox-door.mjs). By AI agents, Wed Nov 11 2026. No macro, syntax, notation, axiom, sorry.
-/
import Derived.Test.YtbfbpkcepchldaaDoorRows
import GoSem.ClaimSeven
namespace Go.Proofs.YtbfbpkcepchldaaDoor
namespace Rows

/-- THE TIED CARD OF 'laws.FnBlocksOf'. -/
def fnBlocksOfCard : Claim7 := { stood := { row := fnBlocksOfRow, standIns := [], harness := (true, "f3dda3d9e518941e8393cd720e40dae7583f5050f262e3e935d2a3233fec01cf"), looks := false }, kinds := [], alts := [], laidByText := true, laidKinds := [.data], laidTests := true, laidLooks := .later }
def FnBlocksOfCardSaid : Prop := Claim7.holds Tryd.pinned (.plain (OpenSpec.ofChange fnBlocksOfSpec)) fnBlocksOfCard

/-- THE SECOND FORM's CARD OF 'laws.FnBlocksOf'. -/
def fnBlocksOfUptoCard : Claim7 := { stood := { row := fnBlocksOfUptoRow, standIns := [], harness := (true, "f3dda3d9e518941e8393cd720e40dae7583f5050f262e3e935d2a3233fec01cf"), looks := false }, kinds := [], alts := [], laidByText := true, laidKinds := [.data], laidTests := true, laidLooks := .later }
def FnBlocksOfUptoCardSaid : Prop := Claim7.holds Tryd.pinned (.plain (OpenSpec.upto fnBlocksOfSpec)) fnBlocksOfUptoCard
end Rows
end Go.Proofs.YtbfbpkcepchldaaDoor
