/-
  DERIVED. GIVEN WITH THE SEED: THE CARDS: each row of YtdchenbdnalbcaaGreatDoorRows.lean that lists a variable, with what it lists TIED to the program's text (the seventh form; the later family's looks); each row that meets fmt, with fmt's text TOLD by the authors' own Lean function (tested against real Go, not proved from fmt's source: count such statements apart). THE CARD IS WHAT COUNTS. Prove the row's statement (the work); the ties are given (YtdchenbdnalbcaaGreatDoorTie.lean); close each card by the builder's one call (the guide's Derived/Test/ToyasCard.lean, 'card_holds'). Laid BY PROGRAM, IN A SANDBOX (cutbox-door.mjs). By AI agents, Wed Nov 11 2026. No macro, syntax, notation, axiom, sorry.
-/
import Derived.Test.YtdchenbdnalbcaaGreatDoorRows
import GoSem.ClaimSeven
namespace Go.Proofs.YtdchenbdnalbcaaGreatDoor
namespace Rows

/-- THE TIED CARD OF 'laws.FnPolygonsFlat'. -/
def fnPolygonsFlatCard : Claim7 := { stood := { row := fnPolygonsFlatRow, standIns := [], harness := (true, "5f69f96221415986face7088829165e432e7e74c2c2004796cf7832e083efb90"), looks := true }, kinds := [], alts := [], laidByText := true, laidKinds := [.data], laidTests := true, laidLooks := .later }
def FnPolygonsFlatCardSaid : Prop := Claim7.holds Tryz.pinned (.plain (OpenSpec.ofChange fnPolygonsFlatSpec)) fnPolygonsFlatCard

/-- THE SECOND FORM's CARD OF 'laws.FnPolygonsFlat'. -/
def fnPolygonsFlatUptoCard : Claim7 := { stood := { row := fnPolygonsFlatUptoRow, standIns := [], harness := (true, "5f69f96221415986face7088829165e432e7e74c2c2004796cf7832e083efb90"), looks := true }, kinds := [], alts := [], laidByText := true, laidKinds := [.data], laidTests := true, laidLooks := .later }
def FnPolygonsFlatUptoCardSaid : Prop := Claim7.holds Tryz.pinned (.plain (OpenSpec.upto fnPolygonsFlatSpec)) fnPolygonsFlatUptoCard
end Rows
end Go.Proofs.YtdchenbdnalbcaaGreatDoor
