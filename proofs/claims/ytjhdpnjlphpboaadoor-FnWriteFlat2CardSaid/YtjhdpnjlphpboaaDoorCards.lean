/-
  DERIVED. GIVEN WITH THE SEED: THE CARDS: each row of YtjhdpnjlphpboaaDoorRows.lean that lists a variable, with what it lists TIED to the program's text (the seventh form; the later family's looks); each row that meets fmt, with fmt's text TOLD by the authors' own Lean function (tested against real Go, not proved from fmt's source: count such statements apart). THE CARD IS WHAT COUNTS. Prove the row's statement (the work); the ties are given (YtjhdpnjlphpboaaDoorTie.lean); close each card by the builder's one call (the guide's Derived/Test/ToyasCard.lean, 'card_holds'). Laid BY PROGRAM, IN A SANDBOX (cutbox-door.mjs). By AI agents, Wed Nov 11 2026. No macro, syntax, notation, axiom, sorry.
-/
import Derived.Test.YtjhdpnjlphpboaaDoorRows
import GoSem.ClaimSeven
namespace Go.Proofs.YtjhdpnjlphpboaaDoor
namespace Rows

/-- THE TIED CARD OF 'laws.FnReadFlat1'. -/
def fnReadFlat1Card : Claim7 := { stood := { row := fnReadFlat1Row, standIns := [], harness := (true, "a823e38f1452f21f402000872acf668e7851b1da8695341ba64384584bc0aaa2"), looks := true }, kinds := [], alts := [], laidByText := true, laidKinds := [.sentinel, .sentinel, .sentinel, .data], laidTests := true, laidLooks := .later }
def FnReadFlat1CardSaid : Prop := Claim7.holds Tryd.pinned (.plain (OpenSpec.ofChange fnReadFlat1Spec)) fnReadFlat1Card

/-- THE TIED CARD OF 'laws.FnWriteFlat2'. -/
def fnWriteFlat2Card : Claim7 := { stood := { row := fnWriteFlat2Row, standIns := [], harness := (true, "a823e38f1452f21f402000872acf668e7851b1da8695341ba64384584bc0aaa2"), looks := true }, kinds := [], alts := [], laidByText := true, laidKinds := [.sentinel, .sentinel, .sentinel, .data], laidTests := true, laidLooks := .later }
def FnWriteFlat2CardSaid : Prop := Claim7.holds Tryd.pinned (.plain (OpenSpec.ofChange fnWriteFlat2Spec)) fnWriteFlat2Card

/-- THE SECOND FORM's CARD OF 'laws.FnReadFlat1'. -/
def fnReadFlat1UptoCard : Claim7 := { stood := { row := fnReadFlat1UptoRow, standIns := [], harness := (true, "a823e38f1452f21f402000872acf668e7851b1da8695341ba64384584bc0aaa2"), looks := true }, kinds := [], alts := [], laidByText := true, laidKinds := [.sentinel, .sentinel, .sentinel, .data], laidTests := true, laidLooks := .later }
def FnReadFlat1UptoCardSaid : Prop := Claim7.holds Tryd.pinned (.plain (OpenSpec.upto fnReadFlat1Spec)) fnReadFlat1UptoCard

/-- THE SECOND FORM's CARD OF 'laws.FnWriteFlat2'. -/
def fnWriteFlat2UptoCard : Claim7 := { stood := { row := fnWriteFlat2UptoRow, standIns := [], harness := (true, "a823e38f1452f21f402000872acf668e7851b1da8695341ba64384584bc0aaa2"), looks := true }, kinds := [], alts := [], laidByText := true, laidKinds := [.sentinel, .sentinel, .sentinel, .data], laidTests := true, laidLooks := .later }
def FnWriteFlat2UptoCardSaid : Prop := Claim7.holds Tryd.pinned (.plain (OpenSpec.upto fnWriteFlat2Spec)) fnWriteFlat2UptoCard
end Rows
end Go.Proofs.YtjhdpnjlphpboaaDoor
