/-
  DERIVED. GIVEN WITH THE SEED: THE CARDS: each row of YtiiibhcihbfmeaaDoorRows.lean that lists a variable, with what it lists TIED to the program's text (the seventh form; the later family's looks); each row that meets fmt, with fmt's text TOLD by the authors' own Lean function (tested against real Go, not proved from fmt's source: count such statements apart). THE CARD IS WHAT COUNTS. Prove the row's statement (the work); the ties are given (YtiiibhcihbfmeaaDoorTie.lean); close each card by the builder's one call (the guide's Derived/Test/ToyasCard.lean, 'card_holds'). Laid BY PROGRAM, IN A SANDBOX (cutbox-door.mjs). By AI agents, Wed Nov 11 2026. No macro, syntax, notation, axiom, sorry.
-/
import Derived.Test.YtiiibhcihbfmeaaDoorRows
import GoSem.ClaimSeven
namespace Go.Proofs.YtiiibhcihbfmeaaDoor
namespace Rows

/-- THE TIED CARD OF 'laws.FnMatLines'. -/
def fnMatLinesCard : Claim7 := { stood := { row := fnMatLinesRow, standIns := [], harness := (true, "681a0f5b7d0531f49f6caa30d5964ee64c88a1fec7487590b69a9e6f9e138623"), looks := false }, kinds := [], alts := [], laidByText := true, laidKinds := [.data, .data, .data], laidTests := true, laidLooks := .later }
def FnMatLinesCardSaid : Prop := Claim7.holds Tryd.pinned (.plain (OpenSpec.ofChange fnMatLinesSpec)) fnMatLinesCard

/-- THE TIED CARD OF 'laws.FnMatEye'. -/
def fnMatEyeCard : Claim7 := { stood := { row := fnMatEyeRow, standIns := [], harness := (true, "681a0f5b7d0531f49f6caa30d5964ee64c88a1fec7487590b69a9e6f9e138623"), looks := false }, kinds := [], alts := [], laidByText := true, laidKinds := [.data, .data, .data], laidTests := true, laidLooks := .later }
def FnMatEyeCardSaid : Prop := Claim7.holds Tryd.pinned (.plain (OpenSpec.ofChange fnMatEyeSpec)) fnMatEyeCard

/-- THE SECOND FORM's CARD OF 'laws.FnMatLines'. -/
def fnMatLinesUptoCard : Claim7 := { stood := { row := fnMatLinesUptoRow, standIns := [], harness := (true, "681a0f5b7d0531f49f6caa30d5964ee64c88a1fec7487590b69a9e6f9e138623"), looks := false }, kinds := [], alts := [], laidByText := true, laidKinds := [.data, .data, .data], laidTests := true, laidLooks := .later }
def FnMatLinesUptoCardSaid : Prop := Claim7.holds Tryd.pinned (.plain (OpenSpec.upto fnMatLinesSpec)) fnMatLinesUptoCard

/-- THE SECOND FORM's CARD OF 'laws.FnMatEye'. -/
def fnMatEyeUptoCard : Claim7 := { stood := { row := fnMatEyeUptoRow, standIns := [], harness := (true, "681a0f5b7d0531f49f6caa30d5964ee64c88a1fec7487590b69a9e6f9e138623"), looks := false }, kinds := [], alts := [], laidByText := true, laidKinds := [.data, .data, .data], laidTests := true, laidLooks := .later }
def FnMatEyeUptoCardSaid : Prop := Claim7.holds Tryd.pinned (.plain (OpenSpec.upto fnMatEyeSpec)) fnMatEyeUptoCard
end Rows
end Go.Proofs.YtiiibhcihbfmeaaDoor
