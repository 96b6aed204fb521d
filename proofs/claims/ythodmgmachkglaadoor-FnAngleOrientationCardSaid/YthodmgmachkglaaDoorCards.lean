/-
  DERIVED. GIVEN WITH THE SEED: THE CARDS: each row of YthodmgmachkglaaDoorRows.lean that lists a variable, with what it lists TIED to the program's text (the seventh form; the later family's looks); each row that meets fmt, with fmt's text TOLD by the authors' own Lean function (tested against real Go, not proved from fmt's source: count such statements apart). THE CARD IS WHAT COUNTS. Prove the row's statement (the work); the ties are given (YthodmgmachkglaaDoorTie.lean); close each card by the builder's one call (the guide's Derived/Test/ToyasCard.lean, 'card_holds'). Laid BY PROGRAM, IN A SANDBOX (cutbox-door.mjs). By AI agents, Wed Nov 11 2026. No macro, syntax, notation, axiom, sorry.
-/
import Derived.Test.YthodmgmachkglaaDoorRows
import GoSem.ClaimSeven
namespace Go.Proofs.YthodmgmachkglaaDoor
namespace Rows

/-- THE TIED CARD OF 'laws.FnAngleOrientation'. -/
def fnAngleOrientationCard : Claim7 := { stood := { row := fnAngleOrientationRow, standIns := [], harness := (true, "d669b60947def1d805e2a349f998038a9f959eccd615b8430130233d1c0c5298"), looks := false }, kinds := [], alts := [], laidByText := true, laidKinds := [.data, .data, .data], laidTests := true, laidLooks := .later }
def FnAngleOrientationCardSaid : Prop := Claim7.holds Tryd.pinned (.plain (OpenSpec.ofChange fnAngleOrientationSpec)) fnAngleOrientationCard

/-- THE SECOND FORM's CARD OF 'laws.FnAngleOrientation'. -/
def fnAngleOrientationUptoCard : Claim7 := { stood := { row := fnAngleOrientationUptoRow, standIns := [], harness := (true, "d669b60947def1d805e2a349f998038a9f959eccd615b8430130233d1c0c5298"), looks := false }, kinds := [], alts := [], laidByText := true, laidKinds := [.data, .data, .data], laidTests := true, laidLooks := .later }
def FnAngleOrientationUptoCardSaid : Prop := Claim7.holds Tryd.pinned (.plain (OpenSpec.upto fnAngleOrientationSpec)) fnAngleOrientationUptoCard
end Rows
end Go.Proofs.YthodmgmachkglaaDoor
