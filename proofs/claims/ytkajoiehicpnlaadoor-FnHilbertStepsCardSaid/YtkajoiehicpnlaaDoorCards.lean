/-
  DERIVED. GIVEN WITH THE SEED: THE CARDS: each row of YtkajoiehicpnlaaDoorRows.lean that lists a variable, with what it lists TIED to the program's text (the seventh form; the later family's looks); each row that meets fmt, with fmt's text TOLD by the authors' own Lean function (tested against real Go, not proved from fmt's source: count such statements apart). THE CARD IS WHAT COUNTS. Prove the row's statement (the work); the ties are given (YtkajoiehicpnlaaDoorTie.lean); close each card by the builder's one call (the guide's Derived/Test/ToyasCard.lean, 'card_holds'). Laid BY PROGRAM, IN A SANDBOX (cutbox-door.mjs). By AI agents, Wed Nov 11 2026. No macro, syntax, notation, axiom, sorry.
-/
import Derived.Test.YtkajoiehicpnlaaDoorRows
import GoSem.ClaimSeven
namespace Go.Proofs.YtkajoiehicpnlaaDoor
namespace Rows

/-- THE TIED CARD OF 'laws.FnHilbertSize'. -/
def fnHilbertSizeCard : Claim7 := { stood := { row := fnHilbertSizeRow, standIns := [], harness := (true, "7ae75665cbc8d14df26ff8d53ae38ad504969971d18221e7574b9d2cf18e216a"), looks := false }, kinds := [], alts := [], laidByText := true, laidKinds := [.sentinel, .sentinel], laidTests := true, laidLooks := .later }
def FnHilbertSizeCardSaid : Prop := Claim7.holds Tryd.pinned (.plain (OpenSpec.ofChange fnHilbertSizeSpec)) fnHilbertSizeCard

/-- THE TIED CARD OF 'laws.FnHilbertSteps'. -/
def fnHilbertStepsCard : Claim7 := { stood := { row := fnHilbertStepsRow, standIns := [], harness := (true, "7ae75665cbc8d14df26ff8d53ae38ad504969971d18221e7574b9d2cf18e216a"), looks := false }, kinds := [], alts := [], laidByText := true, laidKinds := [.sentinel, .sentinel], laidTests := true, laidLooks := .later }
def FnHilbertStepsCardSaid : Prop := Claim7.holds Tryd.pinned (.plain (OpenSpec.ofChange fnHilbertStepsSpec)) fnHilbertStepsCard

/-- THE SECOND FORM's CARD OF 'laws.FnHilbertSize'. -/
def fnHilbertSizeUptoCard : Claim7 := { stood := { row := fnHilbertSizeUptoRow, standIns := [], harness := (true, "7ae75665cbc8d14df26ff8d53ae38ad504969971d18221e7574b9d2cf18e216a"), looks := false }, kinds := [], alts := [], laidByText := true, laidKinds := [.sentinel, .sentinel], laidTests := true, laidLooks := .later }
def FnHilbertSizeUptoCardSaid : Prop := Claim7.holds Tryd.pinned (.plain (OpenSpec.upto fnHilbertSizeSpec)) fnHilbertSizeUptoCard

/-- THE SECOND FORM's CARD OF 'laws.FnHilbertSteps'. -/
def fnHilbertStepsUptoCard : Claim7 := { stood := { row := fnHilbertStepsUptoRow, standIns := [], harness := (true, "7ae75665cbc8d14df26ff8d53ae38ad504969971d18221e7574b9d2cf18e216a"), looks := false }, kinds := [], alts := [], laidByText := true, laidKinds := [.sentinel, .sentinel], laidTests := true, laidLooks := .later }
def FnHilbertStepsUptoCardSaid : Prop := Claim7.holds Tryd.pinned (.plain (OpenSpec.upto fnHilbertStepsSpec)) fnHilbertStepsUptoCard
end Rows
end Go.Proofs.YtkajoiehicpnlaaDoor
