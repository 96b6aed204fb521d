/-
  DERIVED. GIVEN WITH THE SEED: THE CARDS: each row of YtohpmbodfpjjmaaDoorRows.lean that lists a variable, with what it lists TIED to the program's text (the seventh form; the later family's looks); each row that meets fmt, with fmt's text TOLD by the authors' own Lean function (tested against real Go, not proved from fmt's source: count such statements apart). THE CARD IS WHAT COUNTS. Prove the row's statement (the work); the ties are given (YtohpmbodfpjjmaaDoorTie.lean); close each card by the builder's one call (the guide's Derived/Test/ToyasCard.lean, 'card_holds'). Laid BY PROGRAM, IN A SANDBOX (cutbox-door.mjs). By AI agents, Wed Nov 11 2026. No macro, syntax, notation, axiom, sorry.
-/
import Derived.Test.YtohpmbodfpjjmaaDoorRows
import GoSem.ClaimSeven
namespace Go.Proofs.YtohpmbodfpjjmaaDoor
namespace Rows

/-- THE TIED CARD OF 'laws.FnOrientationFilter'. -/
def fnOrientationFilterCard : Claim7 := { stood := { row := fnOrientationFilterRow, standIns := [], harness := (true, "4f39cfa8cc6ced8d2be53b679280a152cabe8d4920d6e2110d24885ace8f297a"), looks := false }, kinds := [], alts := [], laidByText := true, laidKinds := [.data], laidTests := true, laidLooks := .later }
def FnOrientationFilterCardSaid : Prop := Claim7.holds Tryd.pinned (.plain (OpenSpec.ofChange fnOrientationFilterSpec)) fnOrientationFilterCard

/-- THE TIED CARD OF 'laws.FnHullBetween'. -/
def fnHullBetweenCard : Claim7 := { stood := { row := fnHullBetweenRow, standIns := [], harness := (true, "4f39cfa8cc6ced8d2be53b679280a152cabe8d4920d6e2110d24885ace8f297a"), looks := false }, kinds := [], alts := [], laidByText := true, laidKinds := [.data], laidTests := true, laidLooks := .later }
def FnHullBetweenCardSaid : Prop := Claim7.holds Tryd.pinned (.plain (OpenSpec.ofChange fnHullBetweenSpec)) fnHullBetweenCard

/-- THE TIED CARD OF 'laws.FnHullClean'. -/
def fnHullCleanCard : Claim7 := { stood := { row := fnHullCleanRow, standIns := [], harness := (true, "4f39cfa8cc6ced8d2be53b679280a152cabe8d4920d6e2110d24885ace8f297a"), looks := false }, kinds := [], alts := [], laidByText := true, laidKinds := [.data], laidTests := true, laidLooks := .later }
def FnHullCleanCardSaid : Prop := Claim7.holds Tryd.pinned (.plain (OpenSpec.ofChange fnHullCleanSpec)) fnHullCleanCard

/-- THE TIED CARD OF 'laws.FnRingTurned'. -/
def fnRingTurnedCard : Claim7 := { stood := { row := fnRingTurnedRow, standIns := [], harness := (true, "4f39cfa8cc6ced8d2be53b679280a152cabe8d4920d6e2110d24885ace8f297a"), looks := false }, kinds := [], alts := [], laidByText := true, laidKinds := [.data], laidTests := true, laidLooks := .later }
def FnRingTurnedCardSaid : Prop := Claim7.holds Tryd.pinned (.plain (OpenSpec.ofChange fnRingTurnedSpec)) fnRingTurnedCard

/-- THE SECOND FORM's CARD OF 'laws.FnOrientationFilter'. -/
def fnOrientationFilterUptoCard : Claim7 := { stood := { row := fnOrientationFilterUptoRow, standIns := [], harness := (true, "4f39cfa8cc6ced8d2be53b679280a152cabe8d4920d6e2110d24885ace8f297a"), looks := false }, kinds := [], alts := [], laidByText := true, laidKinds := [.data], laidTests := true, laidLooks := .later }
def FnOrientationFilterUptoCardSaid : Prop := Claim7.holds Tryd.pinned (.plain (OpenSpec.upto fnOrientationFilterSpec)) fnOrientationFilterUptoCard

/-- THE SECOND FORM's CARD OF 'laws.FnHullBetween'. -/
def fnHullBetweenUptoCard : Claim7 := { stood := { row := fnHullBetweenUptoRow, standIns := [], harness := (true, "4f39cfa8cc6ced8d2be53b679280a152cabe8d4920d6e2110d24885ace8f297a"), looks := false }, kinds := [], alts := [], laidByText := true, laidKinds := [.data], laidTests := true, laidLooks := .later }
def FnHullBetweenUptoCardSaid : Prop := Claim7.holds Tryd.pinned (.plain (OpenSpec.upto fnHullBetweenSpec)) fnHullBetweenUptoCard

/-- THE SECOND FORM's CARD OF 'laws.FnHullClean'. -/
def fnHullCleanUptoCard : Claim7 := { stood := { row := fnHullCleanUptoRow, standIns := [], harness := (true, "4f39cfa8cc6ced8d2be53b679280a152cabe8d4920d6e2110d24885ace8f297a"), looks := false }, kinds := [], alts := [], laidByText := true, laidKinds := [.data], laidTests := true, laidLooks := .later }
def FnHullCleanUptoCardSaid : Prop := Claim7.holds Tryd.pinned (.plain (OpenSpec.upto fnHullCleanSpec)) fnHullCleanUptoCard

/-- THE SECOND FORM's CARD OF 'laws.FnRingTurned'. -/
def fnRingTurnedUptoCard : Claim7 := { stood := { row := fnRingTurnedUptoRow, standIns := [], harness := (true, "4f39cfa8cc6ced8d2be53b679280a152cabe8d4920d6e2110d24885ace8f297a"), looks := false }, kinds := [], alts := [], laidByText := true, laidKinds := [.data], laidTests := true, laidLooks := .later }
def FnRingTurnedUptoCardSaid : Prop := Claim7.holds Tryd.pinned (.plain (OpenSpec.upto fnRingTurnedSpec)) fnRingTurnedUptoCard
end Rows
end Go.Proofs.YtohpmbodfpjjmaaDoor
