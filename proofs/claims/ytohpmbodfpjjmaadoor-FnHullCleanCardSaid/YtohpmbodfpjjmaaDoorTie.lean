/-
  DERIVED. GIVEN WITH THE SEED: THE PROGRAM's TIES (one call each: nine closed facts by the kernel) AND EACH ROW's TIE, after the 31st guide's Derived/Test/Toyas{Tie, Card}.lean. No idea stands in it: it is a product of the set-up. Laid BY PROGRAM, IN A SANDBOX (cutbox-door.mjs). By AI agents, Wed Nov 11 2026. No macro, syntax, notation, axiom, sorry.
-/
import Derived.Test.YtohpmbodfpjjmaaDoorRows
import Derived.LaidByTextLater
import Derived.SevenTiedAt
import Derived.LaidSub
import Derived.LaidOnce
namespace Go.Proofs.YtohpmbodfpjjmaaDoor
open Go
set_option maxRecDepth 100000
theorem seatTie1 : Tryd.prog.laidByTextLater [("pub-orthodrome/pub/gogeom/bigxy.dpSafeEpsilon", Rows.laid_pub_orthodrome_pub_gogeom_bigxy_dpSafeEpsilon)] [.data] true :=
  Program.laidByTextLater_by_one 13 8 2 (by kernel_rfl) (by kernel_rfl) (by kernel_rfl) (by kernel_rfl) (by kernel_rfl) (by kernel_rfl) (fun _ _ => by kernel_rfl)
theorem noOwnUnsafe : Tryd.pinned.checked.prog.headLifts.contains "ownunsafe" = false := by kernel_rfl
theorem tie : Tryd.prog.laidByTextLater [("pub-orthodrome/pub/gogeom/bigxy.dpSafeEpsilon", Rows.laid_pub_orthodrome_pub_gogeom_bigxy_dpSafeEpsilon)] [.data] true :=
  Program.laidByTextLater.sub seatTie1 ["pub-orthodrome/pub/gogeom/bigxy.dpSafeEpsilon"] (by kernel_rfl) (by kernel_rfl)
theorem fnOrientationFilter_row_tie : Rows.fnOrientationFilterRow.laidByTextAt .later Tryd.pinned [.data] true :=
  OpenClaim.laidByTextAt_later rfl rfl tie noOwnUnsafe
theorem fnHullBetween_row_tie : Rows.fnHullBetweenRow.laidByTextAt .later Tryd.pinned [.data] true :=
  OpenClaim.laidByTextAt_later rfl rfl tie noOwnUnsafe
theorem fnHullClean_row_tie : Rows.fnHullCleanRow.laidByTextAt .later Tryd.pinned [.data] true :=
  OpenClaim.laidByTextAt_later rfl rfl tie noOwnUnsafe
theorem fnRingTurned_row_tie : Rows.fnRingTurnedRow.laidByTextAt .later Tryd.pinned [.data] true :=
  OpenClaim.laidByTextAt_later rfl rfl tie noOwnUnsafe
theorem fnOrientationFilterUpto_row_tie : Rows.fnOrientationFilterUptoRow.laidByTextAt .later Tryd.pinned [.data] true :=
  OpenClaim.laidByTextAt_later rfl rfl tie noOwnUnsafe
theorem fnHullBetweenUpto_row_tie : Rows.fnHullBetweenUptoRow.laidByTextAt .later Tryd.pinned [.data] true :=
  OpenClaim.laidByTextAt_later rfl rfl tie noOwnUnsafe
theorem fnHullCleanUpto_row_tie : Rows.fnHullCleanUptoRow.laidByTextAt .later Tryd.pinned [.data] true :=
  OpenClaim.laidByTextAt_later rfl rfl tie noOwnUnsafe
theorem fnRingTurnedUpto_row_tie : Rows.fnRingTurnedUptoRow.laidByTextAt .later Tryd.pinned [.data] true :=
  OpenClaim.laidByTextAt_later rfl rfl tie noOwnUnsafe
end Go.Proofs.YtohpmbodfpjjmaaDoor
