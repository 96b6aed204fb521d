/-
  DERIVED. GIVEN WITH THE SEED: THE PROGRAM's TIES (one call each: nine closed facts by the kernel) AND EACH ROW's TIE, after the 31st guide's Derived/Test/Toyas{Tie, Card}.lean. No idea stands in it: it is a product of the set-up. Laid BY PROGRAM, IN A SANDBOX (cutbox-door.mjs). By AI agents, Wed Nov 11 2026. No macro, syntax, notation, axiom, sorry.
-/
import Derived.Test.YtdpkjmoeapibnaaDoorRows
import Derived.LaidByTextLater
import Derived.SevenTiedAt
import Derived.LaidSub
import Derived.LaidOnce
namespace Go.Proofs.YtdpkjmoeapibnaaDoor
open Go
set_option maxRecDepth 100000
theorem seatTie1 : Tryd.prog.laidByTextLater [("pub-orthodrome/pub/gogeom.errIncorrectEnd", Rows.laid_pub_orthodrome_pub_gogeom_errIncorrectEnd), ("pub-orthodrome/pub/gogeom.errLengthStrideMismatch", Rows.laid_pub_orthodrome_pub_gogeom_errLengthStrideMismatch), ("pub-orthodrome/pub/gogeom.errMisalignedEnd", Rows.laid_pub_orthodrome_pub_gogeom_errMisalignedEnd), ("pub-orthodrome/pub/gogeom.errNonEmptyEnds", Rows.laid_pub_orthodrome_pub_gogeom_errNonEmptyEnds), ("pub-orthodrome/pub/gogeom.errNonEmptyEndss", Rows.laid_pub_orthodrome_pub_gogeom_errNonEmptyEndss), ("pub-orthodrome/pub/gogeom.errNonEmptyFlatCoords", Rows.laid_pub_orthodrome_pub_gogeom_errNonEmptyFlatCoords), ("pub-orthodrome/pub/gogeom.errOutOfOrderEnd", Rows.laid_pub_orthodrome_pub_gogeom_errOutOfOrderEnd), ("pub-orthodrome/pub/gogeom.errStrideLayoutMismatch", Rows.laid_pub_orthodrome_pub_gogeom_errStrideLayoutMismatch), ("io.ErrShortBuffer", Rows.laid_io_ErrShortBuffer), ("io.EOF", Rows.laid_io_EOF), ("io.ErrUnexpectedEOF", Rows.laid_io_ErrUnexpectedEOF), ("pub-orthodrome/pub/gogeom/encoding/wkbcommon.MaxGeometryElements", Rows.laid_pub_orthodrome_pub_gogeom_encoding_wkbcommon_MaxGeometryElements)] [.sentinel, .sentinel, .sentinel, .sentinel, .sentinel, .sentinel, .sentinel, .sentinel, .sentinel, .sentinel, .sentinel, .data] true :=
  Program.laidByTextLater_by_one 242 8 5 (by kernel_rfl) (by kernel_rfl) (by kernel_rfl) (by kernel_rfl) (by kernel_rfl) (by kernel_rfl) (fun _ _ => by kernel_rfl)
theorem noOwnUnsafe : Tryd.pinned.checked.prog.headLifts.contains "ownunsafe" = false := by kernel_rfl
theorem tie : Tryd.prog.laidByTextLater [("pub-orthodrome/pub/gogeom.errIncorrectEnd", Rows.laid_pub_orthodrome_pub_gogeom_errIncorrectEnd), ("pub-orthodrome/pub/gogeom.errLengthStrideMismatch", Rows.laid_pub_orthodrome_pub_gogeom_errLengthStrideMismatch), ("pub-orthodrome/pub/gogeom.errMisalignedEnd", Rows.laid_pub_orthodrome_pub_gogeom_errMisalignedEnd), ("pub-orthodrome/pub/gogeom.errNonEmptyEnds", Rows.laid_pub_orthodrome_pub_gogeom_errNonEmptyEnds), ("pub-orthodrome/pub/gogeom.errNonEmptyEndss", Rows.laid_pub_orthodrome_pub_gogeom_errNonEmptyEndss), ("pub-orthodrome/pub/gogeom.errNonEmptyFlatCoords", Rows.laid_pub_orthodrome_pub_gogeom_errNonEmptyFlatCoords), ("pub-orthodrome/pub/gogeom.errOutOfOrderEnd", Rows.laid_pub_orthodrome_pub_gogeom_errOutOfOrderEnd), ("pub-orthodrome/pub/gogeom.errStrideLayoutMismatch", Rows.laid_pub_orthodrome_pub_gogeom_errStrideLayoutMismatch)] [.sentinel, .sentinel, .sentinel, .sentinel, .sentinel, .sentinel, .sentinel, .sentinel] true :=
  Program.laidByTextLater.sub seatTie1 ["pub-orthodrome/pub/gogeom.errIncorrectEnd", "pub-orthodrome/pub/gogeom.errLengthStrideMismatch", "pub-orthodrome/pub/gogeom.errMisalignedEnd", "pub-orthodrome/pub/gogeom.errNonEmptyEnds", "pub-orthodrome/pub/gogeom.errNonEmptyEndss", "pub-orthodrome/pub/gogeom.errNonEmptyFlatCoords", "pub-orthodrome/pub/gogeom.errOutOfOrderEnd", "pub-orthodrome/pub/gogeom.errStrideLayoutMismatch"] (by kernel_rfl) (by kernel_rfl)
theorem fnVerifyFlat_row_tie : Rows.fnVerifyFlatRow.laidByTextAt .later Tryd.pinned [.sentinel, .sentinel, .sentinel, .sentinel, .sentinel, .sentinel, .sentinel, .sentinel] true :=
  OpenClaim.laidByTextAt_later rfl rfl tie noOwnUnsafe
theorem tie2 : Tryd.prog.laidByTextLater [("io.ErrShortBuffer", Rows.laid_io_ErrShortBuffer), ("io.EOF", Rows.laid_io_EOF), ("io.ErrUnexpectedEOF", Rows.laid_io_ErrUnexpectedEOF), ("pub-orthodrome/pub/gogeom/encoding/wkbcommon.MaxGeometryElements", Rows.laid_pub_orthodrome_pub_gogeom_encoding_wkbcommon_MaxGeometryElements)] [.sentinel, .sentinel, .sentinel, .data] true :=
  Program.laidByTextLater.sub seatTie1 ["io.ErrShortBuffer", "io.EOF", "io.ErrUnexpectedEOF", "pub-orthodrome/pub/gogeom/encoding/wkbcommon.MaxGeometryElements"] (by kernel_rfl) (by kernel_rfl)
theorem fnReadFlat1_row_tie : Rows.fnReadFlat1Row.laidByTextAt .later Tryd.pinned [.sentinel, .sentinel, .sentinel, .data] true :=
  OpenClaim.laidByTextAt_later rfl rfl tie2 noOwnUnsafe
theorem fnWriteFlat2_row_tie : Rows.fnWriteFlat2Row.laidByTextAt .later Tryd.pinned [.sentinel, .sentinel, .sentinel, .data] true :=
  OpenClaim.laidByTextAt_later rfl rfl tie2 noOwnUnsafe
theorem fnVerifyFlatUpto_row_tie : Rows.fnVerifyFlatUptoRow.laidByTextAt .later Tryd.pinned [.sentinel, .sentinel, .sentinel, .sentinel, .sentinel, .sentinel, .sentinel, .sentinel] true :=
  OpenClaim.laidByTextAt_later rfl rfl tie noOwnUnsafe
theorem fnReadFlat1Upto_row_tie : Rows.fnReadFlat1UptoRow.laidByTextAt .later Tryd.pinned [.sentinel, .sentinel, .sentinel, .data] true :=
  OpenClaim.laidByTextAt_later rfl rfl tie2 noOwnUnsafe
theorem fnWriteFlat2Upto_row_tie : Rows.fnWriteFlat2UptoRow.laidByTextAt .later Tryd.pinned [.sentinel, .sentinel, .sentinel, .data] true :=
  OpenClaim.laidByTextAt_later rfl rfl tie2 noOwnUnsafe
end Go.Proofs.YtdpkjmoeapibnaaDoor
