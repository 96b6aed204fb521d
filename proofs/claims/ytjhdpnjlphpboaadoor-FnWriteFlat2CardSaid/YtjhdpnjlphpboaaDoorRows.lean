/-
  NARROWER THAN 'FOR EVERY INPUT', by the rows' own cells (each row's printed sentence says how): FnReadFlat1: laid · FnWriteFlat2: laid.
  DERIVED. THE GIVEN ROWS OF THIS SEAT. 2 by the template 'for every input the law returns true; each argument reads behind the call as it read before'; 0 by the template 'total and deterministic' (their statements: YtjhdpnjlphpboaaDoorTotals.lean).
  GIVEN WITH THE SEED: the statements are not yours to turn. If you find one false, say at which input.
  Laid BY PROGRAM, IN A SANDBOX (cutbox-rows.mjs): the forced cells as the released guide's own fill.sh prints them over the translation a5735f505ecd223a… (all of the seat's roots in one cut). By AI agents, Wed Nov 11 2026. No macro, syntax, notation, axiom, sorry.
-/
import Derived.Test.YtjhdpnjlphpboaaDoorChecked
import GoSem.Claim
import GoSem.ClaimJoined
import GoSem.ClaimMapViews
import Derived.JoinedTies
import Derived.KernelRfl
namespace Go.Proofs.YtjhdpnjlphpboaaDoor
/- THE CELL 'sum', in the pinned program and in every row, IS THE sha256 OF THE DUMP (.gsa) THAT YtjhdpnjlphpboaaDoorProg.lean LOADS. Nothing in Lean hashes anything: it is a label: what it is worth is what the hold of that sum in a sandbox is worth. -/
noncomputable def Tryd.pinned : Pinned := { name := "ytjhdpnjlphpboaadoor", sum := "a5735f505ecd223adb5be179c1d0489d2df1787f2d7c47899c447d025dbab11e", checked := Tryd.checked }
namespace Rows
def none {H : Type} : Left H := { results := [], args := [] }

/- WHAT THE LISTED PACKAGE-LEVEL VARIABLES READ AS WHEN THE CALL BEGINS. Each datum BY PROGRAM (the guide's laid-datum.mjs) off the statement by which the dump's own 'gosem.cut.vars' lays the variable. In a bare row this is a premise. The card (YtjhdpnjlphpboaaDoorCards.lean) ties it to the program's text. -/
def laid_io_ErrShortBuffer {H : Type} : DataW H := .iface "*errors.errorString" (.ptr (.agg [.lit (.string [115, 104, 111, 114, 116, 32, 98, 117, 102, 102, 101, 114])]))
def laid_io_EOF {H : Type} : DataW H := .iface "*errors.errorString" (.ptr (.agg [.lit (.string [69, 79, 70])]))
def laid_io_ErrUnexpectedEOF {H : Type} : DataW H := .iface "*errors.errorString" (.ptr (.agg [.lit (.string [117, 110, 101, 120, 112, 101, 99, 116, 101, 100, 32, 69, 79, 70])]))
def laid_pub_orthodrome_pub_gogeom_encoding_wkbcommon_MaxGeometryElements {H : Type} : DataW H := .agg [.lit (.int .i64 0), .lit (.int .i64 (-1)), .lit (.int .i64 (-1)), .lit (.int .i64 (-1))]

/-- 'laws.FnReadFlat1': WHATEVER THE INPUT: true; the input reads as it did. -/
def fnReadFlat1Spec : ChangeSpec := { name := "fnReadFlat1", fn := fun _ => fun
  | [d1, d2, d3] => { results := [.lit (.bool true)], args := [d1, d2, d3] }
  | _ => none }
def fnReadFlat1Row : OpenClaim := { program := "ytjhdpnjlphpboaadoor", sum := "a5735f505ecd223adb5be179c1d0489d2df1787f2d7c47899c447d025dbab11e", func := "pub-orthodrome/laws.FnReadFlat1", spec := "fnReadFlat1", inPlace := ["math.Float64frombits", "math.Float64bits"], unfollowed := true, recurses := true, named := ["encoding/binary.BigEndian", "encoding/binary.LittleEndian", "pub-orthodrome/pub/gogeom/encoding/wkbcommon.MaxGeometryElements", "io.ErrShortBuffer", "io.EOF", "io.ErrUnexpectedEOF"], apart := false, laid := [("io.ErrShortBuffer", laid_io_ErrShortBuffer), ("io.EOF", laid_io_EOF), ("io.ErrUnexpectedEOF", laid_io_ErrUnexpectedEOF), ("pub-orthodrome/pub/gogeom/encoding/wkbcommon.MaxGeometryElements", laid_pub_orthodrome_pub_gogeom_encoding_wkbcommon_MaxGeometryElements)] }
def FnReadFlat1Said : Prop := fnReadFlat1Row.holds Tryd.pinned (OpenSpec.ofChange fnReadFlat1Spec)

/-- ITS FALSE NEIGHBOUR: 'it returns false'. Refute it at one input. -/
def fnReadFlat1Wrong : ChangeSpec := { name := "fnReadFlat1", fn := fun _ => fun
  | [d1, d2, d3] => { results := [.lit (.bool false)], args := [d1, d2, d3] }
  | _ => none }
def FnReadFlat1WrongFalsely : Prop := fnReadFlat1Row.holds Tryd.pinned (OpenSpec.ofChange fnReadFlat1Wrong)

/-- 'laws.FnWriteFlat2': WHATEVER THE INPUT: true; the input reads as it did. -/
def fnWriteFlat2Spec : ChangeSpec := { name := "fnWriteFlat2", fn := fun _ => fun
  | [d1, d2, d3, d4] => { results := [.lit (.bool true)], args := [d1, d2, d3, d4] }
  | _ => none }
def fnWriteFlat2Row : OpenClaim := { program := "ytjhdpnjlphpboaadoor", sum := "a5735f505ecd223adb5be179c1d0489d2df1787f2d7c47899c447d025dbab11e", func := "pub-orthodrome/laws.FnWriteFlat2", spec := "fnWriteFlat2", inPlace := ["math.Float64bits", "math.Float64frombits"], unfollowed := true, recurses := true, named := ["encoding/binary.BigEndian", "encoding/binary.LittleEndian", "pub-orthodrome/pub/gogeom/encoding/wkbcommon.MaxGeometryElements", "io.ErrShortBuffer", "io.EOF", "io.ErrUnexpectedEOF"], apart := false, laid := [("io.ErrShortBuffer", laid_io_ErrShortBuffer), ("io.EOF", laid_io_EOF), ("io.ErrUnexpectedEOF", laid_io_ErrUnexpectedEOF), ("pub-orthodrome/pub/gogeom/encoding/wkbcommon.MaxGeometryElements", laid_pub_orthodrome_pub_gogeom_encoding_wkbcommon_MaxGeometryElements)] }
def FnWriteFlat2Said : Prop := fnWriteFlat2Row.holds Tryd.pinned (OpenSpec.ofChange fnWriteFlat2Spec)

/-- ITS FALSE NEIGHBOUR: 'it returns false'. Refute it at one input. -/
def fnWriteFlat2Wrong : ChangeSpec := { name := "fnWriteFlat2", fn := fun _ => fun
  | [d1, d2, d3, d4] => { results := [.lit (.bool false)], args := [d1, d2, d3, d4] }
  | _ => none }
def FnWriteFlat2WrongFalsely : Prop := fnWriteFlat2Row.holds Tryd.pinned (OpenSpec.ofChange fnWriteFlat2Wrong)

/- THE SECOND FORM. 'bulk': how many values and letters a reading holds, each counted each time it is reached (what is shared counts as often as it is met; a slice's spare places count too). A statement '..UptoSaid' is the law's where the arguments, and the package variables that the reading takes, are together of bulk at most 1048576: NARROWER than '..Said'. Prove '..Said' where nothing that the law and all that it calls make is longer than what came in: it says more and counts as full. Else prove '..UptoSaid'. A law counts once. -/
mutual
def uptoBulk {H : Type} : DataW H → Nat
  | .lit (.string bytes) => bytes.length + 1
  | .lit _ => 1
  | .nil => 1
  | .ptr d => uptoBulk d + 1
  | .slice elems spare => uptoBulkAll elems + uptoBulkAll spare + 1
  | .agg parts => uptoBulkAll parts + 1
  | .iface _ d => uptoBulk d + 1
  | .map entries => uptoBulkEntries entries + 1
  | .held _ => 1
def uptoBulkAll {H : Type} : List (DataW H) → Nat
  | [] => 0
  | d :: r => uptoBulk d + uptoBulkAll r
def uptoBulkEntries {H : Type} : List (Lit × DataW H) → Nat
  | [] => 0
  | x :: r => uptoBulkEntry x + uptoBulkEntries r
def uptoBulkEntry {H : Type} : Lit × DataW H → Nat
  | (.string bytes, d) => bytes.length + uptoBulk d + 1
  | (_, d) => uptoBulk d + 1
 end
def uptoSmall : (H : Type) → List (DataW H) → Bool := fun _ ds => decide (uptoBulkAll ds ≤ 1048576)
def OpenSpec.upto (s : _root_.Go.ChangeSpec) : _root_.Go.OpenSpec := { _root_.Go.OpenSpec.ofChange s with cond := some uptoSmall }

/-- 'laws.FnReadFlat1', WHERE WHAT IT READS IS OF BULK AT MOST 1048576: true; the input reads as it did. -/
def fnReadFlat1UptoRow : OpenClaim := { program := "ytjhdpnjlphpboaadoor", sum := "a5735f505ecd223adb5be179c1d0489d2df1787f2d7c47899c447d025dbab11e", func := "pub-orthodrome/laws.FnReadFlat1", spec := "fnReadFlat1", inPlace := ["math.Float64frombits", "math.Float64bits"], unfollowed := true, recurses := true, named := ["encoding/binary.BigEndian", "encoding/binary.LittleEndian", "pub-orthodrome/pub/gogeom/encoding/wkbcommon.MaxGeometryElements", "io.ErrShortBuffer", "io.EOF", "io.ErrUnexpectedEOF"], apart := false, laid := [("io.ErrShortBuffer", laid_io_ErrShortBuffer), ("io.EOF", laid_io_EOF), ("io.ErrUnexpectedEOF", laid_io_ErrUnexpectedEOF), ("pub-orthodrome/pub/gogeom/encoding/wkbcommon.MaxGeometryElements", laid_pub_orthodrome_pub_gogeom_encoding_wkbcommon_MaxGeometryElements)], narrowed := true }
def FnReadFlat1UptoSaid : Prop := fnReadFlat1UptoRow.holds Tryd.pinned (OpenSpec.upto fnReadFlat1Spec)

/-- 'laws.FnWriteFlat2', WHERE WHAT IT READS IS OF BULK AT MOST 1048576: true; the input reads as it did. -/
def fnWriteFlat2UptoRow : OpenClaim := { program := "ytjhdpnjlphpboaadoor", sum := "a5735f505ecd223adb5be179c1d0489d2df1787f2d7c47899c447d025dbab11e", func := "pub-orthodrome/laws.FnWriteFlat2", spec := "fnWriteFlat2", inPlace := ["math.Float64bits", "math.Float64frombits"], unfollowed := true, recurses := true, named := ["encoding/binary.BigEndian", "encoding/binary.LittleEndian", "pub-orthodrome/pub/gogeom/encoding/wkbcommon.MaxGeometryElements", "io.ErrShortBuffer", "io.EOF", "io.ErrUnexpectedEOF"], apart := false, laid := [("io.ErrShortBuffer", laid_io_ErrShortBuffer), ("io.EOF", laid_io_EOF), ("io.ErrUnexpectedEOF", laid_io_ErrUnexpectedEOF), ("pub-orthodrome/pub/gogeom/encoding/wkbcommon.MaxGeometryElements", laid_pub_orthodrome_pub_gogeom_encoding_wkbcommon_MaxGeometryElements)], narrowed := true }
def FnWriteFlat2UptoSaid : Prop := fnWriteFlat2UptoRow.holds Tryd.pinned (OpenSpec.upto fnWriteFlat2Spec)

end Rows
end Go.Proofs.YtjhdpnjlphpboaaDoor
