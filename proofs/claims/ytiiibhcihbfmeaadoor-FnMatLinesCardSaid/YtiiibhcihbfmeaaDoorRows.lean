/-
  NARROWER THAN 'FOR EVERY INPUT', by the rows' own cells (each row's printed sentence says how): FnMatLines: laid · FnMatEye: laid.
  DERIVED. THE GIVEN ROWS OF THIS SEAT. 2 by the template 'for every input the law returns true; each argument reads behind the call as it read before'; 0 by the template 'total and deterministic' (their statements: YtiiibhcihbfmeaaDoorTotals.lean).
  GIVEN WITH THE SEED: the statements are not yours to turn. If you find one false, say at which input.
  Laid BY PROGRAM, IN A SANDBOX (cutbox-rows.mjs): the forced cells as the released guide's own fill.sh prints them over the translation acde10b650861088… (all of the seat's roots in one cut). By AI agents, Wed Nov 11 2026. No macro, syntax, notation, axiom, sorry.
-/
import Derived.Test.YtiiibhcihbfmeaaDoorChecked
import GoSem.Claim
import GoSem.ClaimJoined
import GoSem.ClaimMapViews
import Derived.JoinedTies
import Derived.KernelRfl
namespace Go.Proofs.YtiiibhcihbfmeaaDoor
/- THE CELL 'sum', in the pinned program and in every row, IS THE sha256 OF THE DUMP (.gsa) THAT YtiiibhcihbfmeaaDoorProg.lean LOADS. Nothing in Lean hashes anything: it is a label: what it is worth is what the hold of that sum in a sandbox is worth. -/
noncomputable def Tryd.pinned : Pinned := { name := "ytiiibhcihbfmeaadoor", sum := "acde10b650861088f410f2210b1538a0ebc3e091c64b513df98d36d67bd8b5c6", checked := Tryd.checked }
namespace Rows
def none {H : Type} : Left H := { results := [], args := [] }

/- WHAT THE LISTED PACKAGE-LEVEL VARIABLES READ AS WHEN THE CALL BEGINS. Each datum BY PROGRAM (the guide's laid-datum.mjs) off the statement by which the dump's own 'gosem.cut.vars' lays the variable. In a bare row this is a premise. The card (YtiiibhcihbfmeaaDoorCards.lean) ties it to the program's text. -/
def laid_pub_orthodrome_pub_gonum_mat_ErrRowAccess {H : Type} : DataW H := .agg [.lit (.string [109, 97, 116, 58, 32, 114, 111, 119, 32, 105, 110, 100, 101, 120, 32, 111, 117, 116, 32, 111, 102, 32, 114, 97, 110, 103, 101])]
def laid_pub_orthodrome_pub_gonum_mat_ErrColAccess {H : Type} : DataW H := .agg [.lit (.string [109, 97, 116, 58, 32, 99, 111, 108, 117, 109, 110, 32, 105, 110, 100, 101, 120, 32, 111, 117, 116, 32, 111, 102, 32, 114, 97, 110, 103, 101])]
def laid_pub_orthodrome_pub_gonum_mat_ErrShape {H : Type} : DataW H := .agg [.lit (.string [109, 97, 116, 58, 32, 100, 105, 109, 101, 110, 115, 105, 111, 110, 32, 109, 105, 115, 109, 97, 116, 99, 104])]

/-- 'laws.FnMatLines': WHATEVER THE INPUT: true; the input reads as it did. -/
def fnMatLinesSpec : ChangeSpec := { name := "fnMatLines", fn := fun _ => fun
  | [d1, d2] => { results := [.lit (.bool true)], args := [d1, d2] }
  | _ => none }
def fnMatLinesRow : OpenClaim := { program := "ytiiibhcihbfmeaadoor", sum := "acde10b650861088f410f2210b1538a0ebc3e091c64b513df98d36d67bd8b5c6", func := "pub-orthodrome/laws.FnMatLines", spec := "fnMatLines", inPlace := ["math.archTrunc", "math.Float64bits", "math.Float64frombits"], unfollowed := true, recurses := true, named := ["pub-orthodrome/pub/gonum/mat.ErrShape", "pub-orthodrome/pub/gonum/mat.ErrRowAccess", "pub-orthodrome/pub/gonum/mat.ErrColAccess"], apart := false, laid := [("pub-orthodrome/pub/gonum/mat.ErrRowAccess", laid_pub_orthodrome_pub_gonum_mat_ErrRowAccess), ("pub-orthodrome/pub/gonum/mat.ErrColAccess", laid_pub_orthodrome_pub_gonum_mat_ErrColAccess), ("pub-orthodrome/pub/gonum/mat.ErrShape", laid_pub_orthodrome_pub_gonum_mat_ErrShape)] }
def FnMatLinesSaid : Prop := fnMatLinesRow.holds Tryd.pinned (OpenSpec.ofChange fnMatLinesSpec)

/-- ITS FALSE NEIGHBOUR: 'it returns false'. Refute it at one input. -/
def fnMatLinesWrong : ChangeSpec := { name := "fnMatLines", fn := fun _ => fun
  | [d1, d2] => { results := [.lit (.bool false)], args := [d1, d2] }
  | _ => none }
def FnMatLinesWrongFalsely : Prop := fnMatLinesRow.holds Tryd.pinned (OpenSpec.ofChange fnMatLinesWrong)

/-- 'laws.FnMatEye': WHATEVER THE INPUT: true; the input reads as it did. -/
def fnMatEyeSpec : ChangeSpec := { name := "fnMatEye", fn := fun _ => fun
  | [d1, d2] => { results := [.lit (.bool true)], args := [d1, d2] }
  | _ => none }
def fnMatEyeRow : OpenClaim := { program := "ytiiibhcihbfmeaadoor", sum := "acde10b650861088f410f2210b1538a0ebc3e091c64b513df98d36d67bd8b5c6", func := "pub-orthodrome/laws.FnMatEye", spec := "fnMatEye", inPlace := ["math.archTrunc", "math.Float64bits", "math.Float64frombits"], unfollowed := true, recurses := true, named := ["pub-orthodrome/pub/gonum/mat.ErrRowAccess", "pub-orthodrome/pub/gonum/mat.ErrColAccess", "pub-orthodrome/pub/gonum/mat.ErrShape"], apart := false, laid := [("pub-orthodrome/pub/gonum/mat.ErrRowAccess", laid_pub_orthodrome_pub_gonum_mat_ErrRowAccess), ("pub-orthodrome/pub/gonum/mat.ErrColAccess", laid_pub_orthodrome_pub_gonum_mat_ErrColAccess), ("pub-orthodrome/pub/gonum/mat.ErrShape", laid_pub_orthodrome_pub_gonum_mat_ErrShape)] }
def FnMatEyeSaid : Prop := fnMatEyeRow.holds Tryd.pinned (OpenSpec.ofChange fnMatEyeSpec)

/-- ITS FALSE NEIGHBOUR: 'it returns false'. Refute it at one input. -/
def fnMatEyeWrong : ChangeSpec := { name := "fnMatEye", fn := fun _ => fun
  | [d1, d2] => { results := [.lit (.bool false)], args := [d1, d2] }
  | _ => none }
def FnMatEyeWrongFalsely : Prop := fnMatEyeRow.holds Tryd.pinned (OpenSpec.ofChange fnMatEyeWrong)

/- THE SECOND FORM. 'bulk': how many values and letters a reading holds, each counted each time it is reached (what is shared counts as often as it is met; a slice's spare places count too). A statement '..UptoSaid' is the law's where the arguments, and the package variables that the reading takes, are together of bulk at most 1048576: NARROWER than '..Said'. Prove '..Said' where nothing that the law and all that it calls make is longer than what came in: it says more and counts as full. Else prove '..UptoSaid'. A law counts once. -/
mutual
def uptoBulk {H : Type} : DataW H → Nat
  | .lit (.string bytes) => bytes.length + 1
  | .lit _ => 1
  | .nil => 1
  | .ptr d => uptoBulk d + 1
  | .slice elems spare => uptoBulkAll elems + uptoBulkAll spare + 1
  | .agg parts => uptoBulkAll parts + 1
  | .iface _ d => uptoBulk d + 1
  | .map entries => uptoBulkEntries entries + 1
  | .held _ => 1
def uptoBulkAll {H : Type} : List (DataW H) → Nat
  | [] => 0
  | d :: r => uptoBulk d + uptoBulkAll r
def uptoBulkEntries {H : Type} : List (Lit × DataW H) → Nat
  | [] => 0
  | x :: r => uptoBulkEntry x + uptoBulkEntries r
def uptoBulkEntry {H : Type} : Lit × DataW H → Nat
  | (.string bytes, d) => bytes.length + uptoBulk d + 1
  | (_, d) => uptoBulk d + 1
 end
def uptoSmall : (H : Type) → List (DataW H) → Bool := fun _ ds => decide (uptoBulkAll ds ≤ 1048576)
def OpenSpec.upto (s : _root_.Go.ChangeSpec) : _root_.Go.OpenSpec := { _root_.Go.OpenSpec.ofChange s with cond := some uptoSmall }

/-- 'laws.FnMatLines', WHERE WHAT IT READS IS OF BULK AT MOST 1048576: true; the input reads as it did. -/
def fnMatLinesUptoRow : OpenClaim := { program := "ytiiibhcihbfmeaadoor", sum := "acde10b650861088f410f2210b1538a0ebc3e091c64b513df98d36d67bd8b5c6", func := "pub-orthodrome/laws.FnMatLines", spec := "fnMatLines", inPlace := ["math.archTrunc", "math.Float64bits", "math.Float64frombits"], unfollowed := true, recurses := true, named := ["pub-orthodrome/pub/gonum/mat.ErrShape", "pub-orthodrome/pub/gonum/mat.ErrRowAccess", "pub-orthodrome/pub/gonum/mat.ErrColAccess"], apart := false, laid := [("pub-orthodrome/pub/gonum/mat.ErrRowAccess", laid_pub_orthodrome_pub_gonum_mat_ErrRowAccess), ("pub-orthodrome/pub/gonum/mat.ErrColAccess", laid_pub_orthodrome_pub_gonum_mat_ErrColAccess), ("pub-orthodrome/pub/gonum/mat.ErrShape", laid_pub_orthodrome_pub_gonum_mat_ErrShape)], narrowed := true }
def FnMatLinesUptoSaid : Prop := fnMatLinesUptoRow.holds Tryd.pinned (OpenSpec.upto fnMatLinesSpec)

/-- 'laws.FnMatEye', WHERE WHAT IT READS IS OF BULK AT MOST 1048576: true; the input reads as it did. -/
def fnMatEyeUptoRow : OpenClaim := { program := "ytiiibhcihbfmeaadoor", sum := "acde10b650861088f410f2210b1538a0ebc3e091c64b513df98d36d67bd8b5c6", func := "pub-orthodrome/laws.FnMatEye", spec := "fnMatEye", inPlace := ["math.archTrunc", "math.Float64bits", "math.Float64frombits"], unfollowed := true, recurses := true, named := ["pub-orthodrome/pub/gonum/mat.ErrRowAccess", "pub-orthodrome/pub/gonum/mat.ErrColAccess", "pub-orthodrome/pub/gonum/mat.ErrShape"], apart := false, laid := [("pub-orthodrome/pub/gonum/mat.ErrRowAccess", laid_pub_orthodrome_pub_gonum_mat_ErrRowAccess), ("pub-orthodrome/pub/gonum/mat.ErrColAccess", laid_pub_orthodrome_pub_gonum_mat_ErrColAccess), ("pub-orthodrome/pub/gonum/mat.ErrShape", laid_pub_orthodrome_pub_gonum_mat_ErrShape)], narrowed := true }
def FnMatEyeUptoSaid : Prop := fnMatEyeUptoRow.holds Tryd.pinned (OpenSpec.upto fnMatEyeSpec)

end Rows
end Go.Proofs.YtiiibhcihbfmeaaDoor
