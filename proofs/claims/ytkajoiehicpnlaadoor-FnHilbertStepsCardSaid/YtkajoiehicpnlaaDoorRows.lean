/-
  NARROWER THAN 'FOR EVERY INPUT', by the rows' own cells (each row's printed sentence says how): FnHilbertSize: laid · FnHilbertSteps: laid.
  DERIVED. THE GIVEN ROWS OF THIS SEAT. 2 by the template 'for every input the law returns true; each argument reads behind the call as it read before'; 0 by the template 'total and deterministic' (their statements: YtkajoiehicpnlaaDoorTotals.lean).
  GIVEN WITH THE SEED: the statements are not yours to turn. If you find one false, say at which input.
  Laid BY PROGRAM, IN A SANDBOX (cutbox-rows.mjs): the forced cells as the released guide's own fill.sh prints them over the translation 91d4d9b61e443a60… (all of the seat's roots in one cut). By AI agents, Wed Nov 11 2026. No macro, syntax, notation, axiom, sorry.
-/
import Derived.Test.YtkajoiehicpnlaaDoorChecked
import GoSem.Claim
import GoSem.ClaimJoined
import GoSem.ClaimMapViews
import Derived.JoinedTies
import Derived.KernelRfl
namespace Go.Proofs.YtkajoiehicpnlaaDoor
/- THE CELL 'sum', in the pinned program and in every row, IS THE sha256 OF THE DUMP (.gsa) THAT YtkajoiehicpnlaaDoorProg.lean LOADS. Nothing in Lean hashes anything: it is a label: what it is worth is what the hold of that sum in a sandbox is worth. -/
noncomputable def Tryd.pinned : Pinned := { name := "ytkajoiehicpnlaadoor", sum := "91d4d9b61e443a6058e3ad0d12001743724b19e349d2fbf07f691e6f66074944", checked := Tryd.checked }
namespace Rows
def none {H : Type} : Left H := { results := [], args := [] }

/- WHAT THE LISTED PACKAGE-LEVEL VARIABLES READ AS WHEN THE CALL BEGINS. Each datum BY PROGRAM (the guide's laid-datum.mjs) off the statement by which the dump's own 'gosem.cut.vars' lays the variable. In a bare row this is a premise. The card (YtkajoiehicpnlaaDoorCards.lean) ties it to the program's text. -/
def laid_pub_orthodrome_pub_gonum_spatial_curve_ErrUnderflow {H : Type} : DataW H := .iface "*errors.errorString" (.ptr (.agg [.lit (.string [111, 114, 100, 101, 114, 32, 105, 115, 32, 108, 101, 115, 115, 32, 116, 104, 97, 110, 32, 49])]))
def laid_pub_orthodrome_pub_gonum_spatial_curve_ErrOverflow {H : Type} : DataW H := .iface "*errors.errorString" (.ptr (.agg [.lit (.string [111, 118, 101, 114, 102, 108, 111, 119, 32, 105, 110, 116])]))

/-- 'laws.FnHilbertSize': WHATEVER THE INPUT: true; the input reads as it did. -/
def fnHilbertSizeSpec : ChangeSpec := { name := "fnHilbertSize", fn := fun _ => fun
  | [d1, d2] => { results := [.lit (.bool true)], args := [d1, d2] }
  | _ => none }
def fnHilbertSizeRow : OpenClaim := { program := "ytkajoiehicpnlaadoor", sum := "91d4d9b61e443a6058e3ad0d12001743724b19e349d2fbf07f691e6f66074944", func := "pub-orthodrome/laws.FnHilbertSize", spec := "fnHilbertSize", named := ["pub-orthodrome/pub/gonum/spatial/curve.ErrUnderflow", "pub-orthodrome/pub/gonum/spatial/curve.ErrOverflow"], apart := false, laid := [("pub-orthodrome/pub/gonum/spatial/curve.ErrUnderflow", laid_pub_orthodrome_pub_gonum_spatial_curve_ErrUnderflow), ("pub-orthodrome/pub/gonum/spatial/curve.ErrOverflow", laid_pub_orthodrome_pub_gonum_spatial_curve_ErrOverflow)] }
def FnHilbertSizeSaid : Prop := fnHilbertSizeRow.holds Tryd.pinned (OpenSpec.ofChange fnHilbertSizeSpec)

/-- ITS FALSE NEIGHBOUR: 'it returns false'. Refute it at one input. -/
def fnHilbertSizeWrong : ChangeSpec := { name := "fnHilbertSize", fn := fun _ => fun
  | [d1, d2] => { results := [.lit (.bool false)], args := [d1, d2] }
  | _ => none }
def FnHilbertSizeWrongFalsely : Prop := fnHilbertSizeRow.holds Tryd.pinned (OpenSpec.ofChange fnHilbertSizeWrong)

/-- 'laws.FnHilbertSteps': WHATEVER THE INPUT: true; the input reads as it did. -/
def fnHilbertStepsSpec : ChangeSpec := { name := "fnHilbertSteps", fn := fun _ => fun
  | [d1, d2, d3] => { results := [.lit (.bool true)], args := [d1, d2, d3] }
  | _ => none }
def fnHilbertStepsRow : OpenClaim := { program := "ytkajoiehicpnlaadoor", sum := "91d4d9b61e443a6058e3ad0d12001743724b19e349d2fbf07f691e6f66074944", func := "pub-orthodrome/laws.FnHilbertSteps", spec := "fnHilbertSteps", unfollowed := true, recurses := true, named := ["pub-orthodrome/pub/gonum/spatial/curve.ErrUnderflow", "pub-orthodrome/pub/gonum/spatial/curve.ErrOverflow"], apart := false, laid := [("pub-orthodrome/pub/gonum/spatial/curve.ErrUnderflow", laid_pub_orthodrome_pub_gonum_spatial_curve_ErrUnderflow), ("pub-orthodrome/pub/gonum/spatial/curve.ErrOverflow", laid_pub_orthodrome_pub_gonum_spatial_curve_ErrOverflow)] }
def FnHilbertStepsSaid : Prop := fnHilbertStepsRow.holds Tryd.pinned (OpenSpec.ofChange fnHilbertStepsSpec)

/-- ITS FALSE NEIGHBOUR: 'it returns false'. Refute it at one input. -/
def fnHilbertStepsWrong : ChangeSpec := { name := "fnHilbertSteps", fn := fun _ => fun
  | [d1, d2, d3] => { results := [.lit (.bool false)], args := [d1, d2, d3] }
  | _ => none }
def FnHilbertStepsWrongFalsely : Prop := fnHilbertStepsRow.holds Tryd.pinned (OpenSpec.ofChange fnHilbertStepsWrong)

/- THE SECOND FORM. 'bulk': how many values and letters a reading holds, each counted each time it is reached (what is shared counts as often as it is met; a slice's spare places count too). A statement '..UptoSaid' is the law's where the arguments, and the package variables that the reading takes, are together of bulk at most 1048576: NARROWER than '..Said'. Prove '..Said' where nothing that the law and all that it calls make is longer than what came in: it says more and counts as full. Else prove '..UptoSaid'. A law counts once. -/
mutual
def uptoBulk {H : Type} : DataW H → Nat
  | .lit (.string bytes) => bytes.length + 1
  | .lit _ => 1
  | .nil => 1
  | .ptr d => uptoBulk d + 1
  | .slice elems spare => uptoBulkAll elems + uptoBulkAll spare + 1
  | .agg parts => uptoBulkAll parts + 1
  | .iface _ d => uptoBulk d + 1
  | .map entries => uptoBulkEntries entries + 1
  | .held _ => 1
def uptoBulkAll {H : Type} : List (DataW H) → Nat
  | [] => 0
  | d :: r => uptoBulk d + uptoBulkAll r
def uptoBulkEntries {H : Type} : List (Lit × DataW H) → Nat
  | [] => 0
  | x :: r => uptoBulkEntry x + uptoBulkEntries r
def uptoBulkEntry {H : Type} : Lit × DataW H → Nat
  | (.string bytes, d) => bytes.length + uptoBulk d + 1
  | (_, d) => uptoBulk d + 1
 end
def uptoSmall : (H : Type) → List (DataW H) → Bool := fun _ ds => decide (uptoBulkAll ds ≤ 1048576)
def OpenSpec.upto (s : _root_.Go.ChangeSpec) : _root_.Go.OpenSpec := { _root_.Go.OpenSpec.ofChange s with cond := some uptoSmall }

/-- 'laws.FnHilbertSize', WHERE WHAT IT READS IS OF BULK AT MOST 1048576: true; the input reads as it did. -/
def fnHilbertSizeUptoRow : OpenClaim := { program := "ytkajoiehicpnlaadoor", sum := "91d4d9b61e443a6058e3ad0d12001743724b19e349d2fbf07f691e6f66074944", func := "pub-orthodrome/laws.FnHilbertSize", spec := "fnHilbertSize", named := ["pub-orthodrome/pub/gonum/spatial/curve.ErrUnderflow", "pub-orthodrome/pub/gonum/spatial/curve.ErrOverflow"], apart := false, laid := [("pub-orthodrome/pub/gonum/spatial/curve.ErrUnderflow", laid_pub_orthodrome_pub_gonum_spatial_curve_ErrUnderflow), ("pub-orthodrome/pub/gonum/spatial/curve.ErrOverflow", laid_pub_orthodrome_pub_gonum_spatial_curve_ErrOverflow)], narrowed := true }
def FnHilbertSizeUptoSaid : Prop := fnHilbertSizeUptoRow.holds Tryd.pinned (OpenSpec.upto fnHilbertSizeSpec)

/-- 'laws.FnHilbertSteps', WHERE WHAT IT READS IS OF BULK AT MOST 1048576: true; the input reads as it did. -/
def fnHilbertStepsUptoRow : OpenClaim := { program := "ytkajoiehicpnlaadoor", sum := "91d4d9b61e443a6058e3ad0d12001743724b19e349d2fbf07f691e6f66074944", func := "pub-orthodrome/laws.FnHilbertSteps", spec := "fnHilbertSteps", unfollowed := true, recurses := true, named := ["pub-orthodrome/pub/gonum/spatial/curve.ErrUnderflow", "pub-orthodrome/pub/gonum/spatial/curve.ErrOverflow"], apart := false, laid := [("pub-orthodrome/pub/gonum/spatial/curve.ErrUnderflow", laid_pub_orthodrome_pub_gonum_spatial_curve_ErrUnderflow), ("pub-orthodrome/pub/gonum/spatial/curve.ErrOverflow", laid_pub_orthodrome_pub_gonum_spatial_curve_ErrOverflow)], narrowed := true }
def FnHilbertStepsUptoSaid : Prop := fnHilbertStepsUptoRow.holds Tryd.pinned (OpenSpec.upto fnHilbertStepsSpec)

end Rows
end Go.Proofs.YtkajoiehicpnlaaDoor
