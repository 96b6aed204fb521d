/-
  NARROWER THAN 'FOR EVERY INPUT', by the rows' own cells (each row's printed sentence says how): FnFlatOf: loops · FnNumParts: loops · FnSubJoins: loops · FnLinesCoords: loops · FnReverse: loops · FnAreaMoved: loops.
  DERIVED. THE GIVEN ROWS OF THIS SEAT. 7 by the template 'for every input the law returns true; each argument reads behind the call as it read before'; 0 by the template 'total and deterministic' (their statements: YtlafodjpnolmhaaTotals.lean).
  GIVEN WITH THE SEED: the statements are not yours to turn. If you find one false, say at which input.
  Laid BY PROGRAM, IN A SANDBOX (cutbox-rows.mjs): the forced cells as the released guide's own fill.sh prints them over the translation fa3ba35c9a5dd928… (all of the seat's roots in one cut). By AI agents, Wed Nov 11 2026. No macro, syntax, notation, axiom, sorry.
-/
import Derived.Test.YtlafodjpnolmhaaChecked
import GoSem.Claim
import GoSem.ClaimJoined
import GoSem.ClaimMapViews
import Derived.JoinedTies
import Derived.KernelRfl
namespace Go.Proofs.Ytlafodjpnolmhaa
/- THE CELL 'sum', in the pinned program and in every row, IS THE sha256 OF THE DUMP (.gsa) THAT YtlafodjpnolmhaaProg.lean LOADS. Nothing in Lean hashes anything: it is a label: what it is worth is what the hold of that sum in a sandbox is worth. -/
noncomputable def Try.pinned : Pinned := { name := "ytlafodjpnolmhaa", sum := "fa3ba35c9a5dd928bf4e97565b3effb6ee599416deebf2d79659642d9c5f872e", checked := Try.checked }
namespace Rows
def none {H : Type} : Left H := { results := [], args := [] }

/-- 'laws.FnSetAreas': WHATEVER THE INPUT: true; the input reads as it did. -/
def fnSetAreasSpec : ChangeSpec := { name := "fnSetAreas", fn := fun _ => fun
  | [d1, d2] => { results := [.lit (.bool true)], args := [d1, d2] }
  | _ => none }
def fnSetAreasRow : OpenClaim := { program := "ytlafodjpnolmhaa", sum := "fa3ba35c9a5dd928bf4e97565b3effb6ee599416deebf2d79659642d9c5f872e", func := "pub-orthodrome/laws.FnSetAreas", spec := "fnSetAreas", inPlace := ["math.Float64bits"], unfollowed := true, recurses := true, apart := false }
def FnSetAreasSaid : Prop := fnSetAreasRow.holds Try.pinned (OpenSpec.ofChange fnSetAreasSpec)

/-- ITS FALSE NEIGHBOUR: 'it returns false'. Refute it at one input. -/
def fnSetAreasWrong : ChangeSpec := { name := "fnSetAreas", fn := fun _ => fun
  | [d1, d2] => { results := [.lit (.bool false)], args := [d1, d2] }
  | _ => none }
def FnSetAreasWrongFalsely : Prop := fnSetAreasRow.holds Try.pinned (OpenSpec.ofChange fnSetAreasWrong)

/-- 'laws.FnFlatOf': WHATEVER THE INPUT: true; the input reads as it did. -/
def fnFlatOfSpec : ChangeSpec := { name := "fnFlatOf", fn := fun _ => fun
  | [d] => { results := [.lit (.bool true)], args := [d] }
  | _ => none }
def fnFlatOfRow : OpenClaim := { program := "ytlafodjpnolmhaa", sum := "fa3ba35c9a5dd928bf4e97565b3effb6ee599416deebf2d79659642d9c5f872e", func := "pub-orthodrome/laws.FnFlatOf", spec := "fnFlatOf", inPlace := ["math.Float64bits"], unfollowed := true, recurses := true, loops := true, apart := false }
def FnFlatOfSaid : Prop := fnFlatOfRow.holds Try.pinned (OpenSpec.ofChange fnFlatOfSpec)

/-- ITS FALSE NEIGHBOUR: 'it returns false'. Refute it at one input. -/
def fnFlatOfWrong : ChangeSpec := { name := "fnFlatOf", fn := fun _ => fun
  | [d] => { results := [.lit (.bool false)], args := [d] }
  | _ => none }
def FnFlatOfWrongFalsely : Prop := fnFlatOfRow.holds Try.pinned (OpenSpec.ofChange fnFlatOfWrong)

/-- 'laws.FnNumParts': WHATEVER THE INPUT: true; the input reads as it did. -/
def fnNumPartsSpec : ChangeSpec := { name := "fnNumParts", fn := fun _ => fun
  | [d] => { results := [.lit (.bool true)], args := [d] }
  | _ => none }
def fnNumPartsRow : OpenClaim := { program := "ytlafodjpnolmhaa", sum := "fa3ba35c9a5dd928bf4e97565b3effb6ee599416deebf2d79659642d9c5f872e", func := "pub-orthodrome/laws.FnNumParts", spec := "fnNumParts", unfollowed := true, recurses := true, loops := true, apart := false }
def FnNumPartsSaid : Prop := fnNumPartsRow.holds Try.pinned (OpenSpec.ofChange fnNumPartsSpec)

/-- ITS FALSE NEIGHBOUR: 'it returns false'. Refute it at one input. -/
def fnNumPartsWrong : ChangeSpec := { name := "fnNumParts", fn := fun _ => fun
  | [d] => { results := [.lit (.bool false)], args := [d] }
  | _ => none }
def FnNumPartsWrongFalsely : Prop := fnNumPartsRow.holds Try.pinned (OpenSpec.ofChange fnNumPartsWrong)

/-- 'laws.FnSubJoins': WHATEVER THE INPUT: true; the input reads as it did. -/
def fnSubJoinsSpec : ChangeSpec := { name := "fnSubJoins", fn := fun _ => fun
  | [d1, d2] => { results := [.lit (.bool true)], args := [d1, d2] }
  | _ => none }
def fnSubJoinsRow : OpenClaim := { program := "ytlafodjpnolmhaa", sum := "fa3ba35c9a5dd928bf4e97565b3effb6ee599416deebf2d79659642d9c5f872e", func := "pub-orthodrome/laws.FnSubJoins", spec := "fnSubJoins", inPlace := ["math.Float64bits"], unfollowed := true, recurses := true, loops := true, apart := false }
def FnSubJoinsSaid : Prop := fnSubJoinsRow.holds Try.pinned (OpenSpec.ofChange fnSubJoinsSpec)

/-- ITS FALSE NEIGHBOUR: 'it returns false'. Refute it at one input. -/
def fnSubJoinsWrong : ChangeSpec := { name := "fnSubJoins", fn := fun _ => fun
  | [d1, d2] => { results := [.lit (.bool false)], args := [d1, d2] }
  | _ => none }
def FnSubJoinsWrongFalsely : Prop := fnSubJoinsRow.holds Try.pinned (OpenSpec.ofChange fnSubJoinsWrong)

/-- 'laws.FnLinesCoords': WHATEVER THE INPUT: true; the input reads as it did. -/
def fnLinesCoordsSpec : ChangeSpec := { name := "fnLinesCoords", fn := fun _ => fun
  | [d] => { results := [.lit (.bool true)], args := [d] }
  | _ => none }
def fnLinesCoordsRow : OpenClaim := { program := "ytlafodjpnolmhaa", sum := "fa3ba35c9a5dd928bf4e97565b3effb6ee599416deebf2d79659642d9c5f872e", func := "pub-orthodrome/laws.FnLinesCoords", spec := "fnLinesCoords", inPlace := ["math.Float64bits"], unfollowed := true, recurses := true, loops := true, apart := false }
def FnLinesCoordsSaid : Prop := fnLinesCoordsRow.holds Try.pinned (OpenSpec.ofChange fnLinesCoordsSpec)

/-- ITS FALSE NEIGHBOUR: 'it returns false'. Refute it at one input. -/
def fnLinesCoordsWrong : ChangeSpec := { name := "fnLinesCoords", fn := fun _ => fun
  | [d] => { results := [.lit (.bool false)], args := [d] }
  | _ => none }
def FnLinesCoordsWrongFalsely : Prop := fnLinesCoordsRow.holds Try.pinned (OpenSpec.ofChange fnLinesCoordsWrong)

/-- 'laws.FnReverse': WHATEVER THE INPUT: true; the input reads as it did. -/
def fnReverseSpec : ChangeSpec := { name := "fnReverse", fn := fun _ => fun
  | [d] => { results := [.lit (.bool true)], args := [d] }
  | _ => none }
def fnReverseRow : OpenClaim := { program := "ytlafodjpnolmhaa", sum := "fa3ba35c9a5dd928bf4e97565b3effb6ee599416deebf2d79659642d9c5f872e", func := "pub-orthodrome/laws.FnReverse", spec := "fnReverse", inPlace := ["math.Float64bits"], unfollowed := true, recurses := true, loops := true, apart := false }
def FnReverseSaid : Prop := fnReverseRow.holds Try.pinned (OpenSpec.ofChange fnReverseSpec)

/-- ITS FALSE NEIGHBOUR: 'it returns false'. Refute it at one input. -/
def fnReverseWrong : ChangeSpec := { name := "fnReverse", fn := fun _ => fun
  | [d] => { results := [.lit (.bool false)], args := [d] }
  | _ => none }
def FnReverseWrongFalsely : Prop := fnReverseRow.holds Try.pinned (OpenSpec.ofChange fnReverseWrong)

/-- 'laws.FnAreaMoved': WHATEVER THE INPUT: true; the input reads as it did. -/
def fnAreaMovedSpec : ChangeSpec := { name := "fnAreaMoved", fn := fun _ => fun
  | [d1, d2, d3] => { results := [.lit (.bool true)], args := [d1, d2, d3] }
  | _ => none }
def fnAreaMovedRow : OpenClaim := { program := "ytlafodjpnolmhaa", sum := "fa3ba35c9a5dd928bf4e97565b3effb6ee599416deebf2d79659642d9c5f872e", func := "pub-orthodrome/laws.FnAreaMoved", spec := "fnAreaMoved", inPlace := ["math.archTrunc", "math.Float64bits", "math.Float64frombits"], unfollowed := true, recurses := true, loops := true, apart := false }
def FnAreaMovedSaid : Prop := fnAreaMovedRow.holds Try.pinned (OpenSpec.ofChange fnAreaMovedSpec)

/-- ITS FALSE NEIGHBOUR: 'it returns false'. Refute it at one input. -/
def fnAreaMovedWrong : ChangeSpec := { name := "fnAreaMoved", fn := fun _ => fun
  | [d1, d2, d3] => { results := [.lit (.bool false)], args := [d1, d2, d3] }
  | _ => none }
def FnAreaMovedWrongFalsely : Prop := fnAreaMovedRow.holds Try.pinned (OpenSpec.ofChange fnAreaMovedWrong)

/- THE SECOND FORM. 'bulk': how many values and letters a reading holds, each counted each time it is reached (what is shared counts as often as it is met; a slice's spare places count too). A statement '..UptoSaid' is the law's where the arguments, and the package variables that the reading takes, are together of bulk at most 1048576: NARROWER than '..Said'. Prove '..Said' where nothing that the law and all that it calls make is longer than what came in: it says more and counts as full. Else prove '..UptoSaid'. A law counts once. -/
mutual
def uptoBulk {H : Type} : DataW H → Nat
  | .lit (.string bytes) => bytes.length + 1
  | .lit _ => 1
  | .nil => 1
  | .ptr d => uptoBulk d + 1
  | .slice elems spare => uptoBulkAll elems + uptoBulkAll spare + 1
  | .agg parts => uptoBulkAll parts + 1
  | .iface _ d => uptoBulk d + 1
  | .map entries => uptoBulkEntries entries + 1
  | .held _ => 1
def uptoBulkAll {H : Type} : List (DataW H) → Nat
  | [] => 0
  | d :: r => uptoBulk d + uptoBulkAll r
def uptoBulkEntries {H : Type} : List (Lit × DataW H) → Nat
  | [] => 0
  | x :: r => uptoBulkEntry x + uptoBulkEntries r
def uptoBulkEntry {H : Type} : Lit × DataW H → Nat
  | (.string bytes, d) => bytes.length + uptoBulk d + 1
  | (_, d) => uptoBulk d + 1
 end
def uptoSmall : (H : Type) → List (DataW H) → Bool := fun _ ds => decide (uptoBulkAll ds ≤ 1048576)
def OpenSpec.upto (s : _root_.Go.ChangeSpec) : _root_.Go.OpenSpec := { _root_.Go.OpenSpec.ofChange s with cond := some uptoSmall }

/-- 'laws.FnSetAreas', WHERE WHAT IT READS IS OF BULK AT MOST 1048576: true; the input reads as it did. -/
def fnSetAreasUptoRow : OpenClaim := { program := "ytlafodjpnolmhaa", sum := "fa3ba35c9a5dd928bf4e97565b3effb6ee599416deebf2d79659642d9c5f872e", func := "pub-orthodrome/laws.FnSetAreas", spec := "fnSetAreas", inPlace := ["math.Float64bits"], unfollowed := true, recurses := true, apart := false, narrowed := true }
def FnSetAreasUptoSaid : Prop := fnSetAreasUptoRow.holds Try.pinned (OpenSpec.upto fnSetAreasSpec)

/-- 'laws.FnFlatOf', WHERE WHAT IT READS IS OF BULK AT MOST 1048576: true; the input reads as it did. -/
def fnFlatOfUptoRow : OpenClaim := { program := "ytlafodjpnolmhaa", sum := "fa3ba35c9a5dd928bf4e97565b3effb6ee599416deebf2d79659642d9c5f872e", func := "pub-orthodrome/laws.FnFlatOf", spec := "fnFlatOf", inPlace := ["math.Float64bits"], unfollowed := true, recurses := true, loops := true, apart := false, narrowed := true }
def FnFlatOfUptoSaid : Prop := fnFlatOfUptoRow.holds Try.pinned (OpenSpec.upto fnFlatOfSpec)

/-- 'laws.FnNumParts', WHERE WHAT IT READS IS OF BULK AT MOST 1048576: true; the input reads as it did. -/
def fnNumPartsUptoRow : OpenClaim := { program := "ytlafodjpnolmhaa", sum := "fa3ba35c9a5dd928bf4e97565b3effb6ee599416deebf2d79659642d9c5f872e", func := "pub-orthodrome/laws.FnNumParts", spec := "fnNumParts", unfollowed := true, recurses := true, loops := true, apart := false, narrowed := true }
def FnNumPartsUptoSaid : Prop := fnNumPartsUptoRow.holds Try.pinned (OpenSpec.upto fnNumPartsSpec)

/-- 'laws.FnSubJoins', WHERE WHAT IT READS IS OF BULK AT MOST 1048576: true; the input reads as it did. -/
def fnSubJoinsUptoRow : OpenClaim := { program := "ytlafodjpnolmhaa", sum := "fa3ba35c9a5dd928bf4e97565b3effb6ee599416deebf2d79659642d9c5f872e", func := "pub-orthodrome/laws.FnSubJoins", spec := "fnSubJoins", inPlace := ["math.Float64bits"], unfollowed := true, recurses := true, loops := true, apart := false, narrowed := true }
def FnSubJoinsUptoSaid : Prop := fnSubJoinsUptoRow.holds Try.pinned (OpenSpec.upto fnSubJoinsSpec)

/-- 'laws.FnLinesCoords', WHERE WHAT IT READS IS OF BULK AT MOST 1048576: true; the input reads as it did. -/
def fnLinesCoordsUptoRow : OpenClaim := { program := "ytlafodjpnolmhaa", sum := "fa3ba35c9a5dd928bf4e97565b3effb6ee599416deebf2d79659642d9c5f872e", func := "pub-orthodrome/laws.FnLinesCoords", spec := "fnLinesCoords", inPlace := ["math.Float64bits"], unfollowed := true, recurses := true, loops := true, apart := false, narrowed := true }
def FnLinesCoordsUptoSaid : Prop := fnLinesCoordsUptoRow.holds Try.pinned (OpenSpec.upto fnLinesCoordsSpec)

/-- 'laws.FnReverse', WHERE WHAT IT READS IS OF BULK AT MOST 1048576: true; the input reads as it did. -/
def fnReverseUptoRow : OpenClaim := { program := "ytlafodjpnolmhaa", sum := "fa3ba35c9a5dd928bf4e97565b3effb6ee599416deebf2d79659642d9c5f872e", func := "pub-orthodrome/laws.FnReverse", spec := "fnReverse", inPlace := ["math.Float64bits"], unfollowed := true, recurses := true, loops := true, apart := false, narrowed := true }
def FnReverseUptoSaid : Prop := fnReverseUptoRow.holds Try.pinned (OpenSpec.upto fnReverseSpec)

/-- 'laws.FnAreaMoved', WHERE WHAT IT READS IS OF BULK AT MOST 1048576: true; the input reads as it did. -/
def fnAreaMovedUptoRow : OpenClaim := { program := "ytlafodjpnolmhaa", sum := "fa3ba35c9a5dd928bf4e97565b3effb6ee599416deebf2d79659642d9c5f872e", func := "pub-orthodrome/laws.FnAreaMoved", spec := "fnAreaMoved", inPlace := ["math.archTrunc", "math.Float64bits", "math.Float64frombits"], unfollowed := true, recurses := true, loops := true, apart := false, narrowed := true }
def FnAreaMovedUptoSaid : Prop := fnAreaMovedUptoRow.holds Try.pinned (OpenSpec.upto fnAreaMovedSpec)

end Rows
end Go.Proofs.Ytlafodjpnolmhaa
