/-
  No cell of these rows narrows 'for every input' (looked for: loops, veiled, ifaces, maps, wideKeys, modest, calm, conditions, laid).
  DERIVED. THE GIVEN ROWS OF THIS SEAT. 8 by the template 'for every input the law returns true; each argument reads behind the call as it read before'; 0 by the template 'total and deterministic' (their statements: YtibeppgdhkjeaaaTotals.lean).
  GIVEN WITH THE SEED: the statements are not yours to turn. If you find one false, say at which input.
  Laid BY PROGRAM, IN A SANDBOX (cutbox-rows.mjs): the forced cells as the released guide's own fill.sh prints them over the translation e6575a36986bae52… (all of the seat's roots in one cut). By AI agents, Wed Nov 11 2026. No macro, syntax, notation, axiom, sorry.
-/
import Derived.Test.YtibeppgdhkjeaaaChecked
import GoSem.Claim
import GoSem.ClaimJoined
import GoSem.ClaimMapViews
import Derived.JoinedTies
import Derived.KernelRfl
namespace Go.Proofs.Ytibeppgdhkjeaaa
/- THE CELL 'sum', in the pinned program and in every row, IS THE sha256 OF THE DUMP (.gsa) THAT YtibeppgdhkjeaaaProg.lean LOADS. Nothing in Lean hashes anything: it is a label: what it is worth is what the hold of that sum in a sandbox is worth. -/
noncomputable def Try.pinned : Pinned := { name := "ytibeppgdhkjeaaa", sum := "e6575a36986bae520a761b42905e4fb2a0226c9c717d90a49d7a7aa520c3215a", checked := Try.checked }
namespace Rows
def none {H : Type} : Left H := { results := [], args := [] }

/-- 'laws.FnReverseFlat3': WHATEVER THE INPUT: true; the input reads as it did. -/
def fnReverseFlat3Spec : ChangeSpec := { name := "fnReverseFlat3", fn := fun _ => fun
  | [d1, d2, d3] => { results := [.lit (.bool true)], args := [d1, d2, d3] }
  | _ => none }
def fnReverseFlat3Row : OpenClaim := { program := "ytibeppgdhkjeaaa", sum := "e6575a36986bae520a761b42905e4fb2a0226c9c717d90a49d7a7aa520c3215a", func := "pub-orthodrome/laws.FnReverseFlat3", spec := "fnReverseFlat3", inPlace := ["math.Float64bits"], unfollowed := true, recurses := true, apart := false }
def FnReverseFlat3Said : Prop := fnReverseFlat3Row.holds Try.pinned (OpenSpec.ofChange fnReverseFlat3Spec)

/-- ITS FALSE NEIGHBOUR: 'it returns false'. Refute it at one input. -/
def fnReverseFlat3Wrong : ChangeSpec := { name := "fnReverseFlat3", fn := fun _ => fun
  | [d1, d2, d3] => { results := [.lit (.bool false)], args := [d1, d2, d3] }
  | _ => none }
def FnReverseFlat3WrongFalsely : Prop := fnReverseFlat3Row.holds Try.pinned (OpenSpec.ofChange fnReverseFlat3Wrong)

/-- 'laws.FnBoxOverlapsPoint': WHATEVER THE INPUT: true; the input reads as it did. -/
def fnBoxOverlapsPointSpec : ChangeSpec := { name := "fnBoxOverlapsPoint", fn := fun _ => fun
  | [d1, d2, d3] => { results := [.lit (.bool true)], args := [d1, d2, d3] }
  | _ => none }
def fnBoxOverlapsPointRow : OpenClaim := { program := "ytibeppgdhkjeaaa", sum := "e6575a36986bae520a761b42905e4fb2a0226c9c717d90a49d7a7aa520c3215a", func := "pub-orthodrome/laws.FnBoxOverlapsPoint", spec := "fnBoxOverlapsPoint", unfollowed := true, recurses := true, apart := false }
def FnBoxOverlapsPointSaid : Prop := fnBoxOverlapsPointRow.holds Try.pinned (OpenSpec.ofChange fnBoxOverlapsPointSpec)

/-- ITS FALSE NEIGHBOUR: 'it returns false'. Refute it at one input. -/
def fnBoxOverlapsPointWrong : ChangeSpec := { name := "fnBoxOverlapsPoint", fn := fun _ => fun
  | [d1, d2, d3] => { results := [.lit (.bool false)], args := [d1, d2, d3] }
  | _ => none }
def FnBoxOverlapsPointWrongFalsely : Prop := fnBoxOverlapsPointRow.holds Try.pinned (OpenSpec.ofChange fnBoxOverlapsPointWrong)

/-- 'laws.FnScale2': WHATEVER THE INPUT: true; the input reads as it did. -/
def fnScale2Spec : ChangeSpec := { name := "fnScale2", fn := fun _ => fun
  | [d1, d2] => { results := [.lit (.bool true)], args := [d1, d2] }
  | _ => none }
def fnScale2Row : OpenClaim := { program := "ytibeppgdhkjeaaa", sum := "e6575a36986bae520a761b42905e4fb2a0226c9c717d90a49d7a7aa520c3215a", func := "pub-orthodrome/laws.FnScale2", spec := "fnScale2", inPlace := ["math.archTrunc", "math.Float64bits", "math.Float64frombits"], apart := false }
def FnScale2Said : Prop := fnScale2Row.holds Try.pinned (OpenSpec.ofChange fnScale2Spec)

/-- ITS FALSE NEIGHBOUR: 'it returns false'. Refute it at one input. -/
def fnScale2Wrong : ChangeSpec := { name := "fnScale2", fn := fun _ => fun
  | [d1, d2] => { results := [.lit (.bool false)], args := [d1, d2] }
  | _ => none }
def FnScale2WrongFalsely : Prop := fnScale2Row.holds Try.pinned (OpenSpec.ofChange fnScale2Wrong)

/-- 'laws.FnCross3': WHATEVER THE INPUT: true; the input reads as it did. -/
def fnCross3Spec : ChangeSpec := { name := "fnCross3", fn := fun _ => fun
  | [d1, d2] => { results := [.lit (.bool true)], args := [d1, d2] }
  | _ => none }
def fnCross3Row : OpenClaim := { program := "ytibeppgdhkjeaaa", sum := "e6575a36986bae520a761b42905e4fb2a0226c9c717d90a49d7a7aa520c3215a", func := "pub-orthodrome/laws.FnCross3", spec := "fnCross3", inPlace := ["math.archTrunc", "math.Float64bits", "math.Float64frombits"], unfollowed := true, recurses := true, apart := false }
def FnCross3Said : Prop := fnCross3Row.holds Try.pinned (OpenSpec.ofChange fnCross3Spec)

/-- ITS FALSE NEIGHBOUR: 'it returns false'. Refute it at one input. -/
def fnCross3Wrong : ChangeSpec := { name := "fnCross3", fn := fun _ => fun
  | [d1, d2] => { results := [.lit (.bool false)], args := [d1, d2] }
  | _ => none }
def FnCross3WrongFalsely : Prop := fnCross3Row.holds Try.pinned (OpenSpec.ofChange fnCross3Wrong)

/-- 'laws.FnScale3': WHATEVER THE INPUT: true; the input reads as it did. -/
def fnScale3Spec : ChangeSpec := { name := "fnScale3", fn := fun _ => fun
  | [d1, d2] => { results := [.lit (.bool true)], args := [d1, d2] }
  | _ => none }
def fnScale3Row : OpenClaim := { program := "ytibeppgdhkjeaaa", sum := "e6575a36986bae520a761b42905e4fb2a0226c9c717d90a49d7a7aa520c3215a", func := "pub-orthodrome/laws.FnScale3", spec := "fnScale3", inPlace := ["math.archTrunc", "math.Float64bits", "math.Float64frombits"], apart := false }
def FnScale3Said : Prop := fnScale3Row.holds Try.pinned (OpenSpec.ofChange fnScale3Spec)

/-- ITS FALSE NEIGHBOUR: 'it returns false'. Refute it at one input. -/
def fnScale3Wrong : ChangeSpec := { name := "fnScale3", fn := fun _ => fun
  | [d1, d2] => { results := [.lit (.bool false)], args := [d1, d2] }
  | _ => none }
def FnScale3WrongFalsely : Prop := fnScale3Row.holds Try.pinned (OpenSpec.ofChange fnScale3Wrong)

/-- 'laws.FnBoxIsEmpty': WHATEVER THE INPUT: true; the input reads as it did. -/
def fnBoxIsEmptySpec : ChangeSpec := { name := "fnBoxIsEmpty", fn := fun _ => fun
  | [d] => { results := [.lit (.bool true)], args := [d] }
  | _ => none }
def fnBoxIsEmptyRow : OpenClaim := { program := "ytibeppgdhkjeaaa", sum := "e6575a36986bae520a761b42905e4fb2a0226c9c717d90a49d7a7aa520c3215a", func := "pub-orthodrome/laws.FnBoxIsEmpty", spec := "fnBoxIsEmpty", unfollowed := true, recurses := true, apart := false }
def FnBoxIsEmptySaid : Prop := fnBoxIsEmptyRow.holds Try.pinned (OpenSpec.ofChange fnBoxIsEmptySpec)

/-- ITS FALSE NEIGHBOUR: 'it returns false'. Refute it at one input. -/
def fnBoxIsEmptyWrong : ChangeSpec := { name := "fnBoxIsEmpty", fn := fun _ => fun
  | [d] => { results := [.lit (.bool false)], args := [d] }
  | _ => none }
def FnBoxIsEmptyWrongFalsely : Prop := fnBoxIsEmptyRow.holds Try.pinned (OpenSpec.ofChange fnBoxIsEmptyWrong)

/-- 'laws.FnCoordEqual': WHATEVER THE INPUT: true; the input reads as it did. -/
def fnCoordEqualSpec : ChangeSpec := { name := "fnCoordEqual", fn := fun _ => fun
  | [d1, d2, d3] => { results := [.lit (.bool true)], args := [d1, d2, d3] }
  | _ => none }
def fnCoordEqualRow : OpenClaim := { program := "ytibeppgdhkjeaaa", sum := "e6575a36986bae520a761b42905e4fb2a0226c9c717d90a49d7a7aa520c3215a", func := "pub-orthodrome/laws.FnCoordEqual", spec := "fnCoordEqual", unfollowed := true, recurses := true, apart := false }
def FnCoordEqualSaid : Prop := fnCoordEqualRow.holds Try.pinned (OpenSpec.ofChange fnCoordEqualSpec)

/-- ITS FALSE NEIGHBOUR: 'it returns false'. Refute it at one input. -/
def fnCoordEqualWrong : ChangeSpec := { name := "fnCoordEqual", fn := fun _ => fun
  | [d1, d2, d3] => { results := [.lit (.bool false)], args := [d1, d2, d3] }
  | _ => none }
def FnCoordEqualWrongFalsely : Prop := fnCoordEqualRow.holds Try.pinned (OpenSpec.ofChange fnCoordEqualWrong)

/-- 'laws.FnNewBox': WHATEVER THE INPUT: true; the input reads as it did. -/
def fnNewBoxSpec : ChangeSpec := { name := "fnNewBox", fn := fun _ => fun
  | [d] => { results := [.lit (.bool true)], args := [d] }
  | _ => none }
def fnNewBoxRow : OpenClaim := { program := "ytibeppgdhkjeaaa", sum := "e6575a36986bae520a761b42905e4fb2a0226c9c717d90a49d7a7aa520c3215a", func := "pub-orthodrome/laws.FnNewBox", spec := "fnNewBox", inPlace := ["math.Float64frombits"], unfollowed := true, recurses := true, apart := false }
def FnNewBoxSaid : Prop := fnNewBoxRow.holds Try.pinned (OpenSpec.ofChange fnNewBoxSpec)

/-- ITS FALSE NEIGHBOUR: 'it returns false'. Refute it at one input. -/
def fnNewBoxWrong : ChangeSpec := { name := "fnNewBox", fn := fun _ => fun
  | [d] => { results := [.lit (.bool false)], args := [d] }
  | _ => none }
def FnNewBoxWrongFalsely : Prop := fnNewBoxRow.holds Try.pinned (OpenSpec.ofChange fnNewBoxWrong)

/- THE SECOND FORM. 'bulk': how many values and letters a reading holds, each counted each time it is reached (what is shared counts as often as it is met; a slice's spare places count too). A statement '..UptoSaid' is the law's where the arguments, and the package variables that the reading takes, are together of bulk at most 1048576: NARROWER than '..Said'. Prove '..Said' where nothing that the law and all that it calls make is longer than what came in: it says more and counts as full. Else prove '..UptoSaid'. A law counts once. -/
mutual
def uptoBulk {H : Type} : DataW H → Nat
  | .lit (.string bytes) => bytes.length + 1
  | .lit _ => 1
  | .nil => 1
  | .ptr d => uptoBulk d + 1
  | .slice elems spare => uptoBulkAll elems + uptoBulkAll spare + 1
  | .agg parts => uptoBulkAll parts + 1
  | .iface _ d => uptoBulk d + 1
  | .map entries => uptoBulkEntries entries + 1
  | .held _ => 1
def uptoBulkAll {H : Type} : List (DataW H) → Nat
  | [] => 0
  | d :: r => uptoBulk d + uptoBulkAll r
def uptoBulkEntries {H : Type} : List (Lit × DataW H) → Nat
  | [] => 0
  | x :: r => uptoBulkEntry x + uptoBulkEntries r
def uptoBulkEntry {H : Type} : Lit × DataW H → Nat
  | (.string bytes, d) => bytes.length + uptoBulk d + 1
  | (_, d) => uptoBulk d + 1
 end
def uptoSmall : (H : Type) → List (DataW H) → Bool := fun _ ds => decide (uptoBulkAll ds ≤ 1048576)
def OpenSpec.upto (s : _root_.Go.ChangeSpec) : _root_.Go.OpenSpec := { _root_.Go.OpenSpec.ofChange s with cond := some uptoSmall }

/-- 'laws.FnReverseFlat3', WHERE WHAT IT READS IS OF BULK AT MOST 1048576: true; the input reads as it did. -/
def fnReverseFlat3UptoRow : OpenClaim := { program := "ytibeppgdhkjeaaa", sum := "e6575a36986bae520a761b42905e4fb2a0226c9c717d90a49d7a7aa520c3215a", func := "pub-orthodrome/laws.FnReverseFlat3", spec := "fnReverseFlat3", inPlace := ["math.Float64bits"], unfollowed := true, recurses := true, apart := false, narrowed := true }
def FnReverseFlat3UptoSaid : Prop := fnReverseFlat3UptoRow.holds Try.pinned (OpenSpec.upto fnReverseFlat3Spec)

/-- 'laws.FnBoxOverlapsPoint', WHERE WHAT IT READS IS OF BULK AT MOST 1048576: true; the input reads as it did. -/
def fnBoxOverlapsPointUptoRow : OpenClaim := { program := "ytibeppgdhkjeaaa", sum := "e6575a36986bae520a761b42905e4fb2a0226c9c717d90a49d7a7aa520c3215a", func := "pub-orthodrome/laws.FnBoxOverlapsPoint", spec := "fnBoxOverlapsPoint", unfollowed := true, recurses := true, apart := false, narrowed := true }
def FnBoxOverlapsPointUptoSaid : Prop := fnBoxOverlapsPointUptoRow.holds Try.pinned (OpenSpec.upto fnBoxOverlapsPointSpec)

/-- 'laws.FnScale2', WHERE WHAT IT READS IS OF BULK AT MOST 1048576: true; the input reads as it did. -/
def fnScale2UptoRow : OpenClaim := { program := "ytibeppgdhkjeaaa", sum := "e6575a36986bae520a761b42905e4fb2a0226c9c717d90a49d7a7aa520c3215a", func := "pub-orthodrome/laws.FnScale2", spec := "fnScale2", inPlace := ["math.archTrunc", "math.Float64bits", "math.Float64frombits"], apart := false, narrowed := true }
def FnScale2UptoSaid : Prop := fnScale2UptoRow.holds Try.pinned (OpenSpec.upto fnScale2Spec)

/-- 'laws.FnCross3', WHERE WHAT IT READS IS OF BULK AT MOST 1048576: true; the input reads as it did. -/
def fnCross3UptoRow : OpenClaim := { program := "ytibeppgdhkjeaaa", sum := "e6575a36986bae520a761b42905e4fb2a0226c9c717d90a49d7a7aa520c3215a", func := "pub-orthodrome/laws.FnCross3", spec := "fnCross3", inPlace := ["math.archTrunc", "math.Float64bits", "math.Float64frombits"], unfollowed := true, recurses := true, apart := false, narrowed := true }
def FnCross3UptoSaid : Prop := fnCross3UptoRow.holds Try.pinned (OpenSpec.upto fnCross3Spec)

/-- 'laws.FnScale3', WHERE WHAT IT READS IS OF BULK AT MOST 1048576: true; the input reads as it did. -/
def fnScale3UptoRow : OpenClaim := { program := "ytibeppgdhkjeaaa", sum := "e6575a36986bae520a761b42905e4fb2a0226c9c717d90a49d7a7aa520c3215a", func := "pub-orthodrome/laws.FnScale3", spec := "fnScale3", inPlace := ["math.archTrunc", "math.Float64bits", "math.Float64frombits"], apart := false, narrowed := true }
def FnScale3UptoSaid : Prop := fnScale3UptoRow.holds Try.pinned (OpenSpec.upto fnScale3Spec)

/-- 'laws.FnBoxIsEmpty', WHERE WHAT IT READS IS OF BULK AT MOST 1048576: true; the input reads as it did. -/
def fnBoxIsEmptyUptoRow : OpenClaim := { program := "ytibeppgdhkjeaaa", sum := "e6575a36986bae520a761b42905e4fb2a0226c9c717d90a49d7a7aa520c3215a", func := "pub-orthodrome/laws.FnBoxIsEmpty", spec := "fnBoxIsEmpty", unfollowed := true, recurses := true, apart := false, narrowed := true }
def FnBoxIsEmptyUptoSaid : Prop := fnBoxIsEmptyUptoRow.holds Try.pinned (OpenSpec.upto fnBoxIsEmptySpec)

/-- 'laws.FnCoordEqual', WHERE WHAT IT READS IS OF BULK AT MOST 1048576: true; the input reads as it did. -/
def fnCoordEqualUptoRow : OpenClaim := { program := "ytibeppgdhkjeaaa", sum := "e6575a36986bae520a761b42905e4fb2a0226c9c717d90a49d7a7aa520c3215a", func := "pub-orthodrome/laws.FnCoordEqual", spec := "fnCoordEqual", unfollowed := true, recurses := true, apart := false, narrowed := true }
def FnCoordEqualUptoSaid : Prop := fnCoordEqualUptoRow.holds Try.pinned (OpenSpec.upto fnCoordEqualSpec)

/-- 'laws.FnNewBox', WHERE WHAT IT READS IS OF BULK AT MOST 1048576: true; the input reads as it did. -/
def fnNewBoxUptoRow : OpenClaim := { program := "ytibeppgdhkjeaaa", sum := "e6575a36986bae520a761b42905e4fb2a0226c9c717d90a49d7a7aa520c3215a", func := "pub-orthodrome/laws.FnNewBox", spec := "fnNewBox", inPlace := ["math.Float64frombits"], unfollowed := true, recurses := true, apart := false, narrowed := true }
def FnNewBoxUptoSaid : Prop := fnNewBoxUptoRow.holds Try.pinned (OpenSpec.upto fnNewBoxSpec)

end Rows
end Go.Proofs.Ytibeppgdhkjeaaa
