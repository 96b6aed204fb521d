/-
  No cell of these rows narrows 'for every input' (looked for: loops, veiled, ifaces, maps, wideKeys, modest, calm, conditions, laid).
  DERIVED. THE GIVEN ROWS OF THIS SEAT. 9 by the template 'for every input the law returns true; each argument reads behind the call as it read before'; 0 by the template 'total and deterministic' (their statements: YthijpgkejnnjeaaTotals.lean).
  GIVEN WITH THE SEED: the statements are not yours to turn. If you find one false, say at which input.
  Laid BY PROGRAM, IN A SANDBOX (cutbox-rows.mjs): the forced cells as the released guide's own fill.sh prints them over the translation 627df648e1b59b65… (all of the seat's roots in one cut). By AI agents, Wed Nov 11 2026. No macro, syntax, notation, axiom, sorry.
-/
import Derived.Test.YthijpgkejnnjeaaChecked
import GoSem.Claim
import GoSem.ClaimJoined
import GoSem.ClaimMapViews
import Derived.JoinedTies
import Derived.KernelRfl
namespace Go.Proofs.Ythijpgkejnnjeaa
/- THE CELL 'sum', in the pinned program and in every row, IS THE sha256 OF THE DUMP (.gsa) THAT YthijpgkejnnjeaaProg.lean LOADS. Nothing in Lean hashes anything: it is a label: what it is worth is what the hold of that sum in a sandbox is worth. -/
noncomputable def Try.pinned : Pinned := { name := "ythijpgkejnnjeaa", sum := "627df648e1b59b65653375e5da72ce8a50fd4a4f9fef756b2f70e21c38b1f5d9", checked := Try.checked }
namespace Rows
def none {H : Type} : Left H := { results := [], args := [] }

/-- 'laws.FnBoxOverlapsPoint': WHATEVER THE INPUT: true; the input reads as it did. -/
def fnBoxOverlapsPointSpec : ChangeSpec := { name := "fnBoxOverlapsPoint", fn := fun _ => fun
  | [d1, d2, d3] => { results := [.lit (.bool true)], args := [d1, d2, d3] }
  | _ => none }
def fnBoxOverlapsPointRow : OpenClaim := { program := "ythijpgkejnnjeaa", sum := "627df648e1b59b65653375e5da72ce8a50fd4a4f9fef756b2f70e21c38b1f5d9", func := "pub-orthodrome/laws.FnBoxOverlapsPoint", spec := "fnBoxOverlapsPoint", unfollowed := true, recurses := true, apart := false }
def FnBoxOverlapsPointSaid : Prop := fnBoxOverlapsPointRow.holds Try.pinned (OpenSpec.ofChange fnBoxOverlapsPointSpec)

/-- ITS FALSE NEIGHBOUR: 'it returns false'. Refute it at one input. -/
def fnBoxOverlapsPointWrong : ChangeSpec := { name := "fnBoxOverlapsPoint", fn := fun _ => fun
  | [d1, d2, d3] => { results := [.lit (.bool false)], args := [d1, d2, d3] }
  | _ => none }
def FnBoxOverlapsPointWrongFalsely : Prop := fnBoxOverlapsPointRow.holds Try.pinned (OpenSpec.ofChange fnBoxOverlapsPointWrong)

/-- 'laws.FnBoxIsEmpty': WHATEVER THE INPUT: true; the input reads as it did. -/
def fnBoxIsEmptySpec : ChangeSpec := { name := "fnBoxIsEmpty", fn := fun _ => fun
  | [d] => { results := [.lit (.bool true)], args := [d] }
  | _ => none }
def fnBoxIsEmptyRow : OpenClaim := { program := "ythijpgkejnnjeaa", sum := "627df648e1b59b65653375e5da72ce8a50fd4a4f9fef756b2f70e21c38b1f5d9", func := "pub-orthodrome/laws.FnBoxIsEmpty", spec := "fnBoxIsEmpty", unfollowed := true, recurses := true, apart := false }
def FnBoxIsEmptySaid : Prop := fnBoxIsEmptyRow.holds Try.pinned (OpenSpec.ofChange fnBoxIsEmptySpec)

/-- ITS FALSE NEIGHBOUR: 'it returns false'. Refute it at one input. -/
def fnBoxIsEmptyWrong : ChangeSpec := { name := "fnBoxIsEmpty", fn := fun _ => fun
  | [d] => { results := [.lit (.bool false)], args := [d] }
  | _ => none }
def FnBoxIsEmptyWrongFalsely : Prop := fnBoxIsEmptyRow.holds Try.pinned (OpenSpec.ofChange fnBoxIsEmptyWrong)

/-- 'laws.FnCoordEqual': WHATEVER THE INPUT: true; the input reads as it did. -/
def fnCoordEqualSpec : ChangeSpec := { name := "fnCoordEqual", fn := fun _ => fun
  | [d1, d2, d3] => { results := [.lit (.bool true)], args := [d1, d2, d3] }
  | _ => none }
def fnCoordEqualRow : OpenClaim := { program := "ythijpgkejnnjeaa", sum := "627df648e1b59b65653375e5da72ce8a50fd4a4f9fef756b2f70e21c38b1f5d9", func := "pub-orthodrome/laws.FnCoordEqual", spec := "fnCoordEqual", unfollowed := true, recurses := true, apart := false }
def FnCoordEqualSaid : Prop := fnCoordEqualRow.holds Try.pinned (OpenSpec.ofChange fnCoordEqualSpec)

/-- ITS FALSE NEIGHBOUR: 'it returns false'. Refute it at one input. -/
def fnCoordEqualWrong : ChangeSpec := { name := "fnCoordEqual", fn := fun _ => fun
  | [d1, d2, d3] => { results := [.lit (.bool false)], args := [d1, d2, d3] }
  | _ => none }
def FnCoordEqualWrongFalsely : Prop := fnCoordEqualRow.holds Try.pinned (OpenSpec.ofChange fnCoordEqualWrong)

/-- 'laws.FnNewBox': WHATEVER THE INPUT: true; the input reads as it did. -/
def fnNewBoxSpec : ChangeSpec := { name := "fnNewBox", fn := fun _ => fun
  | [d] => { results := [.lit (.bool true)], args := [d] }
  | _ => none }
def fnNewBoxRow : OpenClaim := { program := "ythijpgkejnnjeaa", sum := "627df648e1b59b65653375e5da72ce8a50fd4a4f9fef756b2f70e21c38b1f5d9", func := "pub-orthodrome/laws.FnNewBox", spec := "fnNewBox", inPlace := ["math.Float64frombits"], unfollowed := true, recurses := true, apart := false }
def FnNewBoxSaid : Prop := fnNewBoxRow.holds Try.pinned (OpenSpec.ofChange fnNewBoxSpec)

/-- ITS FALSE NEIGHBOUR: 'it returns false'. Refute it at one input. -/
def fnNewBoxWrong : ChangeSpec := { name := "fnNewBox", fn := fun _ => fun
  | [d] => { results := [.lit (.bool false)], args := [d] }
  | _ => none }
def FnNewBoxWrongFalsely : Prop := fnNewBoxRow.holds Try.pinned (OpenSpec.ofChange fnNewBoxWrong)

/-- 'laws.FnBoxExtendLayout': WHATEVER THE INPUT: true; the input reads as it did. -/
def fnBoxExtendLayoutSpec : ChangeSpec := { name := "fnBoxExtendLayout", fn := fun _ => fun
  | [d1, d2] => { results := [.lit (.bool true)], args := [d1, d2] }
  | _ => none }
def fnBoxExtendLayoutRow : OpenClaim := { program := "ythijpgkejnnjeaa", sum := "627df648e1b59b65653375e5da72ce8a50fd4a4f9fef756b2f70e21c38b1f5d9", func := "pub-orthodrome/laws.FnBoxExtendLayout", spec := "fnBoxExtendLayout", inPlace := ["math.Float64frombits"], unfollowed := true, recurses := true, apart := false }
def FnBoxExtendLayoutSaid : Prop := fnBoxExtendLayoutRow.holds Try.pinned (OpenSpec.ofChange fnBoxExtendLayoutSpec)

/-- ITS FALSE NEIGHBOUR: 'it returns false'. Refute it at one input. -/
def fnBoxExtendLayoutWrong : ChangeSpec := { name := "fnBoxExtendLayout", fn := fun _ => fun
  | [d1, d2] => { results := [.lit (.bool false)], args := [d1, d2] }
  | _ => none }
def FnBoxExtendLayoutWrongFalsely : Prop := fnBoxExtendLayoutRow.holds Try.pinned (OpenSpec.ofChange fnBoxExtendLayoutWrong)

/-- 'laws.FnMaybeEmpty': WHATEVER THE INPUT: true; the input reads as it did. -/
def fnMaybeEmptySpec : ChangeSpec := { name := "fnMaybeEmpty", fn := fun _ => fun
  | [d1, d2] => { results := [.lit (.bool true)], args := [d1, d2] }
  | _ => none }
def fnMaybeEmptyRow : OpenClaim := { program := "ythijpgkejnnjeaa", sum := "627df648e1b59b65653375e5da72ce8a50fd4a4f9fef756b2f70e21c38b1f5d9", func := "pub-orthodrome/laws.FnMaybeEmpty", spec := "fnMaybeEmpty", inPlace := ["math.Float64bits"], unfollowed := true, recurses := true, apart := false }
def FnMaybeEmptySaid : Prop := fnMaybeEmptyRow.holds Try.pinned (OpenSpec.ofChange fnMaybeEmptySpec)

/-- ITS FALSE NEIGHBOUR: 'it returns false'. Refute it at one input. -/
def fnMaybeEmptyWrong : ChangeSpec := { name := "fnMaybeEmpty", fn := fun _ => fun
  | [d1, d2] => { results := [.lit (.bool false)], args := [d1, d2] }
  | _ => none }
def FnMaybeEmptyWrongFalsely : Prop := fnMaybeEmptyRow.holds Try.pinned (OpenSpec.ofChange fnMaybeEmptyWrong)

/-- 'laws.FnInLineBox': WHATEVER THE INPUT: true; the input reads as it did. -/
def fnInLineBoxSpec : ChangeSpec := { name := "fnInLineBox", fn := fun _ => fun
  | [d1, d2, d3] => { results := [.lit (.bool true)], args := [d1, d2, d3] }
  | _ => none }
def fnInLineBoxRow : OpenClaim := { program := "ythijpgkejnnjeaa", sum := "627df648e1b59b65653375e5da72ce8a50fd4a4f9fef756b2f70e21c38b1f5d9", func := "pub-orthodrome/laws.FnInLineBox", spec := "fnInLineBox", inPlace := ["math.archMin", "math.Float64bits", "math.Float64frombits", "math.archMax"], apart := false }
def FnInLineBoxSaid : Prop := fnInLineBoxRow.holds Try.pinned (OpenSpec.ofChange fnInLineBoxSpec)

/-- ITS FALSE NEIGHBOUR: 'it returns false'. Refute it at one input. -/
def fnInLineBoxWrong : ChangeSpec := { name := "fnInLineBox", fn := fun _ => fun
  | [d1, d2, d3] => { results := [.lit (.bool false)], args := [d1, d2, d3] }
  | _ => none }
def FnInLineBoxWrongFalsely : Prop := fnInLineBoxRow.holds Try.pinned (OpenSpec.ofChange fnInLineBoxWrong)

/-- 'laws.FnTreeSet': WHATEVER THE INPUT: true; the input reads as it did. -/
def fnTreeSetSpec : ChangeSpec := { name := "fnTreeSet", fn := fun _ => fun
  | [d1, d2, d3] => { results := [.lit (.bool true)], args := [d1, d2, d3] }
  | _ => none }
def fnTreeSetRow : OpenClaim := { program := "ythijpgkejnnjeaa", sum := "627df648e1b59b65653375e5da72ce8a50fd4a4f9fef756b2f70e21c38b1f5d9", func := "pub-orthodrome/laws.FnTreeSet", spec := "fnTreeSet", inPlace := ["math.Float64bits"], unfollowed := true, recurses := true, apart := false }
def FnTreeSetSaid : Prop := fnTreeSetRow.holds Try.pinned (OpenSpec.ofChange fnTreeSetSpec)

/-- ITS FALSE NEIGHBOUR: 'it returns false'. Refute it at one input. -/
def fnTreeSetWrong : ChangeSpec := { name := "fnTreeSet", fn := fun _ => fun
  | [d1, d2, d3] => { results := [.lit (.bool false)], args := [d1, d2, d3] }
  | _ => none }
def FnTreeSetWrongFalsely : Prop := fnTreeSetRow.holds Try.pinned (OpenSpec.ofChange fnTreeSetWrong)

/-- 'laws.FnSortFlatOnce': WHATEVER THE INPUT: true; the input reads as it did. -/
def fnSortFlatOnceSpec : ChangeSpec := { name := "fnSortFlatOnce", fn := fun _ => fun
  | [d] => { results := [.lit (.bool true)], args := [d] }
  | _ => none }
def fnSortFlatOnceRow : OpenClaim := { program := "ythijpgkejnnjeaa", sum := "627df648e1b59b65653375e5da72ce8a50fd4a4f9fef756b2f70e21c38b1f5d9", func := "pub-orthodrome/laws.FnSortFlatOnce", spec := "fnSortFlatOnce", unfollowed := true, recurses := true, apart := false }
def FnSortFlatOnceSaid : Prop := fnSortFlatOnceRow.holds Try.pinned (OpenSpec.ofChange fnSortFlatOnceSpec)

/-- ITS FALSE NEIGHBOUR: 'it returns false'. Refute it at one input. -/
def fnSortFlatOnceWrong : ChangeSpec := { name := "fnSortFlatOnce", fn := fun _ => fun
  | [d] => { results := [.lit (.bool false)], args := [d] }
  | _ => none }
def FnSortFlatOnceWrongFalsely : Prop := fnSortFlatOnceRow.holds Try.pinned (OpenSpec.ofChange fnSortFlatOnceWrong)

/- THE SECOND FORM. 'bulk': how many values and letters a reading holds, each counted each time it is reached (what is shared counts as often as it is met; a slice's spare places count too). A statement '..UptoSaid' is the law's where the arguments, and the package variables that the reading takes, are together of bulk at most 1048576: NARROWER than '..Said'. Prove '..Said' where nothing that the law and all that it calls make is longer than what came in: it says more and counts as full. Else prove '..UptoSaid'. A law counts once. -/
mutual
def uptoBulk {H : Type} : DataW H → Nat
  | .lit (.string bytes) => bytes.length + 1
  | .lit _ => 1
  | .nil => 1
  | .ptr d => uptoBulk d + 1
  | .slice elems spare => uptoBulkAll elems + uptoBulkAll spare + 1
  | .agg parts => uptoBulkAll parts + 1
  | .iface _ d => uptoBulk d + 1
  | .map entries => uptoBulkEntries entries + 1
  | .held _ => 1
def uptoBulkAll {H : Type} : List (DataW H) → Nat
  | [] => 0
  | d :: r => uptoBulk d + uptoBulkAll r
def uptoBulkEntries {H : Type} : List (Lit × DataW H) → Nat
  | [] => 0
  | x :: r => uptoBulkEntry x + uptoBulkEntries r
def uptoBulkEntry {H : Type} : Lit × DataW H → Nat
  | (.string bytes, d) => bytes.length + uptoBulk d + 1
  | (_, d) => uptoBulk d + 1
 end
def uptoSmall : (H : Type) → List (DataW H) → Bool := fun _ ds => decide (uptoBulkAll ds ≤ 1048576)
def OpenSpec.upto (s : _root_.Go.ChangeSpec) : _root_.Go.OpenSpec := { _root_.Go.OpenSpec.ofChange s with cond := some uptoSmall }

/-- 'laws.FnBoxOverlapsPoint', WHERE WHAT IT READS IS OF BULK AT MOST 1048576: true; the input reads as it did. -/
def fnBoxOverlapsPointUptoRow : OpenClaim := { program := "ythijpgkejnnjeaa", sum := "627df648e1b59b65653375e5da72ce8a50fd4a4f9fef756b2f70e21c38b1f5d9", func := "pub-orthodrome/laws.FnBoxOverlapsPoint", spec := "fnBoxOverlapsPoint", unfollowed := true, recurses := true, apart := false, narrowed := true }
def FnBoxOverlapsPointUptoSaid : Prop := fnBoxOverlapsPointUptoRow.holds Try.pinned (OpenSpec.upto fnBoxOverlapsPointSpec)

/-- 'laws.FnBoxIsEmpty', WHERE WHAT IT READS IS OF BULK AT MOST 1048576: true; the input reads as it did. -/
def fnBoxIsEmptyUptoRow : OpenClaim := { program := "ythijpgkejnnjeaa", sum := "627df648e1b59b65653375e5da72ce8a50fd4a4f9fef756b2f70e21c38b1f5d9", func := "pub-orthodrome/laws.FnBoxIsEmpty", spec := "fnBoxIsEmpty", unfollowed := true, recurses := true, apart := false, narrowed := true }
def FnBoxIsEmptyUptoSaid : Prop := fnBoxIsEmptyUptoRow.holds Try.pinned (OpenSpec.upto fnBoxIsEmptySpec)

/-- 'laws.FnCoordEqual', WHERE WHAT IT READS IS OF BULK AT MOST 1048576: true; the input reads as it did. -/
def fnCoordEqualUptoRow : OpenClaim := { program := "ythijpgkejnnjeaa", sum := "627df648e1b59b65653375e5da72ce8a50fd4a4f9fef756b2f70e21c38b1f5d9", func := "pub-orthodrome/laws.FnCoordEqual", spec := "fnCoordEqual", unfollowed := true, recurses := true, apart := false, narrowed := true }
def FnCoordEqualUptoSaid : Prop := fnCoordEqualUptoRow.holds Try.pinned (OpenSpec.upto fnCoordEqualSpec)

/-- 'laws.FnNewBox', WHERE WHAT IT READS IS OF BULK AT MOST 1048576: true; the input reads as it did. -/
def fnNewBoxUptoRow : OpenClaim := { program := "ythijpgkejnnjeaa", sum := "627df648e1b59b65653375e5da72ce8a50fd4a4f9fef756b2f70e21c38b1f5d9", func := "pub-orthodrome/laws.FnNewBox", spec := "fnNewBox", inPlace := ["math.Float64frombits"], unfollowed := true, recurses := true, apart := false, narrowed := true }
def FnNewBoxUptoSaid : Prop := fnNewBoxUptoRow.holds Try.pinned (OpenSpec.upto fnNewBoxSpec)

/-- 'laws.FnBoxExtendLayout', WHERE WHAT IT READS IS OF BULK AT MOST 1048576: true; the input reads as it did. -/
def fnBoxExtendLayoutUptoRow : OpenClaim := { program := "ythijpgkejnnjeaa", sum := "627df648e1b59b65653375e5da72ce8a50fd4a4f9fef756b2f70e21c38b1f5d9", func := "pub-orthodrome/laws.FnBoxExtendLayout", spec := "fnBoxExtendLayout", inPlace := ["math.Float64frombits"], unfollowed := true, recurses := true, apart := false, narrowed := true }
def FnBoxExtendLayoutUptoSaid : Prop := fnBoxExtendLayoutUptoRow.holds Try.pinned (OpenSpec.upto fnBoxExtendLayoutSpec)

/-- 'laws.FnMaybeEmpty', WHERE WHAT IT READS IS OF BULK AT MOST 1048576: true; the input reads as it did. -/
def fnMaybeEmptyUptoRow : OpenClaim := { program := "ythijpgkejnnjeaa", sum := "627df648e1b59b65653375e5da72ce8a50fd4a4f9fef756b2f70e21c38b1f5d9", func := "pub-orthodrome/laws.FnMaybeEmpty", spec := "fnMaybeEmpty", inPlace := ["math.Float64bits"], unfollowed := true, recurses := true, apart := false, narrowed := true }
def FnMaybeEmptyUptoSaid : Prop := fnMaybeEmptyUptoRow.holds Try.pinned (OpenSpec.upto fnMaybeEmptySpec)

/-- 'laws.FnInLineBox', WHERE WHAT IT READS IS OF BULK AT MOST 1048576: true; the input reads as it did. -/
def fnInLineBoxUptoRow : OpenClaim := { program := "ythijpgkejnnjeaa", sum := "627df648e1b59b65653375e5da72ce8a50fd4a4f9fef756b2f70e21c38b1f5d9", func := "pub-orthodrome/laws.FnInLineBox", spec := "fnInLineBox", inPlace := ["math.archMin", "math.Float64bits", "math.Float64frombits", "math.archMax"], apart := false, narrowed := true }
def FnInLineBoxUptoSaid : Prop := fnInLineBoxUptoRow.holds Try.pinned (OpenSpec.upto fnInLineBoxSpec)

/-- 'laws.FnTreeSet', WHERE WHAT IT READS IS OF BULK AT MOST 1048576: true; the input reads as it did. -/
def fnTreeSetUptoRow : OpenClaim := { program := "ythijpgkejnnjeaa", sum := "627df648e1b59b65653375e5da72ce8a50fd4a4f9fef756b2f70e21c38b1f5d9", func := "pub-orthodrome/laws.FnTreeSet", spec := "fnTreeSet", inPlace := ["math.Float64bits"], unfollowed := true, recurses := true, apart := false, narrowed := true }
def FnTreeSetUptoSaid : Prop := fnTreeSetUptoRow.holds Try.pinned (OpenSpec.upto fnTreeSetSpec)

/-- 'laws.FnSortFlatOnce', WHERE WHAT IT READS IS OF BULK AT MOST 1048576: true; the input reads as it did. -/
def fnSortFlatOnceUptoRow : OpenClaim := { program := "ythijpgkejnnjeaa", sum := "627df648e1b59b65653375e5da72ce8a50fd4a4f9fef756b2f70e21c38b1f5d9", func := "pub-orthodrome/laws.FnSortFlatOnce", spec := "fnSortFlatOnce", unfollowed := true, recurses := true, apart := false, narrowed := true }
def FnSortFlatOnceUptoSaid : Prop := fnSortFlatOnceUptoRow.holds Try.pinned (OpenSpec.upto fnSortFlatOnceSpec)

end Rows
end Go.Proofs.Ythijpgkejnnjeaa
