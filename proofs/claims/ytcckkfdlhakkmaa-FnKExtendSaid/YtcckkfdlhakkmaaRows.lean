/-
  No cell of these rows narrows 'for every input' (looked for: loops, veiled, ifaces, maps, wideKeys, modest, calm, conditions, laid).
  DERIVED. THE GIVEN ROWS OF THIS SEAT. 5 by the template 'for every input the law returns true; each argument reads behind the call as it read before'; 0 by the template 'total and deterministic' (their statements: YtcckkfdlhakkmaaTotals.lean).
  GIVEN WITH THE SEED: the statements are not yours to turn. If you find one false, say at which input.
  Laid BY PROGRAM, IN A SANDBOX (cutbox-rows.mjs): the forced cells as the released guide's own fill.sh prints them over the translation 9e2fbeea6833c249… (all of the seat's roots in one cut). By AI agents, Wed Nov 11 2026. No macro, syntax, notation, axiom, sorry.
-/
import Derived.Test.YtcckkfdlhakkmaaChecked
import GoSem.Claim
import GoSem.ClaimJoined
import GoSem.ClaimMapViews
import Derived.JoinedTies
import Derived.KernelRfl
namespace Go.Proofs.Ytcckkfdlhakkmaa
/- THE CELL 'sum', in the pinned program and in every row, IS THE sha256 OF THE DUMP (.gsa) THAT YtcckkfdlhakkmaaProg.lean LOADS. Nothing in Lean hashes anything: it is a label: what it is worth is what the hold of that sum in a sandbox is worth. -/
noncomputable def Try.pinned : Pinned := { name := "ytcckkfdlhakkmaa", sum := "9e2fbeea6833c2491be73ba4cb9d57b434fbbf475f1fb4631639f89075fd922a", checked := Try.checked }
namespace Rows
def none {H : Type} : Left H := { results := [], args := [] }

/-- 'laws.FnKDoBounded': WHATEVER THE INPUT: true; the input reads as it did. -/
def fnKDoBoundedSpec : ChangeSpec := { name := "fnKDoBounded", fn := fun _ => fun
  | [d1, d2, d3, d4] => { results := [.lit (.bool true)], args := [d1, d2, d3, d4] }
  | _ => none }
def fnKDoBoundedRow : OpenClaim := { program := "ytcckkfdlhakkmaa", sum := "9e2fbeea6833c2491be73ba4cb9d57b434fbbf475f1fb4631639f89075fd922a", func := "pub-orthodrome/laws.FnKDoBounded", spec := "fnKDoBounded", inPlace := ["math.archTrunc", "math.Float64bits", "math.Float64frombits"], unfollowed := true, recurses := true, apart := false }
def FnKDoBoundedSaid : Prop := fnKDoBoundedRow.holds Try.pinned (OpenSpec.ofChange fnKDoBoundedSpec)

/-- ITS FALSE NEIGHBOUR: 'it returns false'. Refute it at one input. -/
def fnKDoBoundedWrong : ChangeSpec := { name := "fnKDoBounded", fn := fun _ => fun
  | [d1, d2, d3, d4] => { results := [.lit (.bool false)], args := [d1, d2, d3, d4] }
  | _ => none }
def FnKDoBoundedWrongFalsely : Prop := fnKDoBoundedRow.holds Try.pinned (OpenSpec.ofChange fnKDoBoundedWrong)

/-- 'laws.FnKExtend': WHATEVER THE INPUT: true; the input reads as it did. -/
def fnKExtendSpec : ChangeSpec := { name := "fnKExtend", fn := fun _ => fun
  | [d1, d2, d3] => { results := [.lit (.bool true)], args := [d1, d2, d3] }
  | _ => none }
def fnKExtendRow : OpenClaim := { program := "ytcckkfdlhakkmaa", sum := "9e2fbeea6833c2491be73ba4cb9d57b434fbbf475f1fb4631639f89075fd922a", func := "pub-orthodrome/laws.FnKExtend", spec := "fnKExtend", inPlace := ["math.archTrunc", "math.Float64bits", "math.Float64frombits", "math.archMin", "math.archMax"], unfollowed := true, recurses := true, apart := false }
def FnKExtendSaid : Prop := fnKExtendRow.holds Try.pinned (OpenSpec.ofChange fnKExtendSpec)

/-- ITS FALSE NEIGHBOUR: 'it returns false'. Refute it at one input. -/
def fnKExtendWrong : ChangeSpec := { name := "fnKExtend", fn := fun _ => fun
  | [d1, d2, d3] => { results := [.lit (.bool false)], args := [d1, d2, d3] }
  | _ => none }
def FnKExtendWrongFalsely : Prop := fnKExtendRow.holds Try.pinned (OpenSpec.ofChange fnKExtendWrong)

/-- 'laws.FnKKeep': WHATEVER THE INPUT: true; the input reads as it did. -/
def fnKKeepSpec : ChangeSpec := { name := "fnKKeep", fn := fun _ => fun
  | [d1, d2] => { results := [.lit (.bool true)], args := [d1, d2] }
  | _ => none }
def fnKKeepRow : OpenClaim := { program := "ytcckkfdlhakkmaa", sum := "9e2fbeea6833c2491be73ba4cb9d57b434fbbf475f1fb4631639f89075fd922a", func := "pub-orthodrome/laws.FnKKeep", spec := "fnKKeep", inPlace := ["math.Float64frombits"], unfollowed := true, recurses := true, apart := false }
def FnKKeepSaid : Prop := fnKKeepRow.holds Try.pinned (OpenSpec.ofChange fnKKeepSpec)

/-- ITS FALSE NEIGHBOUR: 'it returns false'. Refute it at one input. -/
def fnKKeepWrong : ChangeSpec := { name := "fnKKeep", fn := fun _ => fun
  | [d1, d2] => { results := [.lit (.bool false)], args := [d1, d2] }
  | _ => none }
def FnKKeepWrongFalsely : Prop := fnKKeepRow.holds Try.pinned (OpenSpec.ofChange fnKKeepWrong)

/-- 'laws.FnKTreeSets': WHATEVER THE INPUT: true; the input reads as it did. -/
def fnKTreeSetsSpec : ChangeSpec := { name := "fnKTreeSets", fn := fun _ => fun
  | [d1, d2, d3, d4] => { results := [.lit (.bool true)], args := [d1, d2, d3, d4] }
  | _ => none }
def fnKTreeSetsRow : OpenClaim := { program := "ytcckkfdlhakkmaa", sum := "9e2fbeea6833c2491be73ba4cb9d57b434fbbf475f1fb4631639f89075fd922a", func := "pub-orthodrome/laws.FnKTreeSets", spec := "fnKTreeSets", inPlace := ["math.archTrunc", "math.Float64bits", "math.Float64frombits"], unfollowed := true, recurses := true, apart := false }
def FnKTreeSetsSaid : Prop := fnKTreeSetsRow.holds Try.pinned (OpenSpec.ofChange fnKTreeSetsSpec)

/-- ITS FALSE NEIGHBOUR: 'it returns false'. Refute it at one input. -/
def fnKTreeSetsWrong : ChangeSpec := { name := "fnKTreeSets", fn := fun _ => fun
  | [d1, d2, d3, d4] => { results := [.lit (.bool false)], args := [d1, d2, d3, d4] }
  | _ => none }
def FnKTreeSetsWrongFalsely : Prop := fnKTreeSetsRow.holds Try.pinned (OpenSpec.ofChange fnKTreeSetsWrong)

/-- 'laws.FnVNearestSet': WHATEVER THE INPUT: true; the input reads as it did. -/
def fnVNearestSetSpec : ChangeSpec := { name := "fnVNearestSet", fn := fun _ => fun
  | [d1, d2, d3, d4] => { results := [.lit (.bool true)], args := [d1, d2, d3, d4] }
  | _ => none }
def fnVNearestSetRow : OpenClaim := { program := "ytcckkfdlhakkmaa", sum := "9e2fbeea6833c2491be73ba4cb9d57b434fbbf475f1fb4631639f89075fd922a", func := "pub-orthodrome/laws.FnVNearestSet", spec := "fnVNearestSet", inPlace := ["math.Float64bits", "math.archTrunc", "math.Float64frombits", "math.sqrt"], unfollowed := true, recurses := true, apart := false }
def FnVNearestSetSaid : Prop := fnVNearestSetRow.holds Try.pinned (OpenSpec.ofChange fnVNearestSetSpec)

/-- ITS FALSE NEIGHBOUR: 'it returns false'. Refute it at one input. -/
def fnVNearestSetWrong : ChangeSpec := { name := "fnVNearestSet", fn := fun _ => fun
  | [d1, d2, d3, d4] => { results := [.lit (.bool false)], args := [d1, d2, d3, d4] }
  | _ => none }
def FnVNearestSetWrongFalsely : Prop := fnVNearestSetRow.holds Try.pinned (OpenSpec.ofChange fnVNearestSetWrong)

/- THE SECOND FORM. 'bulk': how many values and letters a reading holds, each counted each time it is reached (what is shared counts as often as it is met; a slice's spare places count too). A statement '..UptoSaid' is the law's where the arguments, and the package variables that the reading takes, are together of bulk at most 1048576: NARROWER than '..Said'. Prove '..Said' where nothing that the law and all that it calls make is longer than what came in: it says more and counts as full. Else prove '..UptoSaid'. A law counts once. -/
mutual
def uptoBulk {H : Type} : DataW H → Nat
  | .lit (.string bytes) => bytes.length + 1
  | .lit _ => 1
  | .nil => 1
  | .ptr d => uptoBulk d + 1
  | .slice elems spare => uptoBulkAll elems + uptoBulkAll spare + 1
  | .agg parts => uptoBulkAll parts + 1
  | .iface _ d => uptoBulk d + 1
  | .map entries => uptoBulkEntries entries + 1
  | .held _ => 1
def uptoBulkAll {H : Type} : List (DataW H) → Nat
  | [] => 0
  | d :: r => uptoBulk d + uptoBulkAll r
def uptoBulkEntries {H : Type} : List (Lit × DataW H) → Nat
  | [] => 0
  | x :: r => uptoBulkEntry x + uptoBulkEntries r
def uptoBulkEntry {H : Type} : Lit × DataW H → Nat
  | (.string bytes, d) => bytes.length + uptoBulk d + 1
  | (_, d) => uptoBulk d + 1
 end
def uptoSmall : (H : Type) → List (DataW H) → Bool := fun _ ds => decide (uptoBulkAll ds ≤ 1048576)
def OpenSpec.upto (s : _root_.Go.ChangeSpec) : _root_.Go.OpenSpec := { _root_.Go.OpenSpec.ofChange s with cond := some uptoSmall }

/-- 'laws.FnKDoBounded', WHERE WHAT IT READS IS OF BULK AT MOST 1048576: true; the input reads as it did. -/
def fnKDoBoundedUptoRow : OpenClaim := { program := "ytcckkfdlhakkmaa", sum := "9e2fbeea6833c2491be73ba4cb9d57b434fbbf475f1fb4631639f89075fd922a", func := "pub-orthodrome/laws.FnKDoBounded", spec := "fnKDoBounded", inPlace := ["math.archTrunc", "math.Float64bits", "math.Float64frombits"], unfollowed := true, recurses := true, apart := false, narrowed := true }
def FnKDoBoundedUptoSaid : Prop := fnKDoBoundedUptoRow.holds Try.pinned (OpenSpec.upto fnKDoBoundedSpec)

/-- 'laws.FnKExtend', WHERE WHAT IT READS IS OF BULK AT MOST 1048576: true; the input reads as it did. -/
def fnKExtendUptoRow : OpenClaim := { program := "ytcckkfdlhakkmaa", sum := "9e2fbeea6833c2491be73ba4cb9d57b434fbbf475f1fb4631639f89075fd922a", func := "pub-orthodrome/laws.FnKExtend", spec := "fnKExtend", inPlace := ["math.archTrunc", "math.Float64bits", "math.Float64frombits", "math.archMin", "math.archMax"], unfollowed := true, recurses := true, apart := false, narrowed := true }
def FnKExtendUptoSaid : Prop := fnKExtendUptoRow.holds Try.pinned (OpenSpec.upto fnKExtendSpec)

/-- 'laws.FnKKeep', WHERE WHAT IT READS IS OF BULK AT MOST 1048576: true; the input reads as it did. -/
def fnKKeepUptoRow : OpenClaim := { program := "ytcckkfdlhakkmaa", sum := "9e2fbeea6833c2491be73ba4cb9d57b434fbbf475f1fb4631639f89075fd922a", func := "pub-orthodrome/laws.FnKKeep", spec := "fnKKeep", inPlace := ["math.Float64frombits"], unfollowed := true, recurses := true, apart := false, narrowed := true }
def FnKKeepUptoSaid : Prop := fnKKeepUptoRow.holds Try.pinned (OpenSpec.upto fnKKeepSpec)

/-- 'laws.FnKTreeSets', WHERE WHAT IT READS IS OF BULK AT MOST 1048576: true; the input reads as it did. -/
def fnKTreeSetsUptoRow : OpenClaim := { program := "ytcckkfdlhakkmaa", sum := "9e2fbeea6833c2491be73ba4cb9d57b434fbbf475f1fb4631639f89075fd922a", func := "pub-orthodrome/laws.FnKTreeSets", spec := "fnKTreeSets", inPlace := ["math.archTrunc", "math.Float64bits", "math.Float64frombits"], unfollowed := true, recurses := true, apart := false, narrowed := true }
def FnKTreeSetsUptoSaid : Prop := fnKTreeSetsUptoRow.holds Try.pinned (OpenSpec.upto fnKTreeSetsSpec)

/-- 'laws.FnVNearestSet', WHERE WHAT IT READS IS OF BULK AT MOST 1048576: true; the input reads as it did. -/
def fnVNearestSetUptoRow : OpenClaim := { program := "ytcckkfdlhakkmaa", sum := "9e2fbeea6833c2491be73ba4cb9d57b434fbbf475f1fb4631639f89075fd922a", func := "pub-orthodrome/laws.FnVNearestSet", spec := "fnVNearestSet", inPlace := ["math.Float64bits", "math.archTrunc", "math.Float64frombits", "math.sqrt"], unfollowed := true, recurses := true, apart := false, narrowed := true }
def FnVNearestSetUptoSaid : Prop := fnVNearestSetUptoRow.holds Try.pinned (OpenSpec.upto fnVNearestSetSpec)

end Rows
end Go.Proofs.Ytcckkfdlhakkmaa
