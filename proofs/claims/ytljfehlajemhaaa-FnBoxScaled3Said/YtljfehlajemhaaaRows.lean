/-
  No cell of these rows narrows 'for every input' (looked for: loops, veiled, ifaces, maps, wideKeys, modest, calm, conditions, laid).
  DERIVED. THE GIVEN ROWS OF THIS SEAT. 7 by the template 'for every input the law returns true; each argument reads behind the call as it read before'; 0 by the template 'total and deterministic' (their statements: YtljfehlajemhaaaTotals.lean).
  GIVEN WITH THE SEED: the statements are not yours to turn. If you find one false, say at which input.
  Laid BY PROGRAM, IN A SANDBOX (cutbox-rows.mjs): the forced cells as the released guide's own fill.sh prints them over the translation 1b7d0370f6d66f8c… (all of the seat's roots in one cut). By AI agents, Wed Nov 11 2026. No macro, syntax, notation, axiom, sorry.
-/
import Derived.Test.YtljfehlajemhaaaChecked
import GoSem.Claim
import GoSem.ClaimJoined
import GoSem.ClaimMapViews
import Derived.JoinedTies
import Derived.KernelRfl
namespace Go.Proofs.Ytljfehlajemhaaa
/- THE CELL 'sum', in the pinned program and in every row, IS THE sha256 OF THE DUMP (.gsa) THAT YtljfehlajemhaaaProg.lean LOADS. Nothing in Lean hashes anything: it is a label: what it is worth is what the hold of that sum in a sandbox is worth. -/
noncomputable def Try.pinned : Pinned := { name := "ytljfehlajemhaaa", sum := "1b7d0370f6d66f8c7cfa1de2c1e5b25f582090207254830da544b12c7329f21c", checked := Try.checked }
namespace Rows
def none {H : Type} : Left H := { results := [], args := [] }

/-- 'laws.FnScale2': WHATEVER THE INPUT: true; the input reads as it did. -/
def fnScale2Spec : ChangeSpec := { name := "fnScale2", fn := fun _ => fun
  | [d1, d2] => { results := [.lit (.bool true)], args := [d1, d2] }
  | _ => none }
def fnScale2Row : OpenClaim := { program := "ytljfehlajemhaaa", sum := "1b7d0370f6d66f8c7cfa1de2c1e5b25f582090207254830da544b12c7329f21c", func := "pub-orthodrome/laws.FnScale2", spec := "fnScale2", inPlace := ["math.archTrunc", "math.Float64bits", "math.Float64frombits"], apart := false }
def FnScale2Said : Prop := fnScale2Row.holds Try.pinned (OpenSpec.ofChange fnScale2Spec)

/-- ITS FALSE NEIGHBOUR: 'it returns false'. Refute it at one input. -/
def fnScale2Wrong : ChangeSpec := { name := "fnScale2", fn := fun _ => fun
  | [d1, d2] => { results := [.lit (.bool false)], args := [d1, d2] }
  | _ => none }
def FnScale2WrongFalsely : Prop := fnScale2Row.holds Try.pinned (OpenSpec.ofChange fnScale2Wrong)

/-- 'laws.FnCross3': WHATEVER THE INPUT: true; the input reads as it did. -/
def fnCross3Spec : ChangeSpec := { name := "fnCross3", fn := fun _ => fun
  | [d1, d2] => { results := [.lit (.bool true)], args := [d1, d2] }
  | _ => none }
def fnCross3Row : OpenClaim := { program := "ytljfehlajemhaaa", sum := "1b7d0370f6d66f8c7cfa1de2c1e5b25f582090207254830da544b12c7329f21c", func := "pub-orthodrome/laws.FnCross3", spec := "fnCross3", inPlace := ["math.archTrunc", "math.Float64bits", "math.Float64frombits"], unfollowed := true, recurses := true, apart := false }
def FnCross3Said : Prop := fnCross3Row.holds Try.pinned (OpenSpec.ofChange fnCross3Spec)

/-- ITS FALSE NEIGHBOUR: 'it returns false'. Refute it at one input. -/
def fnCross3Wrong : ChangeSpec := { name := "fnCross3", fn := fun _ => fun
  | [d1, d2] => { results := [.lit (.bool false)], args := [d1, d2] }
  | _ => none }
def FnCross3WrongFalsely : Prop := fnCross3Row.holds Try.pinned (OpenSpec.ofChange fnCross3Wrong)

/-- 'laws.FnScale3': WHATEVER THE INPUT: true; the input reads as it did. -/
def fnScale3Spec : ChangeSpec := { name := "fnScale3", fn := fun _ => fun
  | [d1, d2] => { results := [.lit (.bool true)], args := [d1, d2] }
  | _ => none }
def fnScale3Row : OpenClaim := { program := "ytljfehlajemhaaa", sum := "1b7d0370f6d66f8c7cfa1de2c1e5b25f582090207254830da544b12c7329f21c", func := "pub-orthodrome/laws.FnScale3", spec := "fnScale3", inPlace := ["math.archTrunc", "math.Float64bits", "math.Float64frombits"], apart := false }
def FnScale3Said : Prop := fnScale3Row.holds Try.pinned (OpenSpec.ofChange fnScale3Spec)

/-- ITS FALSE NEIGHBOUR: 'it returns false'. Refute it at one input. -/
def fnScale3Wrong : ChangeSpec := { name := "fnScale3", fn := fun _ => fun
  | [d1, d2] => { results := [.lit (.bool false)], args := [d1, d2] }
  | _ => none }
def FnScale3WrongFalsely : Prop := fnScale3Row.holds Try.pinned (OpenSpec.ofChange fnScale3Wrong)

/-- 'laws.FnBox2': WHATEVER THE INPUT: true; the input reads as it did. -/
def fnBox2Spec : ChangeSpec := { name := "fnBox2", fn := fun _ => fun
  | [d1, d2] => { results := [.lit (.bool true)], args := [d1, d2] }
  | _ => none }
def fnBox2Row : OpenClaim := { program := "ytljfehlajemhaaa", sum := "1b7d0370f6d66f8c7cfa1de2c1e5b25f582090207254830da544b12c7329f21c", func := "pub-orthodrome/laws.FnBox2", spec := "fnBox2", inPlace := ["math.archTrunc", "math.Float64bits", "math.Float64frombits", "math.archMin", "math.archMax"], apart := false }
def FnBox2Said : Prop := fnBox2Row.holds Try.pinned (OpenSpec.ofChange fnBox2Spec)

/-- ITS FALSE NEIGHBOUR: 'it returns false'. Refute it at one input. -/
def fnBox2Wrong : ChangeSpec := { name := "fnBox2", fn := fun _ => fun
  | [d1, d2] => { results := [.lit (.bool false)], args := [d1, d2] }
  | _ => none }
def FnBox2WrongFalsely : Prop := fnBox2Row.holds Try.pinned (OpenSpec.ofChange fnBox2Wrong)

/-- 'laws.FnBoxScaled3': WHATEVER THE INPUT: true; the input reads as it did. -/
def fnBoxScaled3Spec : ChangeSpec := { name := "fnBoxScaled3", fn := fun _ => fun
  | [d1, d2, d3] => { results := [.lit (.bool true)], args := [d1, d2, d3] }
  | _ => none }
def fnBoxScaled3Row : OpenClaim := { program := "ytljfehlajemhaaa", sum := "1b7d0370f6d66f8c7cfa1de2c1e5b25f582090207254830da544b12c7329f21c", func := "pub-orthodrome/laws.FnBoxScaled3", spec := "fnBoxScaled3", inPlace := ["math.archTrunc", "math.Float64bits", "math.Float64frombits", "math.archMax"], apart := false }
def FnBoxScaled3Said : Prop := fnBoxScaled3Row.holds Try.pinned (OpenSpec.ofChange fnBoxScaled3Spec)

/-- ITS FALSE NEIGHBOUR: 'it returns false'. Refute it at one input. -/
def fnBoxScaled3Wrong : ChangeSpec := { name := "fnBoxScaled3", fn := fun _ => fun
  | [d1, d2, d3] => { results := [.lit (.bool false)], args := [d1, d2, d3] }
  | _ => none }
def FnBoxScaled3WrongFalsely : Prop := fnBoxScaled3Row.holds Try.pinned (OpenSpec.ofChange fnBoxScaled3Wrong)

/-- 'laws.FnBoxScaled2': WHATEVER THE INPUT: true; the input reads as it did. -/
def fnBoxScaled2Spec : ChangeSpec := { name := "fnBoxScaled2", fn := fun _ => fun
  | [d1, d2, d3] => { results := [.lit (.bool true)], args := [d1, d2, d3] }
  | _ => none }
def fnBoxScaled2Row : OpenClaim := { program := "ytljfehlajemhaaa", sum := "1b7d0370f6d66f8c7cfa1de2c1e5b25f582090207254830da544b12c7329f21c", func := "pub-orthodrome/laws.FnBoxScaled2", spec := "fnBoxScaled2", inPlace := ["math.archTrunc", "math.Float64bits", "math.Float64frombits", "math.archMax"], apart := false }
def FnBoxScaled2Said : Prop := fnBoxScaled2Row.holds Try.pinned (OpenSpec.ofChange fnBoxScaled2Spec)

/-- ITS FALSE NEIGHBOUR: 'it returns false'. Refute it at one input. -/
def fnBoxScaled2Wrong : ChangeSpec := { name := "fnBoxScaled2", fn := fun _ => fun
  | [d1, d2, d3] => { results := [.lit (.bool false)], args := [d1, d2, d3] }
  | _ => none }
def FnBoxScaled2WrongFalsely : Prop := fnBoxScaled2Row.holds Try.pinned (OpenSpec.ofChange fnBoxScaled2Wrong)

/-- 'laws.FnBox3': WHATEVER THE INPUT: true; the input reads as it did. -/
def fnBox3Spec : ChangeSpec := { name := "fnBox3", fn := fun _ => fun
  | [d1, d2] => { results := [.lit (.bool true)], args := [d1, d2] }
  | _ => none }
def fnBox3Row : OpenClaim := { program := "ytljfehlajemhaaa", sum := "1b7d0370f6d66f8c7cfa1de2c1e5b25f582090207254830da544b12c7329f21c", func := "pub-orthodrome/laws.FnBox3", spec := "fnBox3", inPlace := ["math.archTrunc", "math.Float64bits", "math.Float64frombits", "math.archMin", "math.archMax"], apart := false }
def FnBox3Said : Prop := fnBox3Row.holds Try.pinned (OpenSpec.ofChange fnBox3Spec)

/-- ITS FALSE NEIGHBOUR: 'it returns false'. Refute it at one input. -/
def fnBox3Wrong : ChangeSpec := { name := "fnBox3", fn := fun _ => fun
  | [d1, d2] => { results := [.lit (.bool false)], args := [d1, d2] }
  | _ => none }
def FnBox3WrongFalsely : Prop := fnBox3Row.holds Try.pinned (OpenSpec.ofChange fnBox3Wrong)

/- THE SECOND FORM. 'bulk': how many values and letters a reading holds, each counted each time it is reached (what is shared counts as often as it is met; a slice's spare places count too). A statement '..UptoSaid' is the law's where the arguments, and the package variables that the reading takes, are together of bulk at most 1048576: NARROWER than '..Said'. Prove '..Said' where nothing that the law and all that it calls make is longer than what came in: it says more and counts as full. Else prove '..UptoSaid'. A law counts once. -/
mutual
def uptoBulk {H : Type} : DataW H → Nat
  | .lit (.string bytes) => bytes.length + 1
  | .lit _ => 1
  | .nil => 1
  | .ptr d => uptoBulk d + 1
  | .slice elems spare => uptoBulkAll elems + uptoBulkAll spare + 1
  | .agg parts => uptoBulkAll parts + 1
  | .iface _ d => uptoBulk d + 1
  | .map entries => uptoBulkEntries entries + 1
  | .held _ => 1
def uptoBulkAll {H : Type} : List (DataW H) → Nat
  | [] => 0
  | d :: r => uptoBulk d + uptoBulkAll r
def uptoBulkEntries {H : Type} : List (Lit × DataW H) → Nat
  | [] => 0
  | x :: r => uptoBulkEntry x + uptoBulkEntries r
def uptoBulkEntry {H : Type} : Lit × DataW H → Nat
  | (.string bytes, d) => bytes.length + uptoBulk d + 1
  | (_, d) => uptoBulk d + 1
 end
def uptoSmall : (H : Type) → List (DataW H) → Bool := fun _ ds => decide (uptoBulkAll ds ≤ 1048576)
def OpenSpec.upto (s : _root_.Go.ChangeSpec) : _root_.Go.OpenSpec := { _root_.Go.OpenSpec.ofChange s with cond := some uptoSmall }

/-- 'laws.FnScale2', WHERE WHAT IT READS IS OF BULK AT MOST 1048576: true; the input reads as it did. -/
def fnScale2UptoRow : OpenClaim := { program := "ytljfehlajemhaaa", sum := "1b7d0370f6d66f8c7cfa1de2c1e5b25f582090207254830da544b12c7329f21c", func := "pub-orthodrome/laws.FnScale2", spec := "fnScale2", inPlace := ["math.archTrunc", "math.Float64bits", "math.Float64frombits"], apart := false, narrowed := true }
def FnScale2UptoSaid : Prop := fnScale2UptoRow.holds Try.pinned (OpenSpec.upto fnScale2Spec)

/-- 'laws.FnCross3', WHERE WHAT IT READS IS OF BULK AT MOST 1048576: true; the input reads as it did. -/
def fnCross3UptoRow : OpenClaim := { program := "ytljfehlajemhaaa", sum := "1b7d0370f6d66f8c7cfa1de2c1e5b25f582090207254830da544b12c7329f21c", func := "pub-orthodrome/laws.FnCross3", spec := "fnCross3", inPlace := ["math.archTrunc", "math.Float64bits", "math.Float64frombits"], unfollowed := true, recurses := true, apart := false, narrowed := true }
def FnCross3UptoSaid : Prop := fnCross3UptoRow.holds Try.pinned (OpenSpec.upto fnCross3Spec)

/-- 'laws.FnScale3', WHERE WHAT IT READS IS OF BULK AT MOST 1048576: true; the input reads as it did. -/
def fnScale3UptoRow : OpenClaim := { program := "ytljfehlajemhaaa", sum := "1b7d0370f6d66f8c7cfa1de2c1e5b25f582090207254830da544b12c7329f21c", func := "pub-orthodrome/laws.FnScale3", spec := "fnScale3", inPlace := ["math.archTrunc", "math.Float64bits", "math.Float64frombits"], apart := false, narrowed := true }
def FnScale3UptoSaid : Prop := fnScale3UptoRow.holds Try.pinned (OpenSpec.upto fnScale3Spec)

/-- 'laws.FnBox2', WHERE WHAT IT READS IS OF BULK AT MOST 1048576: true; the input reads as it did. -/
def fnBox2UptoRow : OpenClaim := { program := "ytljfehlajemhaaa", sum := "1b7d0370f6d66f8c7cfa1de2c1e5b25f582090207254830da544b12c7329f21c", func := "pub-orthodrome/laws.FnBox2", spec := "fnBox2", inPlace := ["math.archTrunc", "math.Float64bits", "math.Float64frombits", "math.archMin", "math.archMax"], apart := false, narrowed := true }
def FnBox2UptoSaid : Prop := fnBox2UptoRow.holds Try.pinned (OpenSpec.upto fnBox2Spec)

/-- 'laws.FnBoxScaled3', WHERE WHAT IT READS IS OF BULK AT MOST 1048576: true; the input reads as it did. -/
def fnBoxScaled3UptoRow : OpenClaim := { program := "ytljfehlajemhaaa", sum := "1b7d0370f6d66f8c7cfa1de2c1e5b25f582090207254830da544b12c7329f21c", func := "pub-orthodrome/laws.FnBoxScaled3", spec := "fnBoxScaled3", inPlace := ["math.archTrunc", "math.Float64bits", "math.Float64frombits", "math.archMax"], apart := false, narrowed := true }
def FnBoxScaled3UptoSaid : Prop := fnBoxScaled3UptoRow.holds Try.pinned (OpenSpec.upto fnBoxScaled3Spec)

/-- 'laws.FnBoxScaled2', WHERE WHAT IT READS IS OF BULK AT MOST 1048576: true; the input reads as it did. -/
def fnBoxScaled2UptoRow : OpenClaim := { program := "ytljfehlajemhaaa", sum := "1b7d0370f6d66f8c7cfa1de2c1e5b25f582090207254830da544b12c7329f21c", func := "pub-orthodrome/laws.FnBoxScaled2", spec := "fnBoxScaled2", inPlace := ["math.archTrunc", "math.Float64bits", "math.Float64frombits", "math.archMax"], apart := false, narrowed := true }
def FnBoxScaled2UptoSaid : Prop := fnBoxScaled2UptoRow.holds Try.pinned (OpenSpec.upto fnBoxScaled2Spec)

/-- 'laws.FnBox3', WHERE WHAT IT READS IS OF BULK AT MOST 1048576: true; the input reads as it did. -/
def fnBox3UptoRow : OpenClaim := { program := "ytljfehlajemhaaa", sum := "1b7d0370f6d66f8c7cfa1de2c1e5b25f582090207254830da544b12c7329f21c", func := "pub-orthodrome/laws.FnBox3", spec := "fnBox3", inPlace := ["math.archTrunc", "math.Float64bits", "math.Float64frombits", "math.archMin", "math.archMax"], apart := false, narrowed := true }
def FnBox3UptoSaid : Prop := fnBox3UptoRow.holds Try.pinned (OpenSpec.upto fnBox3Spec)

end Rows
end Go.Proofs.Ytljfehlajemhaaa
