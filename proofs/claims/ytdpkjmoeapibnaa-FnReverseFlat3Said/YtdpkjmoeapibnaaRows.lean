/-
  No cell of these rows narrows 'for every input' (looked for: loops, veiled, ifaces, maps, wideKeys, modest, calm, conditions, laid).
  DERIVED. THE GIVEN ROWS OF THIS SEAT. 3 by the template 'for every input the law returns true; each argument reads behind the call as it read before'; 0 by the template 'total and deterministic' (their statements: YtdpkjmoeapibnaaTotals.lean).
  GIVEN WITH THE SEED: the statements are not yours to turn. If you find one false, say at which input.
  Laid BY PROGRAM, IN A SANDBOX (cutbox-rows.mjs): the forced cells as the released guide's own fill.sh prints them over the translation ae84af1111279502… (all of the seat's roots in one cut). By AI agents, Wed Nov 11 2026. No macro, syntax, notation, axiom, sorry.
-/
import Derived.Test.YtdpkjmoeapibnaaChecked
import GoSem.Claim
import GoSem.ClaimJoined
import GoSem.ClaimMapViews
import Derived.JoinedTies
import Derived.KernelRfl
namespace Go.Proofs.Ytdpkjmoeapibnaa
/- THE CELL 'sum', in the pinned program and in every row, IS THE sha256 OF THE DUMP (.gsa) THAT YtdpkjmoeapibnaaProg.lean LOADS. Nothing in Lean hashes anything: it is a label: what it is worth is what the hold of that sum in a sandbox is worth. -/
noncomputable def Try.pinned : Pinned := { name := "ytdpkjmoeapibnaa", sum := "ae84af11112795022a0490f73bffc4f33aef82b0ac0985b5fb16de2775f87209", checked := Try.checked }
namespace Rows
def none {H : Type} : Left H := { results := [], args := [] }

/-- 'laws.FnReverseFlat3': WHATEVER THE INPUT: true; the input reads as it did. -/
def fnReverseFlat3Spec : ChangeSpec := { name := "fnReverseFlat3", fn := fun _ => fun
  | [d1, d2, d3] => { results := [.lit (.bool true)], args := [d1, d2, d3] }
  | _ => none }
def fnReverseFlat3Row : OpenClaim := { program := "ytdpkjmoeapibnaa", sum := "ae84af11112795022a0490f73bffc4f33aef82b0ac0985b5fb16de2775f87209", func := "pub-orthodrome/laws.FnReverseFlat3", spec := "fnReverseFlat3", inPlace := ["math.Float64bits"], unfollowed := true, recurses := true, apart := false }
def FnReverseFlat3Said : Prop := fnReverseFlat3Row.holds Try.pinned (OpenSpec.ofChange fnReverseFlat3Spec)

/-- ITS FALSE NEIGHBOUR: 'it returns false'. Refute it at one input. -/
def fnReverseFlat3Wrong : ChangeSpec := { name := "fnReverseFlat3", fn := fun _ => fun
  | [d1, d2, d3] => { results := [.lit (.bool false)], args := [d1, d2, d3] }
  | _ => none }
def FnReverseFlat3WrongFalsely : Prop := fnReverseFlat3Row.holds Try.pinned (OpenSpec.ofChange fnReverseFlat3Wrong)

/-- 'laws.FnInflate2': WHATEVER THE INPUT: true; the input reads as it did. -/
def fnInflate2Spec : ChangeSpec := { name := "fnInflate2", fn := fun _ => fun
  | [d1, d2, d3] => { results := [.lit (.bool true)], args := [d1, d2, d3] }
  | _ => none }
def fnInflate2Row : OpenClaim := { program := "ytdpkjmoeapibnaa", sum := "ae84af11112795022a0490f73bffc4f33aef82b0ac0985b5fb16de2775f87209", func := "pub-orthodrome/laws.FnInflate2", spec := "fnInflate2", inPlace := ["math.Float64bits"], unfollowed := true, recurses := true, apart := false }
def FnInflate2Said : Prop := fnInflate2Row.holds Try.pinned (OpenSpec.ofChange fnInflate2Spec)

/-- ITS FALSE NEIGHBOUR: 'it returns false'. Refute it at one input. -/
def fnInflate2Wrong : ChangeSpec := { name := "fnInflate2", fn := fun _ => fun
  | [d1, d2, d3] => { results := [.lit (.bool false)], args := [d1, d2, d3] }
  | _ => none }
def FnInflate2WrongFalsely : Prop := fnInflate2Row.holds Try.pinned (OpenSpec.ofChange fnInflate2Wrong)

/-- 'laws.FnFlatLength2': WHATEVER THE INPUT: true; the input reads as it did. -/
def fnFlatLength2Spec : ChangeSpec := { name := "fnFlatLength2", fn := fun _ => fun
  | [d1, d2, d3] => { results := [.lit (.bool true)], args := [d1, d2, d3] }
  | _ => none }
def fnFlatLength2Row : OpenClaim := { program := "ytdpkjmoeapibnaa", sum := "ae84af11112795022a0490f73bffc4f33aef82b0ac0985b5fb16de2775f87209", func := "pub-orthodrome/laws.FnFlatLength2", spec := "fnFlatLength2", inPlace := ["math.archTrunc", "math.Float64bits", "math.Float64frombits", "math.sqrt"], unfollowed := true, recurses := true, apart := false }
def FnFlatLength2Said : Prop := fnFlatLength2Row.holds Try.pinned (OpenSpec.ofChange fnFlatLength2Spec)

/-- ITS FALSE NEIGHBOUR: 'it returns false'. Refute it at one input. -/
def fnFlatLength2Wrong : ChangeSpec := { name := "fnFlatLength2", fn := fun _ => fun
  | [d1, d2, d3] => { results := [.lit (.bool false)], args := [d1, d2, d3] }
  | _ => none }
def FnFlatLength2WrongFalsely : Prop := fnFlatLength2Row.holds Try.pinned (OpenSpec.ofChange fnFlatLength2Wrong)

/- THE SECOND FORM. 'bulk': how many values and letters a reading holds, each counted each time it is reached (what is shared counts as often as it is met; a slice's spare places count too). A statement '..UptoSaid' is the law's where the arguments, and the package variables that the reading takes, are together of bulk at most 1048576: NARROWER than '..Said'. Prove '..Said' where nothing that the law and all that it calls make is longer than what came in: it says more and counts as full. Else prove '..UptoSaid'. A law counts once. -/
mutual
def uptoBulk {H : Type} : DataW H → Nat
  | .lit (.string bytes) => bytes.length + 1
  | .lit _ => 1
  | .nil => 1
  | .ptr d => uptoBulk d + 1
  | .slice elems spare => uptoBulkAll elems + uptoBulkAll spare + 1
  | .agg parts => uptoBulkAll parts + 1
  | .iface _ d => uptoBulk d + 1
  | .map entries => uptoBulkEntries entries + 1
  | .held _ => 1
def uptoBulkAll {H : Type} : List (DataW H) → Nat
  | [] => 0
  | d :: r => uptoBulk d + uptoBulkAll r
def uptoBulkEntries {H : Type} : List (Lit × DataW H) → Nat
  | [] => 0
  | x :: r => uptoBulkEntry x + uptoBulkEntries r
def uptoBulkEntry {H : Type} : Lit × DataW H → Nat
  | (.string bytes, d) => bytes.length + uptoBulk d + 1
  | (_, d) => uptoBulk d + 1
 end
def uptoSmall : (H : Type) → List (DataW H) → Bool := fun _ ds => decide (uptoBulkAll ds ≤ 1048576)
def OpenSpec.upto (s : _root_.Go.ChangeSpec) : _root_.Go.OpenSpec := { _root_.Go.OpenSpec.ofChange s with cond := some uptoSmall }

/-- 'laws.FnReverseFlat3', WHERE WHAT IT READS IS OF BULK AT MOST 1048576: true; the input reads as it did. -/
def fnReverseFlat3UptoRow : OpenClaim := { program := "ytdpkjmoeapibnaa", sum := "ae84af11112795022a0490f73bffc4f33aef82b0ac0985b5fb16de2775f87209", func := "pub-orthodrome/laws.FnReverseFlat3", spec := "fnReverseFlat3", inPlace := ["math.Float64bits"], unfollowed := true, recurses := true, apart := false, narrowed := true }
def FnReverseFlat3UptoSaid : Prop := fnReverseFlat3UptoRow.holds Try.pinned (OpenSpec.upto fnReverseFlat3Spec)

/-- 'laws.FnInflate2', WHERE WHAT IT READS IS OF BULK AT MOST 1048576: true; the input reads as it did. -/
def fnInflate2UptoRow : OpenClaim := { program := "ytdpkjmoeapibnaa", sum := "ae84af11112795022a0490f73bffc4f33aef82b0ac0985b5fb16de2775f87209", func := "pub-orthodrome/laws.FnInflate2", spec := "fnInflate2", inPlace := ["math.Float64bits"], unfollowed := true, recurses := true, apart := false, narrowed := true }
def FnInflate2UptoSaid : Prop := fnInflate2UptoRow.holds Try.pinned (OpenSpec.upto fnInflate2Spec)

/-- 'laws.FnFlatLength2', WHERE WHAT IT READS IS OF BULK AT MOST 1048576: true; the input reads as it did. -/
def fnFlatLength2UptoRow : OpenClaim := { program := "ytdpkjmoeapibnaa", sum := "ae84af11112795022a0490f73bffc4f33aef82b0ac0985b5fb16de2775f87209", func := "pub-orthodrome/laws.FnFlatLength2", spec := "fnFlatLength2", inPlace := ["math.archTrunc", "math.Float64bits", "math.Float64frombits", "math.sqrt"], unfollowed := true, recurses := true, apart := false, narrowed := true }
def FnFlatLength2UptoSaid : Prop := fnFlatLength2UptoRow.holds Try.pinned (OpenSpec.upto fnFlatLength2Spec)

end Rows
end Go.Proofs.Ytdpkjmoeapibnaa
