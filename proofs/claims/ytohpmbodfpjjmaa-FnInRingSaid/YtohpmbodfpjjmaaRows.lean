/-
  No cell of these rows narrows 'for every input' (looked for: loops, veiled, ifaces, maps, wideKeys, modest, calm, conditions, laid).
  DERIVED. THE GIVEN ROWS OF THIS SEAT. 5 by the template 'for every input the law returns true; each argument reads behind the call as it read before'; 0 by the template 'total and deterministic' (their statements: YtohpmbodfpjjmaaTotals.lean).
  GIVEN WITH THE SEED: the statements are not yours to turn. If you find one false, say at which input.
  Laid BY PROGRAM, IN A SANDBOX (cutbox-rows.mjs): the forced cells as the released guide's own fill.sh prints them over the translation 8c3bd52bea9d07b9… (all of the seat's roots in one cut). By AI agents, Wed Nov 11 2026. No macro, syntax, notation, axiom, sorry.
-/
import Derived.Test.YtohpmbodfpjjmaaChecked
import GoSem.Claim
import GoSem.ClaimJoined
import GoSem.ClaimMapViews
import Derived.JoinedTies
import Derived.KernelRfl
namespace Go.Proofs.Ytohpmbodfpjjmaa
/- THE CELL 'sum', in the pinned program and in every row, IS THE sha256 OF THE DUMP (.gsa) THAT YtohpmbodfpjjmaaProg.lean LOADS. Nothing in Lean hashes anything: it is a label: what it is worth is what the hold of that sum in a sandbox is worth. -/
noncomputable def Try.pinned : Pinned := { name := "ytohpmbodfpjjmaa", sum := "8c3bd52bea9d07b91c73af5f3ea3a16a34fe1fdfacb2a2109b7e25b1d3c0ce50", checked := Try.checked }
namespace Rows
def none {H : Type} : Left H := { results := [], args := [] }

/-- 'laws.FnSegmentDistance2': WHATEVER THE INPUT: true; the input reads as it did. -/
def fnSegmentDistance2Spec : ChangeSpec := { name := "fnSegmentDistance2", fn := fun _ => fun
  | [d1, d2, d3] => { results := [.lit (.bool true)], args := [d1, d2, d3] }
  | _ => none }
def fnSegmentDistance2Row : OpenClaim := { program := "ytohpmbodfpjjmaa", sum := "8c3bd52bea9d07b91c73af5f3ea3a16a34fe1fdfacb2a2109b7e25b1d3c0ce50", func := "pub-orthodrome/laws.FnSegmentDistance2", spec := "fnSegmentDistance2", inPlace := ["math.archTrunc", "math.Float64bits", "math.Float64frombits"], apart := false }
def FnSegmentDistance2Said : Prop := fnSegmentDistance2Row.holds Try.pinned (OpenSpec.ofChange fnSegmentDistance2Spec)

/-- ITS FALSE NEIGHBOUR: 'it returns false'. Refute it at one input. -/
def fnSegmentDistance2Wrong : ChangeSpec := { name := "fnSegmentDistance2", fn := fun _ => fun
  | [d1, d2, d3] => { results := [.lit (.bool false)], args := [d1, d2, d3] }
  | _ => none }
def FnSegmentDistance2WrongFalsely : Prop := fnSegmentDistance2Row.holds Try.pinned (OpenSpec.ofChange fnSegmentDistance2Wrong)

/-- 'laws.FnPerpendicularDistance': WHATEVER THE INPUT: true; the input reads as it did. -/
def fnPerpendicularDistanceSpec : ChangeSpec := { name := "fnPerpendicularDistance", fn := fun _ => fun
  | [d1, d2, d3] => { results := [.lit (.bool true)], args := [d1, d2, d3] }
  | _ => none }
def fnPerpendicularDistanceRow : OpenClaim := { program := "ytohpmbodfpjjmaa", sum := "8c3bd52bea9d07b91c73af5f3ea3a16a34fe1fdfacb2a2109b7e25b1d3c0ce50", func := "pub-orthodrome/laws.FnPerpendicularDistance", spec := "fnPerpendicularDistance", inPlace := ["math.archTrunc", "math.Float64bits", "math.Float64frombits", "math.sqrt"], apart := false }
def FnPerpendicularDistanceSaid : Prop := fnPerpendicularDistanceRow.holds Try.pinned (OpenSpec.ofChange fnPerpendicularDistanceSpec)

/-- ITS FALSE NEIGHBOUR: 'it returns false'. Refute it at one input. -/
def fnPerpendicularDistanceWrong : ChangeSpec := { name := "fnPerpendicularDistance", fn := fun _ => fun
  | [d1, d2, d3] => { results := [.lit (.bool false)], args := [d1, d2, d3] }
  | _ => none }
def FnPerpendicularDistanceWrongFalsely : Prop := fnPerpendicularDistanceRow.holds Try.pinned (OpenSpec.ofChange fnPerpendicularDistanceWrong)

/-- 'laws.FnSpaceUnit': WHATEVER THE INPUT: true; the input reads as it did. -/
def fnSpaceUnitSpec : ChangeSpec := { name := "fnSpaceUnit", fn := fun _ => fun
  | [d] => { results := [.lit (.bool true)], args := [d] }
  | _ => none }
def fnSpaceUnitRow : OpenClaim := { program := "ytohpmbodfpjjmaa", sum := "8c3bd52bea9d07b91c73af5f3ea3a16a34fe1fdfacb2a2109b7e25b1d3c0ce50", func := "pub-orthodrome/laws.FnSpaceUnit", spec := "fnSpaceUnit", inPlace := ["math.archTrunc", "math.Float64bits", "math.Float64frombits", "math.sqrt"], apart := false }
def FnSpaceUnitSaid : Prop := fnSpaceUnitRow.holds Try.pinned (OpenSpec.ofChange fnSpaceUnitSpec)

/-- ITS FALSE NEIGHBOUR: 'it returns false'. Refute it at one input. -/
def fnSpaceUnitWrong : ChangeSpec := { name := "fnSpaceUnit", fn := fun _ => fun
  | [d] => { results := [.lit (.bool false)], args := [d] }
  | _ => none }
def FnSpaceUnitWrongFalsely : Prop := fnSpaceUnitRow.holds Try.pinned (OpenSpec.ofChange fnSpaceUnitWrong)

/-- 'laws.FnSpacePointLine': WHATEVER THE INPUT: true; the input reads as it did. -/
def fnSpacePointLineSpec : ChangeSpec := { name := "fnSpacePointLine", fn := fun _ => fun
  | [d1, d2, d3] => { results := [.lit (.bool true)], args := [d1, d2, d3] }
  | _ => none }
def fnSpacePointLineRow : OpenClaim := { program := "ytohpmbodfpjjmaa", sum := "8c3bd52bea9d07b91c73af5f3ea3a16a34fe1fdfacb2a2109b7e25b1d3c0ce50", func := "pub-orthodrome/laws.FnSpacePointLine", spec := "fnSpacePointLine", inPlace := ["math.archTrunc", "math.Float64bits", "math.Float64frombits", "math.sqrt"], unfollowed := true, recurses := true, apart := false }
def FnSpacePointLineSaid : Prop := fnSpacePointLineRow.holds Try.pinned (OpenSpec.ofChange fnSpacePointLineSpec)

/-- ITS FALSE NEIGHBOUR: 'it returns false'. Refute it at one input. -/
def fnSpacePointLineWrong : ChangeSpec := { name := "fnSpacePointLine", fn := fun _ => fun
  | [d1, d2, d3] => { results := [.lit (.bool false)], args := [d1, d2, d3] }
  | _ => none }
def FnSpacePointLineWrongFalsely : Prop := fnSpacePointLineRow.holds Try.pinned (OpenSpec.ofChange fnSpacePointLineWrong)

/-- 'laws.FnInRing': WHATEVER THE INPUT: true; the input reads as it did. -/
def fnInRingSpec : ChangeSpec := { name := "fnInRing", fn := fun _ => fun
  | [d1, d2, d3] => { results := [.lit (.bool true)], args := [d1, d2, d3] }
  | _ => none }
def fnInRingRow : OpenClaim := { program := "ytohpmbodfpjjmaa", sum := "8c3bd52bea9d07b91c73af5f3ea3a16a34fe1fdfacb2a2109b7e25b1d3c0ce50", func := "pub-orthodrome/laws.FnInRing", spec := "fnInRing", inPlace := ["math.archTrunc", "math.Float64bits", "math.Float64frombits", "math.archFloor"], unfollowed := true, recurses := true, apart := false }
def FnInRingSaid : Prop := fnInRingRow.holds Try.pinned (OpenSpec.ofChange fnInRingSpec)

/-- ITS FALSE NEIGHBOUR: 'it returns false'. Refute it at one input. -/
def fnInRingWrong : ChangeSpec := { name := "fnInRing", fn := fun _ => fun
  | [d1, d2, d3] => { results := [.lit (.bool false)], args := [d1, d2, d3] }
  | _ => none }
def FnInRingWrongFalsely : Prop := fnInRingRow.holds Try.pinned (OpenSpec.ofChange fnInRingWrong)

/- THE SECOND FORM. 'bulk': how many values and letters a reading holds, each counted each time it is reached (what is shared counts as often as it is met; a slice's spare places count too). A statement '..UptoSaid' is the law's where the arguments, and the package variables that the reading takes, are together of bulk at most 1048576: NARROWER than '..Said'. Prove '..Said' where nothing that the law and all that it calls make is longer than what came in: it says more and counts as full. Else prove '..UptoSaid'. A law counts once. -/
mutual
def uptoBulk {H : Type} : DataW H → Nat
  | .lit (.string bytes) => bytes.length + 1
  | .lit _ => 1
  | .nil => 1
  | .ptr d => uptoBulk d + 1
  | .slice elems spare => uptoBulkAll elems + uptoBulkAll spare + 1
  | .agg parts => uptoBulkAll parts + 1
  | .iface _ d => uptoBulk d + 1
  | .map entries => uptoBulkEntries entries + 1
  | .held _ => 1
def uptoBulkAll {H : Type} : List (DataW H) → Nat
  | [] => 0
  | d :: r => uptoBulk d + uptoBulkAll r
def uptoBulkEntries {H : Type} : List (Lit × DataW H) → Nat
  | [] => 0
  | x :: r => uptoBulkEntry x + uptoBulkEntries r
def uptoBulkEntry {H : Type} : Lit × DataW H → Nat
  | (.string bytes, d) => bytes.length + uptoBulk d + 1
  | (_, d) => uptoBulk d + 1
 end
def uptoSmall : (H : Type) → List (DataW H) → Bool := fun _ ds => decide (uptoBulkAll ds ≤ 1048576)
def OpenSpec.upto (s : _root_.Go.ChangeSpec) : _root_.Go.OpenSpec := { _root_.Go.OpenSpec.ofChange s with cond := some uptoSmall }

/-- 'laws.FnSegmentDistance2', WHERE WHAT IT READS IS OF BULK AT MOST 1048576: true; the input reads as it did. -/
def fnSegmentDistance2UptoRow : OpenClaim := { program := "ytohpmbodfpjjmaa", sum := "8c3bd52bea9d07b91c73af5f3ea3a16a34fe1fdfacb2a2109b7e25b1d3c0ce50", func := "pub-orthodrome/laws.FnSegmentDistance2", spec := "fnSegmentDistance2", inPlace := ["math.archTrunc", "math.Float64bits", "math.Float64frombits"], apart := false, narrowed := true }
def FnSegmentDistance2UptoSaid : Prop := fnSegmentDistance2UptoRow.holds Try.pinned (OpenSpec.upto fnSegmentDistance2Spec)

/-- 'laws.FnPerpendicularDistance', WHERE WHAT IT READS IS OF BULK AT MOST 1048576: true; the input reads as it did. -/
def fnPerpendicularDistanceUptoRow : OpenClaim := { program := "ytohpmbodfpjjmaa", sum := "8c3bd52bea9d07b91c73af5f3ea3a16a34fe1fdfacb2a2109b7e25b1d3c0ce50", func := "pub-orthodrome/laws.FnPerpendicularDistance", spec := "fnPerpendicularDistance", inPlace := ["math.archTrunc", "math.Float64bits", "math.Float64frombits", "math.sqrt"], apart := false, narrowed := true }
def FnPerpendicularDistanceUptoSaid : Prop := fnPerpendicularDistanceUptoRow.holds Try.pinned (OpenSpec.upto fnPerpendicularDistanceSpec)

/-- 'laws.FnSpaceUnit', WHERE WHAT IT READS IS OF BULK AT MOST 1048576: true; the input reads as it did. -/
def fnSpaceUnitUptoRow : OpenClaim := { program := "ytohpmbodfpjjmaa", sum := "8c3bd52bea9d07b91c73af5f3ea3a16a34fe1fdfacb2a2109b7e25b1d3c0ce50", func := "pub-orthodrome/laws.FnSpaceUnit", spec := "fnSpaceUnit", inPlace := ["math.archTrunc", "math.Float64bits", "math.Float64frombits", "math.sqrt"], apart := false, narrowed := true }
def FnSpaceUnitUptoSaid : Prop := fnSpaceUnitUptoRow.holds Try.pinned (OpenSpec.upto fnSpaceUnitSpec)

/-- 'laws.FnSpacePointLine', WHERE WHAT IT READS IS OF BULK AT MOST 1048576: true; the input reads as it did. -/
def fnSpacePointLineUptoRow : OpenClaim := { program := "ytohpmbodfpjjmaa", sum := "8c3bd52bea9d07b91c73af5f3ea3a16a34fe1fdfacb2a2109b7e25b1d3c0ce50", func := "pub-orthodrome/laws.FnSpacePointLine", spec := "fnSpacePointLine", inPlace := ["math.archTrunc", "math.Float64bits", "math.Float64frombits", "math.sqrt"], unfollowed := true, recurses := true, apart := false, narrowed := true }
def FnSpacePointLineUptoSaid : Prop := fnSpacePointLineUptoRow.holds Try.pinned (OpenSpec.upto fnSpacePointLineSpec)

/-- 'laws.FnInRing', WHERE WHAT IT READS IS OF BULK AT MOST 1048576: true; the input reads as it did. -/
def fnInRingUptoRow : OpenClaim := { program := "ytohpmbodfpjjmaa", sum := "8c3bd52bea9d07b91c73af5f3ea3a16a34fe1fdfacb2a2109b7e25b1d3c0ce50", func := "pub-orthodrome/laws.FnInRing", spec := "fnInRing", inPlace := ["math.archTrunc", "math.Float64bits", "math.Float64frombits", "math.archFloor"], unfollowed := true, recurses := true, apart := false, narrowed := true }
def FnInRingUptoSaid : Prop := fnInRingUptoRow.holds Try.pinned (OpenSpec.upto fnInRingSpec)

end Rows
end Go.Proofs.Ytohpmbodfpjjmaa
