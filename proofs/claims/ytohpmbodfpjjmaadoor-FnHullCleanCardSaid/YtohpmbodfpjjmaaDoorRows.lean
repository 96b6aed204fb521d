/-
  NARROWER THAN 'FOR EVERY INPUT', by the rows' own cells (each row's printed sentence says how): FnOrientationFilter: laid · FnHullBetween: laid · FnHullClean: laid · FnRingTurned: laid.
  DERIVED. THE GIVEN ROWS OF THIS SEAT. 4 by the template 'for every input the law returns true; each argument reads behind the call as it read before'; 0 by the template 'total and deterministic' (their statements: YtohpmbodfpjjmaaDoorTotals.lean).
  GIVEN WITH THE SEED: the statements are not yours to turn. If you find one false, say at which input.
  Laid BY PROGRAM, IN A SANDBOX (cutbox-rows.mjs): the forced cells as the released guide's own fill.sh prints them over the translation 18eaf5beafb53c50… (all of the seat's roots in one cut). By AI agents, Wed Nov 11 2026. No macro, syntax, notation, axiom, sorry.
-/
import Derived.Test.YtohpmbodfpjjmaaDoorChecked
import GoSem.Claim
import GoSem.ClaimJoined
import GoSem.ClaimMapViews
import Derived.JoinedTies
import Derived.KernelRfl
namespace Go.Proofs.YtohpmbodfpjjmaaDoor
/- THE CELL 'sum', in the pinned program and in every row, IS THE sha256 OF THE DUMP (.gsa) THAT YtohpmbodfpjjmaaDoorProg.lean LOADS. Nothing in Lean hashes anything: it is a label: what it is worth is what the hold of that sum in a sandbox is worth. -/
noncomputable def Tryd.pinned : Pinned := { name := "ytohpmbodfpjjmaadoor", sum := "18eaf5beafb53c50af6e07ebab8ef567abcdad4f6a4b46d058247f3710146afb", checked := Tryd.checked }
namespace Rows
def none {H : Type} : Left H := { results := [], args := [] }

/- WHAT THE LISTED PACKAGE-LEVEL VARIABLES READ AS WHEN THE CALL BEGINS. Each datum BY PROGRAM (the guide's laid-datum.mjs) off the statement by which the dump's own 'gosem.cut.vars' lays the variable. In a bare row this is a premise. The card (YtohpmbodfpjjmaaDoorCards.lean) ties it to the program's text. -/
def laid_pub_orthodrome_pub_gogeom_bigxy_dpSafeEpsilon {H : Type} : DataW H := .lit (.float .f64 4382569440205035030)

/-- 'laws.FnOrientationFilter': WHATEVER THE INPUT: true; the input reads as it did. -/
def fnOrientationFilterSpec : ChangeSpec := { name := "fnOrientationFilter", fn := fun _ => fun
  | [d1, d2, d3] => { results := [.lit (.bool true)], args := [d1, d2, d3] }
  | _ => none }
def fnOrientationFilterRow : OpenClaim := { program := "ytohpmbodfpjjmaadoor", sum := "18eaf5beafb53c50af6e07ebab8ef567abcdad4f6a4b46d058247f3710146afb", func := "pub-orthodrome/laws.FnOrientationFilter", spec := "fnOrientationFilter", inPlace := ["math.archTrunc", "math.Float64bits", "math.Float64frombits"], named := ["pub-orthodrome/pub/gogeom/bigxy.dpSafeEpsilon"], apart := false, laid := [("pub-orthodrome/pub/gogeom/bigxy.dpSafeEpsilon", laid_pub_orthodrome_pub_gogeom_bigxy_dpSafeEpsilon)] }
def FnOrientationFilterSaid : Prop := fnOrientationFilterRow.holds Tryd.pinned (OpenSpec.ofChange fnOrientationFilterSpec)

/-- ITS FALSE NEIGHBOUR: 'it returns false'. Refute it at one input. -/
def fnOrientationFilterWrong : ChangeSpec := { name := "fnOrientationFilter", fn := fun _ => fun
  | [d1, d2, d3] => { results := [.lit (.bool false)], args := [d1, d2, d3] }
  | _ => none }
def FnOrientationFilterWrongFalsely : Prop := fnOrientationFilterRow.holds Tryd.pinned (OpenSpec.ofChange fnOrientationFilterWrong)

/-- 'laws.FnHullBetween': WHATEVER THE INPUT: true; the input reads as it did. -/
def fnHullBetweenSpec : ChangeSpec := { name := "fnHullBetween", fn := fun _ => fun
  | [d1, d2, d3] => { results := [.lit (.bool true)], args := [d1, d2, d3] }
  | _ => none }
def fnHullBetweenRow : OpenClaim := { program := "ytohpmbodfpjjmaadoor", sum := "18eaf5beafb53c50af6e07ebab8ef567abcdad4f6a4b46d058247f3710146afb", func := "pub-orthodrome/laws.FnHullBetween", spec := "fnHullBetween", inPlace := ["math.archTrunc", "math.Float64bits", "math.Float64frombits"], named := ["pub-orthodrome/pub/gogeom/bigxy.dpSafeEpsilon"], apart := false, laid := [("pub-orthodrome/pub/gogeom/bigxy.dpSafeEpsilon", laid_pub_orthodrome_pub_gogeom_bigxy_dpSafeEpsilon)] }
def FnHullBetweenSaid : Prop := fnHullBetweenRow.holds Tryd.pinned (OpenSpec.ofChange fnHullBetweenSpec)

/-- ITS FALSE NEIGHBOUR: 'it returns false'. Refute it at one input. -/
def fnHullBetweenWrong : ChangeSpec := { name := "fnHullBetween", fn := fun _ => fun
  | [d1, d2, d3] => { results := [.lit (.bool false)], args := [d1, d2, d3] }
  | _ => none }
def FnHullBetweenWrongFalsely : Prop := fnHullBetweenRow.holds Tryd.pinned (OpenSpec.ofChange fnHullBetweenWrong)

/-- 'laws.FnHullClean': WHATEVER THE INPUT: true; the input reads as it did. -/
def fnHullCleanSpec : ChangeSpec := { name := "fnHullClean", fn := fun _ => fun
  | [d1, d2] => { results := [.lit (.bool true)], args := [d1, d2] }
  | _ => none }
def fnHullCleanRow : OpenClaim := { program := "ytohpmbodfpjjmaadoor", sum := "18eaf5beafb53c50af6e07ebab8ef567abcdad4f6a4b46d058247f3710146afb", func := "pub-orthodrome/laws.FnHullClean", spec := "fnHullClean", inPlace := ["math.archTrunc", "math.Float64bits", "math.Float64frombits"], unfollowed := true, recurses := true, named := ["pub-orthodrome/pub/gogeom/bigxy.dpSafeEpsilon"], apart := false, laid := [("pub-orthodrome/pub/gogeom/bigxy.dpSafeEpsilon", laid_pub_orthodrome_pub_gogeom_bigxy_dpSafeEpsilon)] }
def FnHullCleanSaid : Prop := fnHullCleanRow.holds Tryd.pinned (OpenSpec.ofChange fnHullCleanSpec)

/-- ITS FALSE NEIGHBOUR: 'it returns false'. Refute it at one input. -/
def fnHullCleanWrong : ChangeSpec := { name := "fnHullClean", fn := fun _ => fun
  | [d1, d2] => { results := [.lit (.bool false)], args := [d1, d2] }
  | _ => none }
def FnHullCleanWrongFalsely : Prop := fnHullCleanRow.holds Tryd.pinned (OpenSpec.ofChange fnHullCleanWrong)

/-- 'laws.FnRingTurned': WHATEVER THE INPUT: true; the input reads as it did. -/
def fnRingTurnedSpec : ChangeSpec := { name := "fnRingTurned", fn := fun _ => fun
  | [d1, d2] => { results := [.lit (.bool true)], args := [d1, d2] }
  | _ => none }
def fnRingTurnedRow : OpenClaim := { program := "ytohpmbodfpjjmaadoor", sum := "18eaf5beafb53c50af6e07ebab8ef567abcdad4f6a4b46d058247f3710146afb", func := "pub-orthodrome/laws.FnRingTurned", spec := "fnRingTurned", inPlace := ["math.archTrunc", "math.Float64bits", "math.Float64frombits"], unfollowed := true, recurses := true, named := ["pub-orthodrome/pub/gogeom/bigxy.dpSafeEpsilon"], apart := false, laid := [("pub-orthodrome/pub/gogeom/bigxy.dpSafeEpsilon", laid_pub_orthodrome_pub_gogeom_bigxy_dpSafeEpsilon)] }
def FnRingTurnedSaid : Prop := fnRingTurnedRow.holds Tryd.pinned (OpenSpec.ofChange fnRingTurnedSpec)

/-- ITS FALSE NEIGHBOUR: 'it returns false'. Refute it at one input. -/
def fnRingTurnedWrong : ChangeSpec := { name := "fnRingTurned", fn := fun _ => fun
  | [d1, d2] => { results := [.lit (.bool false)], args := [d1, d2] }
  | _ => none }
def FnRingTurnedWrongFalsely : Prop := fnRingTurnedRow.holds Tryd.pinned (OpenSpec.ofChange fnRingTurnedWrong)

/- THE SECOND FORM. 'bulk': how many values and letters a reading holds, each counted each time it is reached (what is shared counts as often as it is met; a slice's spare places count too). A statement '..UptoSaid' is the law's where the arguments, and the package variables that the reading takes, are together of bulk at most 1048576: NARROWER than '..Said'. Prove '..Said' where nothing that the law and all that it calls make is longer than what came in: it says more and counts as full. Else prove '..UptoSaid'. A law counts once. -/
mutual
def uptoBulk {H : Type} : DataW H → Nat
  | .lit (.string bytes) => bytes.length + 1
  | .lit _ => 1
  | .nil => 1
  | .ptr d => uptoBulk d + 1
  | .slice elems spare => uptoBulkAll elems + uptoBulkAll spare + 1
  | .agg parts => uptoBulkAll parts + 1
  | .iface _ d => uptoBulk d + 1
  | .map entries => uptoBulkEntries entries + 1
  | .held _ => 1
def uptoBulkAll {H : Type} : List (DataW H) → Nat
  | [] => 0
  | d :: r => uptoBulk d + uptoBulkAll r
def uptoBulkEntries {H : Type} : List (Lit × DataW H) → Nat
  | [] => 0
  | x :: r => uptoBulkEntry x + uptoBulkEntries r
def uptoBulkEntry {H : Type} : Lit × DataW H → Nat
  | (.string bytes, d) => bytes.length + uptoBulk d + 1
  | (_, d) => uptoBulk d + 1
 end
def uptoSmall : (H : Type) → List (DataW H) → Bool := fun _ ds => decide (uptoBulkAll ds ≤ 1048576)
def OpenSpec.upto (s : _root_.Go.ChangeSpec) : _root_.Go.OpenSpec := { _root_.Go.OpenSpec.ofChange s with cond := some uptoSmall }

/-- 'laws.FnOrientationFilter', WHERE WHAT IT READS IS OF BULK AT MOST 1048576: true; the input reads as it did. -/
def fnOrientationFilterUptoRow : OpenClaim := { program := "ytohpmbodfpjjmaadoor", sum := "18eaf5beafb53c50af6e07ebab8ef567abcdad4f6a4b46d058247f3710146afb", func := "pub-orthodrome/laws.FnOrientationFilter", spec := "fnOrientationFilter", inPlace := ["math.archTrunc", "math.Float64bits", "math.Float64frombits"], named := ["pub-orthodrome/pub/gogeom/bigxy.dpSafeEpsilon"], apart := false, laid := [("pub-orthodrome/pub/gogeom/bigxy.dpSafeEpsilon", laid_pub_orthodrome_pub_gogeom_bigxy_dpSafeEpsilon)], narrowed := true }
def FnOrientationFilterUptoSaid : Prop := fnOrientationFilterUptoRow.holds Tryd.pinned (OpenSpec.upto fnOrientationFilterSpec)

/-- 'laws.FnHullBetween', WHERE WHAT IT READS IS OF BULK AT MOST 1048576: true; the input reads as it did. -/
def fnHullBetweenUptoRow : OpenClaim := { program := "ytohpmbodfpjjmaadoor", sum := "18eaf5beafb53c50af6e07ebab8ef567abcdad4f6a4b46d058247f3710146afb", func := "pub-orthodrome/laws.FnHullBetween", spec := "fnHullBetween", inPlace := ["math.archTrunc", "math.Float64bits", "math.Float64frombits"], named := ["pub-orthodrome/pub/gogeom/bigxy.dpSafeEpsilon"], apart := false, laid := [("pub-orthodrome/pub/gogeom/bigxy.dpSafeEpsilon", laid_pub_orthodrome_pub_gogeom_bigxy_dpSafeEpsilon)], narrowed := true }
def FnHullBetweenUptoSaid : Prop := fnHullBetweenUptoRow.holds Tryd.pinned (OpenSpec.upto fnHullBetweenSpec)

/-- 'laws.FnHullClean', WHERE WHAT IT READS IS OF BULK AT MOST 1048576: true; the input reads as it did. -/
def fnHullCleanUptoRow : OpenClaim := { program := "ytohpmbodfpjjmaadoor", sum := "18eaf5beafb53c50af6e07ebab8ef567abcdad4f6a4b46d058247f3710146afb", func := "pub-orthodrome/laws.FnHullClean", spec := "fnHullClean", inPlace := ["math.archTrunc", "math.Float64bits", "math.Float64frombits"], unfollowed := true, recurses := true, named := ["pub-orthodrome/pub/gogeom/bigxy.dpSafeEpsilon"], apart := false, laid := [("pub-orthodrome/pub/gogeom/bigxy.dpSafeEpsilon", laid_pub_orthodrome_pub_gogeom_bigxy_dpSafeEpsilon)], narrowed := true }
def FnHullCleanUptoSaid : Prop := fnHullCleanUptoRow.holds Tryd.pinned (OpenSpec.upto fnHullCleanSpec)

/-- 'laws.FnRingTurned', WHERE WHAT IT READS IS OF BULK AT MOST 1048576: true; the input reads as it did. -/
def fnRingTurnedUptoRow : OpenClaim := { program := "ytohpmbodfpjjmaadoor", sum := "18eaf5beafb53c50af6e07ebab8ef567abcdad4f6a4b46d058247f3710146afb", func := "pub-orthodrome/laws.FnRingTurned", spec := "fnRingTurned", inPlace := ["math.archTrunc", "math.Float64bits", "math.Float64frombits"], unfollowed := true, recurses := true, named := ["pub-orthodrome/pub/gogeom/bigxy.dpSafeEpsilon"], apart := false, laid := [("pub-orthodrome/pub/gogeom/bigxy.dpSafeEpsilon", laid_pub_orthodrome_pub_gogeom_bigxy_dpSafeEpsilon)], narrowed := true }
def FnRingTurnedUptoSaid : Prop := fnRingTurnedUptoRow.holds Tryd.pinned (OpenSpec.upto fnRingTurnedSpec)

end Rows
end Go.Proofs.YtohpmbodfpjjmaaDoor
