/- Proved: the law FnBoxOverlapsPoint answers true at every input, and its input reads as it did. No condition beyond the statement's own. -/
import Derived.Test.YtibeppgdhkjeaaaRows
import Derived.Test.YtibeppgdhkjeaaaVmRow
import Derived.Test.YtibeppgdhkjeaaaWBoxOverlaps
import Derived.Test.YtibeppgdhkjeaaaChecked
import Derived.WalkKit
import Derived.ProofKit
import Derived.OpenShut
import Derived.ShutString
import Derived.ChangeOld
import Derived.Below
namespace Go.Proofs.Ytibeppgdhkjeaaa.fnBoxOverlapsPoint
open Go.Vm
open Go.ChangeShapes Go.WideShapes Go.ChangeAt Go.RowKit
open Go.ChangeMaps (open_string shut_string)
set_option linter.unusedVariables false
theorem own : ownKnob Try.prog.godebug = none := by kernel_rfl
theorem laidOut : laidOutB Try.prog = true := by kernel_rfl
theorem flat1 {α : Type} (g : α → D) (l : List α) : (l.map fun z => [g z]).flatten = l.map g := by
  induction l with
  | nil => rfl
  | cons a l ih => simp [ih]
theorem cells47 : Try.prog.cellsOf 47 = 1 := by kernel_rfl
set_option maxRecDepth 100000 in
theorem lifted (os : Os) (started : os.Started) (H : Type) (enc : TypeId × Value → H) :
    ReturnsInHanded {} Try.checked os 4 .any (Rows.fnBoxOverlapsPointSpec.pre6 enc Try.prog Try.f4 Rows.fnBoxOverlapsPointRow.domain false) (Rows.fnBoxOverlapsPointSpec.post enc Try.prog Try.f4 false true false false) := by
  refine returnsInHanded_of_change (C := Try.checked) own started (by kernel_rfl) Try.func4
    (ChangeSpec.witness6 (enc := enc) (C := Try.checked) false ⟨#[], #[.int .i64 0, .agg #[.int .i64 0, .slice none 0 0, .slice none 0 0], .slice none 0 0], []⟩ 8 (by kernel_rfl) (by kernel_rfl) (by kernel_rfl) (by kernel_rfl)) ?_
  intro W base args ds gs before hval0 hW hcnd _
  have hval : ∀ (j : Nat) t v, Try.f4.params[j]? = some t → args[j]? = some v → Value.okWide Try.prog W .any base t v := hval0
  have hW' := hW
  obtain ⟨p, q, hA0, hV, rfl, hfz, hnd⟩ := hW
  have hA : DataW.TrodAll enc Try.prog W 0 (fun _ => true) true Try.f4.params.toList args.toList ds p := hA0
  rw [Try.params4] at hA hval
  obtain ⟨v0, vs0, d0, ds0, p0, q0, hargs, rfl, rfl, h0, r0⟩ := trodAll_cons hA
  obtain ⟨v1, vs1, d1, ds1, p1, q1, rfl, rfl, rfl, h1, r1⟩ := trodAll_cons r0
  obtain ⟨v2, vs2, d2, ds2, p2, q2, rfl, rfl, rfl, h2, r2⟩ := trodAll_cons r1
  obtain ⟨rfl, rfl, rfl⟩ := trodAll_nil r2
  obtain rfl : args = #[v0, v1, v2] := by cases args; simp_all
  obtain ⟨rfl, rfl⟩ := trodVars_none hV
  have lt0 : ∀ x ∈ p0, x.block < W.heap.size := by obtain ⟨m, hm⟩ := h0; exact DataW.trod_lt m _ _ _ hm
  obtain ⟨n0, x0, rep0, sh0⟩ := arg_one (k := 9) (by kernel_rfl) (by kernel_rfl) (hval 0 3 v0 rfl rfl) h0
  obtain ⟨a1, hx0, fa1⟩ := shape_int Try.underlying3 sh0
  simp only [List.cons.injEq, and_true] at hx0; subst hx0
  have lt1 : ∀ x ∈ p1, x.block < W.heap.size := by obtain ⟨m, hm⟩ := h1; exact DataW.trod_lt m _ _ _ hm
  obtain ⟨n1, x1, rep1, sh1⟩ := arg_struct (k := 9) Try.underlying38 (by kernel_rfl) (hval 1 38 v1 rfl rfl) h1
  obtain ⟨m2, l3⟩ := shape_struct Try.underlying38 sh1
  obtain ⟨_, _, rfl, s4, l5⟩ := shapeL_cons l3
  obtain ⟨a6, rfl, fa6⟩ := shape_int Try.underlying3 s4
  obtain ⟨_, _, rfl, s7, l8⟩ := shapeL_cons l5
  obtain ⟨m9, rows10, rfl, hl11, hr12⟩ := shape_slice Try.underlying22 s7
  obtain ⟨zs13, rfl, hz14⟩ := rows_choose (f := fun z : Nat => [.v (.float .f64 z)]) (Q := fun z => ((Lit.float .f64 z).wf = true)) (fun r hr => by
    have y15 := hr12 r hr
    obtain ⟨a16, rfl, fa16⟩ := shape_float Try.underlying47 y15
    exact ⟨a16, rfl, fa16⟩)
  simp only [List.length_map] at hl11
  have F17 := And.intro hl11 hz14
  obtain ⟨_, _, rfl, s18, l19⟩ := shapeL_cons l8
  obtain ⟨m20, rows21, rfl, hl22, hr23⟩ := shape_slice Try.underlying22 s18
  obtain ⟨zs24, rfl, hz25⟩ := rows_choose (f := fun z : Nat => [.v (.float .f64 z)]) (Q := fun z => ((Lit.float .f64 z).wf = true)) (fun r hr => by
    have y26 := hr23 r hr
    obtain ⟨a27, rfl, fa27⟩ := shape_float Try.underlying47 y26
    exact ⟨a27, rfl, fa27⟩)
  simp only [List.length_map] at hl22
  have F28 := And.intro hl22 hz25
  obtain rfl := shapeL_nil l19
  simp only [cells47, flat1] at rep1
  have lt2 : ∀ x ∈ p2, x.block < W.heap.size := by obtain ⟨m, hm⟩ := h2; exact DataW.trod_lt m _ _ _ hm
  obtain ⟨n2, x2, rep2, sh2⟩ := arg_one (k := 9) (by kernel_rfl) (by kernel_rfl) (hval 2 22 v2 rfl rfl) h2
  obtain ⟨m29, rows30, hx2, hl31, hr32⟩ := shape_slice Try.underlying22 sh2
  simp only [List.cons.injEq, and_true] at hx2; subst hx2
  obtain ⟨zs33, rfl, hz34⟩ := rows_choose (f := fun z : Nat => [.v (.float .f64 z)]) (Q := fun z => ((Lit.float .f64 z).wf = true)) (fun r hr => by
    have y35 := hr32 r hr
    obtain ⟨a36, rfl, fa36⟩ := shape_float Try.underlying47 y35
    exact ⟨a36, rfl, fa36⟩)
  simp only [List.length_map] at hl31
  have F37 := And.intro hl31 hz34
  simp only [cells47, flat1] at rep2
  clear hA0 hval0
  refine (FnD.law (vs := [v0, v1, v2]) (Wk.lawBoxOverlaps a1 a6 zs13 zs24 zs33 F17.1 F28.1 F37.1) rfl (rep_cons rep0 (rep_cons rep1 (rep_cons rep2 rep_nil)))).mono fun e W' ⟨he, bel⟩ => ?_
  subst he
  exact ⟨_, rfl, _, _, _, [], _, [], hW', trodAll_mk1 (shut_bool Try.underlying4 _), (trodAll_cons_mk (Below.trod laidOut (by kernel_rfl) (of_decide_eq_true (by kernel_rfl)) h0 bel lt0) (trodAll_cons_mk (Below.trod laidOut (by kernel_rfl) (of_decide_eq_true (by kernel_rfl)) h1 bel lt1) (trodAll_cons_mk (Below.trod laidOut (by kernel_rfl) (of_decide_eq_true (by kernel_rfl)) h2 bel lt2) trodAll_mk0))), rfl, bel.frame _, fun h => by cases h⟩
theorem over : Rows.fnBoxOverlapsPointRow.holds Try.pinned (OpenSpec.ofChange Rows.fnBoxOverlapsPointSpec) :=
  OpenClaim.holds_of_wide 4 Try.f4 rfl rfl rfl rfl rfl rfl rfl ⟨rfl, rfl, rfl, rfl, rfl⟩ rfl rfl rfl rfl rfl (by kernel_rfl) Try.func4 (by kernel_rfl)
    (of_decide_eq_true (by kernel_rfl)) (by unfold Func.isWrapper; first | (rw [if_pos (by decide +kernel)]; kernel_rfl) | (rw [if_neg (by decide +kernel)]; exact ⟨rfl, rfl⟩))
    (fun os started H enc _ => lifted os started H enc)
theorem proved : Rows.FnBoxOverlapsPointSaid := over
#print axioms proved
end Go.Proofs.Ytibeppgdhkjeaaa.fnBoxOverlapsPoint
namespace Go.Proofs.Ytibeppgdhkjeaaa
/-- The row, under a short name, for the claim. -/
theorem fnBoxOverlapsPoint_holds : Rows.FnBoxOverlapsPointSaid := fnBoxOverlapsPoint.proved
end Go.Proofs.Ytibeppgdhkjeaaa
