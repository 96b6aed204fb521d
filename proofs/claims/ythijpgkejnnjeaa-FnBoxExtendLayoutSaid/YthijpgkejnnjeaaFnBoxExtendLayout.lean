/- Proved: the law FnBoxExtendLayout answers true at every input, and its input reads as it did. No condition beyond the statement's own. -/
import Derived.Test.YthijpgkejnnjeaaRows
import Derived.Test.YthijpgkejnnjeaaVmRow
import Derived.Test.YthijpgkejnnjeaaWXl
import Derived.Test.YthijpgkejnnjeaaBoxF
import Derived.Test.YthijpgkejnnjeaaChecked
import Derived.WalkKit
import Derived.ProofKit
import Derived.OpenShut
import Derived.ShutString
import Derived.ChangeOld
import Derived.Below
namespace Go.Proofs.Ythijpgkejnnjeaa.fnBoxExtendLayout
open Go.Vm
open Go.ChangeShapes Go.WideShapes Go.ChangeAt Go.RowKit
open Go.ChangeMaps (open_string shut_string)
set_option linter.unusedVariables false
theorem own : ownKnob Try.prog.godebug = none := by kernel_rfl
theorem laidOut : laidOutB Try.prog = true := by kernel_rfl
theorem flat1 {α : Type} (g : α → D) (l : List α) : (l.map fun z => [g z]).flatten = l.map g := by
  induction l with
  | nil => rfl
  | cons a l ih => simp [ih]
theorem cells40 : Try.prog.cellsOf 40 = 1 := by kernel_rfl
set_option maxRecDepth 100000 in
theorem lifted (os : Os) (started : os.Started) (H : Type) (enc : TypeId × Value → H) :
    ReturnsInHanded {} Try.checked os 7 .any (Rows.fnBoxExtendLayoutSpec.pre6 enc Try.prog Try.f7 Rows.fnBoxExtendLayoutRow.domain false) (Rows.fnBoxExtendLayoutSpec.post enc Try.prog Try.f7 false true false false) := by
  refine returnsInHanded_of_change (C := Try.checked) own started (by kernel_rfl) Try.func7
    (ChangeSpec.witness6 (enc := enc) (C := Try.checked) false ⟨#[], #[.agg #[.int .i64 0, .slice none 0 0, .slice none 0 0], .int .i64 0], []⟩ 8 (by kernel_rfl) (by kernel_rfl) (by kernel_rfl) (by kernel_rfl)) ?_
  intro W base args ds gs before hval0 hW hcnd _
  have hval : ∀ (j : Nat) t v, Try.f7.params[j]? = some t → args[j]? = some v → Value.okWide Try.prog W .any base t v := hval0
  have hW' := hW
  obtain ⟨p, q, hA0, hV, rfl, hfz, hnd⟩ := hW
  have hA : DataW.TrodAll enc Try.prog W 0 (fun _ => true) true Try.f7.params.toList args.toList ds p := hA0
  rw [Try.params7] at hA hval
  obtain ⟨v0, vs0, d0, ds0, p0, q0, hargs, rfl, rfl, h0, r0⟩ := trodAll_cons hA
  obtain ⟨v1, vs1, d1, ds1, p1, q1, rfl, rfl, rfl, h1, r1⟩ := trodAll_cons r0
  obtain ⟨rfl, rfl, rfl⟩ := trodAll_nil r1
  obtain rfl : args = #[v0, v1] := by cases args; simp_all
  obtain ⟨rfl, rfl⟩ := trodVars_none hV
  have lt0 : ∀ x ∈ p0, x.block < W.heap.size := by obtain ⟨m, hm⟩ := h0; exact DataW.trod_lt m _ _ _ hm
  obtain ⟨n0, x0, rep0, sh0⟩ := arg_struct (k := 9) Try.underlying24 (by kernel_rfl) (hval 0 24 v0 rfl rfl) h0
  obtain ⟨m1, l2⟩ := shape_struct Try.underlying24 sh0
  obtain ⟨_, _, rfl, s3, l4⟩ := shapeL_cons l2
  obtain ⟨a5, rfl, fa5⟩ := shape_int Try.underlying3 s3
  obtain ⟨_, _, rfl, s6, l7⟩ := shapeL_cons l4
  obtain ⟨m8, rows9, rfl, hl10, hr11⟩ := shape_slice Try.underlying22 s6
  obtain ⟨zs12, rfl, hz13⟩ := rows_choose (f := fun z : Nat => [.v (.float .f64 z)]) (Q := fun z => ((Lit.float .f64 z).wf = true)) (fun r hr => by
    have y14 := hr11 r hr
    obtain ⟨a15, rfl, fa15⟩ := shape_float Try.underlying40 y14
    exact ⟨a15, rfl, fa15⟩)
  simp only [List.length_map] at hl10
  have F16 := And.intro hl10 hz13
  obtain ⟨_, _, rfl, s17, l18⟩ := shapeL_cons l7
  obtain ⟨m19, rows20, rfl, hl21, hr22⟩ := shape_slice Try.underlying22 s17
  obtain ⟨zs23, rfl, hz24⟩ := rows_choose (f := fun z : Nat => [.v (.float .f64 z)]) (Q := fun z => ((Lit.float .f64 z).wf = true)) (fun r hr => by
    have y25 := hr22 r hr
    obtain ⟨a26, rfl, fa26⟩ := shape_float Try.underlying40 y25
    exact ⟨a26, rfl, fa26⟩)
  simp only [List.length_map] at hl21
  have F27 := And.intro hl21 hz24
  obtain rfl := shapeL_nil l18
  try simp only [cells40, flat1] at rep0
  have lt1 : ∀ x ∈ p1, x.block < W.heap.size := by obtain ⟨m, hm⟩ := h1; exact DataW.trod_lt m _ _ _ hm
  obtain ⟨n1, x1, rep1, sh1⟩ := arg_one (k := 9) (by kernel_rfl) (by kernel_rfl) (hval 1 3 v1 rfl rfl) h1
  obtain ⟨a28, hx1, fa28⟩ := shape_int Try.underlying3 sh1
  simp only [List.cons.injEq, and_true] at hx1; subst hx1
  try simp only [cells40, flat1] at rep1
  clear hA0 hval0
  refine (FnD.law (vs := [v0, v1]) (Wk.w_FnBoxExtendLayout 40 ⟨a5, zs12, zs23⟩ a28 true (Wk.be_p _ _)) ⟨fun _ hp => absurd hp (by simp [Globs]), fun _ hp => absurd hp (by simp [GlobsE])⟩ rfl (rep_cons rep0 (rep_cons rep1 rep_nil))).mono fun e W' ⟨he, bel⟩ => ?_
  subst he
  exact ⟨_, rfl, _, _, _, [], _, [], hW', trodAll_mk1 (shut_bool Try.underlying4 _), (trodAll_cons_mk (Below.trod laidOut (by kernel_rfl) (of_decide_eq_true (by kernel_rfl)) h0 bel lt0) (trodAll_cons_mk (Below.trod laidOut (by kernel_rfl) (of_decide_eq_true (by kernel_rfl)) h1 bel lt1) trodAll_mk0)), rfl, bel.frame _, fun h => by cases h⟩
theorem over : Rows.fnBoxExtendLayoutRow.holds Try.pinned (OpenSpec.ofChange Rows.fnBoxExtendLayoutSpec) :=
  OpenClaim.holds_of_wide 7 Try.f7 rfl rfl rfl rfl rfl rfl rfl ⟨rfl, rfl, rfl, rfl, rfl⟩ rfl rfl rfl rfl rfl (by kernel_rfl) Try.func7 (by kernel_rfl)
    (of_decide_eq_true (by kernel_rfl)) (by unfold Func.isWrapper; first | (rw [if_pos (by decide +kernel)]; kernel_rfl) | (rw [if_neg (by decide +kernel)]; exact ⟨rfl, rfl⟩))
    (fun os started H enc _ => lifted os started H enc)
theorem proved : Rows.FnBoxExtendLayoutSaid := over
#print axioms proved
end Go.Proofs.Ythijpgkejnnjeaa.fnBoxExtendLayout
namespace Go.Proofs.Ythijpgkejnnjeaa
/-- The row, under a short name, for the claim. -/
theorem fnBoxExtendLayout_holds : Rows.FnBoxExtendLayoutSaid := fnBoxExtendLayout.proved
end Go.Proofs.Ythijpgkejnnjeaa
