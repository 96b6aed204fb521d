/- Proved: the law FnCross3 answers true at every input, and its input reads as it did. No condition beyond the statement's own. -/
import Derived.Test.YtibeppgdhkjeaaaRows
import Derived.Test.YtibeppgdhkjeaaaVmRow
import Derived.Test.YtibeppgdhkjeaaaWCross3
import Derived.Test.YtibeppgdhkjeaaaCross3
import Derived.Test.YtibeppgdhkjeaaaChecked
import Derived.WalkKit
import Derived.ProofKit
import Derived.OpenShut
import Derived.ShutString
import Derived.ChangeOld
import Derived.Below
namespace Go.Proofs.Ytibeppgdhkjeaaa.fnCross3
open Go.Vm
open Go.ChangeShapes Go.WideShapes Go.ChangeAt Go.RowKit
open Go.ChangeMaps (open_string shut_string)
set_option linter.unusedVariables false
theorem own : ownKnob Try.prog.godebug = none := by kernel_rfl
theorem laidOut : laidOutB Try.prog = true := by kernel_rfl

set_option maxRecDepth 100000 in
theorem lifted (os : Os) (started : os.Started) (H : Type) (enc : TypeId × Value → H) :
    ReturnsInHanded {} Try.checked os 6 .any (Rows.fnCross3Spec.pre6 enc Try.prog Try.f6 Rows.fnCross3Row.domain false) (Rows.fnCross3Spec.post enc Try.prog Try.f6 false true false false) := by
  refine returnsInHanded_of_change (C := Try.checked) own started (by kernel_rfl) Try.func6
    (ChangeSpec.witness6 (enc := enc) (C := Try.checked) false ⟨#[], #[.agg #[.float .f64 0, .float .f64 0, .float .f64 0], .agg #[.float .f64 0, .float .f64 0, .float .f64 0]], []⟩ 8 (by kernel_rfl) (by kernel_rfl) (by kernel_rfl) (by kernel_rfl)) ?_
  intro W base args ds gs before hval0 hW hcnd _
  have hval : ∀ (j : Nat) t v, Try.f6.params[j]? = some t → args[j]? = some v → Value.okWide Try.prog W .any base t v := hval0
  have hW' := hW
  obtain ⟨p, q, hA0, hV, rfl, hfz, hnd⟩ := hW
  have hA : DataW.TrodAll enc Try.prog W 0 (fun _ => true) true Try.f6.params.toList args.toList ds p := hA0
  rw [Try.params6] at hA hval
  obtain ⟨v0, vs0, d0, ds0, p0, q0, hargs, rfl, rfl, h0, r0⟩ := trodAll_cons hA
  obtain ⟨v1, vs1, d1, ds1, p1, q1, rfl, rfl, rfl, h1, r1⟩ := trodAll_cons r0
  obtain ⟨rfl, rfl, rfl⟩ := trodAll_nil r1
  obtain rfl : args = #[v0, v1] := by cases args; simp_all
  obtain ⟨rfl, rfl⟩ := trodVars_none hV
  have lt0 : ∀ x ∈ p0, x.block < W.heap.size := by obtain ⟨m, hm⟩ := h0; exact DataW.trod_lt m _ _ _ hm
  obtain ⟨n0, x0, rep0, sh0⟩ := arg_struct (k := 9) Try.underlying54 (by kernel_rfl) (hval 0 54 v0 rfl rfl) h0
  obtain ⟨m1, l2⟩ := shape_struct Try.underlying54 sh0
  obtain ⟨_, _, rfl, s3, l4⟩ := shapeL_cons l2
  obtain ⟨a5, rfl, fa5⟩ := shape_float Try.underlying47 s3
  obtain ⟨_, _, rfl, s6, l7⟩ := shapeL_cons l4
  obtain ⟨a8, rfl, fa8⟩ := shape_float Try.underlying47 s6
  obtain ⟨_, _, rfl, s9, l10⟩ := shapeL_cons l7
  obtain ⟨a11, rfl, fa11⟩ := shape_float Try.underlying47 s9
  obtain rfl := shapeL_nil l10
  have lt1 : ∀ x ∈ p1, x.block < W.heap.size := by obtain ⟨m, hm⟩ := h1; exact DataW.trod_lt m _ _ _ hm
  obtain ⟨n1, x1, rep1, sh1⟩ := arg_struct (k := 9) Try.underlying54 (by kernel_rfl) (hval 1 54 v1 rfl rfl) h1
  obtain ⟨m12, l13⟩ := shape_struct Try.underlying54 sh1
  obtain ⟨_, _, rfl, s14, l15⟩ := shapeL_cons l13
  obtain ⟨a16, rfl, fa16⟩ := shape_float Try.underlying47 s14
  obtain ⟨_, _, rfl, s17, l18⟩ := shapeL_cons l15
  obtain ⟨a19, rfl, fa19⟩ := shape_float Try.underlying47 s17
  obtain ⟨_, _, rfl, s20, l21⟩ := shapeL_cons l18
  obtain ⟨a22, rfl, fa22⟩ := shape_float Try.underlying47 s20
  obtain rfl := shapeL_nil l21
  clear hA0 hval0
  refine (FnD.law (vs := [v0, v1]) (Wk.w_FnCross3 1073741826 ⟨a5, a8, a11⟩ ⟨a16, a19, a22⟩ true (Wk.law_p (Nat.le_refl _) _ _ (wf64 fa5) (wf64 fa8) (wf64 fa11) (wf64 fa16) (wf64 fa19) (wf64 fa22))) rfl (rep_cons rep0 (rep_cons rep1 rep_nil))).mono fun e W' ⟨he, bel⟩ => ?_
  subst he
  exact ⟨_, rfl, _, _, _, [], _, [], hW', trodAll_mk1 (shut_bool Try.underlying4 _), (trodAll_cons_mk (Below.trod laidOut (by kernel_rfl) (of_decide_eq_true (by kernel_rfl)) h0 bel lt0) (trodAll_cons_mk (Below.trod laidOut (by kernel_rfl) (of_decide_eq_true (by kernel_rfl)) h1 bel lt1) trodAll_mk0)), rfl, bel.frame _, fun h => by cases h⟩
theorem over : Rows.fnCross3Row.holds Try.pinned (OpenSpec.ofChange Rows.fnCross3Spec) :=
  OpenClaim.holds_of_wide 6 Try.f6 rfl rfl rfl rfl rfl rfl rfl ⟨rfl, rfl, rfl, rfl, rfl⟩ rfl rfl rfl rfl rfl (by kernel_rfl) Try.func6 (by kernel_rfl)
    (of_decide_eq_true (by kernel_rfl)) (by unfold Func.isWrapper; first | (rw [if_pos (by decide +kernel)]; kernel_rfl) | (rw [if_neg (by decide +kernel)]; exact ⟨rfl, rfl⟩))
    (fun os started H enc _ => lifted os started H enc)
theorem proved : Rows.FnCross3Said := over
#print axioms proved
end Go.Proofs.Ytibeppgdhkjeaaa.fnCross3
namespace Go.Proofs.Ytibeppgdhkjeaaa
/-- The row, under a short name, for the claim. -/
theorem fnCross3_holds : Rows.FnCross3Said := fnCross3.proved
end Go.Proofs.Ytibeppgdhkjeaaa
