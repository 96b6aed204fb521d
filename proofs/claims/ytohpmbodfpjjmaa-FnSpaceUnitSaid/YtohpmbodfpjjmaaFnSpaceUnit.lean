/- Proved: the law FnSpaceUnit answers true at every input, and its input reads as it did. No condition beyond the statement's own. -/
import Derived.Test.YtohpmbodfpjjmaaRows
import Derived.Test.YtohpmbodfpjjmaaVmRow
import Derived.Test.YtohpmbodfpjjmaaWSu
import Derived.Test.YtohpmbodfpjjmaaSpU
import Derived.Test.YtohpmbodfpjjmaaChecked
import Derived.WalkKit
import Derived.ProofKit
import Derived.OpenShut
import Derived.ShutString
import Derived.ChangeOld
import Derived.Below
namespace Go.Proofs.Ytohpmbodfpjjmaa.fnSpaceUnit
open Go.Vm
open Go.ChangeShapes Go.WideShapes Go.ChangeAt Go.RowKit
open Go.ChangeMaps (open_string shut_string)
set_option linter.unusedVariables false
theorem own : ownKnob Try.prog.godebug = none := by kernel_rfl
theorem laidOut : laidOutB Try.prog = true := by kernel_rfl

set_option maxRecDepth 100000 in
theorem lifted (os : Os) (started : os.Started) (H : Type) (enc : TypeId × Value → H) :
    ReturnsInHanded {} Try.checked os 5 .any (Rows.fnSpaceUnitSpec.pre6 enc Try.prog Try.f5 Rows.fnSpaceUnitRow.domain false) (Rows.fnSpaceUnitSpec.post enc Try.prog Try.f5 false true false false) := by
  refine returnsInHanded_of_change (C := Try.checked) own started (by kernel_rfl) Try.func5
    (ChangeSpec.witness6 (enc := enc) (C := Try.checked) false ⟨#[], #[.agg #[.float .f64 0, .float .f64 0, .float .f64 0]], []⟩ 8 (by kernel_rfl) (by kernel_rfl) (by kernel_rfl) (by kernel_rfl)) ?_
  intro W base args ds gs before hval0 hW hcnd _
  have hval : ∀ (j : Nat) t v, Try.f5.params[j]? = some t → args[j]? = some v → Value.okWide Try.prog W .any base t v := hval0
  have hW' := hW
  obtain ⟨p, q, hA0, hV, rfl, hfz, hnd⟩ := hW
  have hA : DataW.TrodAll enc Try.prog W 0 (fun _ => true) true Try.f5.params.toList args.toList ds p := hA0
  rw [Try.params5] at hA hval
  obtain ⟨v0, vs0, d0, ds0, p0, q0, hargs, rfl, rfl, h0, r0⟩ := trodAll_cons hA
  obtain ⟨rfl, rfl, rfl⟩ := trodAll_nil r0
  obtain rfl : args = #[v0] := by cases args; simp_all
  obtain ⟨rfl, rfl⟩ := trodVars_none hV
  have lt0 : ∀ x ∈ p0, x.block < W.heap.size := by obtain ⟨m, hm⟩ := h0; exact DataW.trod_lt m _ _ _ hm
  obtain ⟨n0, x0, rep0, sh0⟩ := arg_struct (k := 9) Try.underlying47 (by kernel_rfl) (hval 0 47 v0 rfl rfl) h0
  obtain ⟨m1, l2⟩ := shape_struct Try.underlying47 sh0
  obtain ⟨_, _, rfl, s3, l4⟩ := shapeL_cons l2
  obtain ⟨a5, rfl, fa5⟩ := shape_float Try.underlying22 s3
  obtain ⟨_, _, rfl, s6, l7⟩ := shapeL_cons l4
  obtain ⟨a8, rfl, fa8⟩ := shape_float Try.underlying22 s6
  obtain ⟨_, _, rfl, s9, l10⟩ := shapeL_cons l7
  obtain ⟨a11, rfl, fa11⟩ := shape_float Try.underlying22 s9
  obtain rfl := shapeL_nil l10
  clear hA0 hval0
  refine (FnD.law (vs := [v0]) (Wk.w_FnSpaceUnit 1073741826 ⟨a5, a8, a11⟩ true (Wk.law_unit (Nat.le_refl _) _ (wf64 fa5) (wf64 fa8) (wf64 fa11))) (fun _ hp => absurd hp (by simp [Globs])) rfl (rep_cons rep0 rep_nil)).mono fun e W' ⟨he, bel⟩ => ?_
  subst he
  exact ⟨_, rfl, _, _, _, [], _, [], hW', trodAll_mk1 (shut_bool Try.underlying4 _), (trodAll_cons_mk (Below.trod laidOut (by kernel_rfl) (of_decide_eq_true (by kernel_rfl)) h0 bel lt0) trodAll_mk0), rfl, bel.frame _, fun h => by cases h⟩
theorem over : Rows.fnSpaceUnitRow.holds Try.pinned (OpenSpec.ofChange Rows.fnSpaceUnitSpec) :=
  OpenClaim.holds_of_wide 5 Try.f5 rfl rfl rfl rfl rfl rfl rfl ⟨rfl, rfl, rfl, rfl, rfl⟩ rfl rfl rfl rfl rfl (by kernel_rfl) Try.func5 (by kernel_rfl)
    (of_decide_eq_true (by kernel_rfl)) (by unfold Func.isWrapper; first | (rw [if_pos (by decide +kernel)]; kernel_rfl) | (rw [if_neg (by decide +kernel)]; exact ⟨rfl, rfl⟩))
    (fun os started H enc _ => lifted os started H enc)
theorem proved : Rows.FnSpaceUnitSaid := over
#print axioms proved
end Go.Proofs.Ytohpmbodfpjjmaa.fnSpaceUnit
namespace Go.Proofs.Ytohpmbodfpjjmaa
/-- The row, under a short name, for the claim. -/
theorem fnSpaceUnit_holds : Rows.FnSpaceUnitSaid := fnSpaceUnit.proved
end Go.Proofs.Ytohpmbodfpjjmaa
