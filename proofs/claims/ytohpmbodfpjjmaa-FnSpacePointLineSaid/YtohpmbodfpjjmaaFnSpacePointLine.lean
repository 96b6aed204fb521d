/- Proved: the law FnSpacePointLine answers true at every input, and its input reads as it did. No condition beyond the statement's own. -/
import Derived.Test.YtohpmbodfpjjmaaRows
import Derived.Test.YtohpmbodfpjjmaaVmRow
import Derived.Test.YtohpmbodfpjjmaaWSp
import Derived.Test.YtohpmbodfpjjmaaSpB
import Derived.Test.YtohpmbodfpjjmaaChecked
import Derived.WalkKit
import Derived.ProofKit
import Derived.OpenShut
import Derived.ShutString
import Derived.ChangeOld
import Derived.Below
namespace Go.Proofs.Ytohpmbodfpjjmaa.fnSpacePointLine
open Go.Vm
open Go.ChangeShapes Go.WideShapes Go.ChangeAt Go.RowKit
open Go.ChangeMaps (open_string shut_string)
set_option linter.unusedVariables false
theorem own : ownKnob Try.prog.godebug = none := by kernel_rfl
theorem laidOut : laidOutB Try.prog = true := by kernel_rfl

set_option maxRecDepth 100000 in
theorem lifted (os : Os) (started : os.Started) (H : Type) (enc : TypeId × Value → H) :
    ReturnsInHanded {} Try.checked os 6 .any (Rows.fnSpacePointLineSpec.pre6 enc Try.prog Try.f6 Rows.fnSpacePointLineRow.domain false) (Rows.fnSpacePointLineSpec.post enc Try.prog Try.f6 false true false false) := by
  refine returnsInHanded_of_change (C := Try.checked) own started (by kernel_rfl) Try.func6
    (ChangeSpec.witness6 (enc := enc) (C := Try.checked) false ⟨#[], #[.agg #[.float .f64 0, .float .f64 0, .float .f64 0], .agg #[.float .f64 0, .float .f64 0, .float .f64 0], .agg #[.float .f64 0, .float .f64 0, .float .f64 0]], []⟩ 8 (by kernel_rfl) (by kernel_rfl) (by kernel_rfl) (by kernel_rfl)) ?_
  intro W base args ds gs before hval0 hW hcnd _
  have hval : ∀ (j : Nat) t v, Try.f6.params[j]? = some t → args[j]? = some v → Value.okWide Try.prog W .any base t v := hval0
  have hW' := hW
  obtain ⟨p, q, hA0, hV, rfl, hfz, hnd⟩ := hW
  have hA : DataW.TrodAll enc Try.prog W 0 (fun _ => true) true Try.f6.params.toList args.toList ds p := hA0
  rw [Try.params6] at hA hval
  obtain ⟨v0, vs0, d0, ds0, p0, q0, hargs, rfl, rfl, h0, r0⟩ := trodAll_cons hA
  obtain ⟨v1, vs1, d1, ds1, p1, q1, rfl, rfl, rfl, h1, r1⟩ := trodAll_cons r0
  obtain ⟨v2, vs2, d2, ds2, p2, q2, rfl, rfl, rfl, h2, r2⟩ := trodAll_cons r1
  obtain ⟨rfl, rfl, rfl⟩ := trodAll_nil r2
  obtain rfl : args = #[v0, v1, v2] := by cases args; simp_all
  obtain ⟨rfl, rfl⟩ := trodVars_none hV
  have lt0 : ∀ x ∈ p0, x.block < W.heap.size := by obtain ⟨m, hm⟩ := h0; exact DataW.trod_lt m _ _ _ hm
  obtain ⟨n0, x0, rep0, sh0⟩ := arg_struct (k := 9) Try.underlying47 (by kernel_rfl) (hval 0 47 v0 rfl rfl) h0
  obtain ⟨m1, l2⟩ := shape_struct Try.underlying47 sh0
  obtain ⟨_, _, rfl, s3, l4⟩ := shapeL_cons l2
  obtain ⟨a5, rfl, fa5⟩ := shape_float Try.underlying22 s3
  obtain ⟨_, _, rfl, s6, l7⟩ := shapeL_cons l4
  obtain ⟨a8, rfl, fa8⟩ := shape_float Try.underlying22 s6
  obtain ⟨_, _, rfl, s9, l10⟩ := shapeL_cons l7
  obtain ⟨a11, rfl, fa11⟩ := shape_float Try.underlying22 s9
  obtain rfl := shapeL_nil l10
  have lt1 : ∀ x ∈ p1, x.block < W.heap.size := by obtain ⟨m, hm⟩ := h1; exact DataW.trod_lt m _ _ _ hm
  obtain ⟨n1, x1, rep1, sh1⟩ := arg_struct (k := 9) Try.underlying47 (by kernel_rfl) (hval 1 47 v1 rfl rfl) h1
  obtain ⟨m12, l13⟩ := shape_struct Try.underlying47 sh1
  obtain ⟨_, _, rfl, s14, l15⟩ := shapeL_cons l13
  obtain ⟨a16, rfl, fa16⟩ := shape_float Try.underlying22 s14
  obtain ⟨_, _, rfl, s17, l18⟩ := shapeL_cons l15
  obtain ⟨a19, rfl, fa19⟩ := shape_float Try.underlying22 s17
  obtain ⟨_, _, rfl, s20, l21⟩ := shapeL_cons l18
  obtain ⟨a22, rfl, fa22⟩ := shape_float Try.underlying22 s20
  obtain rfl := shapeL_nil l21
  have lt2 : ∀ x ∈ p2, x.block < W.heap.size := by obtain ⟨m, hm⟩ := h2; exact DataW.trod_lt m _ _ _ hm
  obtain ⟨n2, x2, rep2, sh2⟩ := arg_struct (k := 9) Try.underlying47 (by kernel_rfl) (hval 2 47 v2 rfl rfl) h2
  obtain ⟨m23, l24⟩ := shape_struct Try.underlying47 sh2
  obtain ⟨_, _, rfl, s25, l26⟩ := shapeL_cons l24
  obtain ⟨a27, rfl, fa27⟩ := shape_float Try.underlying22 s25
  obtain ⟨_, _, rfl, s28, l29⟩ := shapeL_cons l26
  obtain ⟨a30, rfl, fa30⟩ := shape_float Try.underlying22 s28
  obtain ⟨_, _, rfl, s31, l32⟩ := shapeL_cons l29
  obtain ⟨a33, rfl, fa33⟩ := shape_float Try.underlying22 s31
  obtain rfl := shapeL_nil l32
  clear hA0 hval0
  refine (FnD.law (vs := [v0, v1, v2]) (Wk.w_FnSpacePointLine 1073741826 ⟨a5, a8, a11⟩ ⟨a16, a19, a22⟩ ⟨a27, a30, a33⟩ true (Wk.law_line3 (Nat.le_refl _) _ _ _ (wf64 fa5) (wf64 fa8) (wf64 fa11) (wf64 fa16) (wf64 fa19) (wf64 fa22) (wf64 fa27) (wf64 fa30) (wf64 fa33))) (fun _ hp => absurd hp (by simp [Globs])) rfl (rep_cons rep0 (rep_cons rep1 (rep_cons rep2 rep_nil)))).mono fun e W' ⟨he, bel⟩ => ?_
  subst he
  exact ⟨_, rfl, _, _, _, [], _, [], hW', trodAll_mk1 (shut_bool Try.underlying4 _), (trodAll_cons_mk (Below.trod laidOut (by kernel_rfl) (of_decide_eq_true (by kernel_rfl)) h0 bel lt0) (trodAll_cons_mk (Below.trod laidOut (by kernel_rfl) (of_decide_eq_true (by kernel_rfl)) h1 bel lt1) (trodAll_cons_mk (Below.trod laidOut (by kernel_rfl) (of_decide_eq_true (by kernel_rfl)) h2 bel lt2) trodAll_mk0))), rfl, bel.frame _, fun h => by cases h⟩
theorem over : Rows.fnSpacePointLineRow.holds Try.pinned (OpenSpec.ofChange Rows.fnSpacePointLineSpec) :=
  OpenClaim.holds_of_wide 6 Try.f6 rfl rfl rfl rfl rfl rfl rfl ⟨rfl, rfl, rfl, rfl, rfl⟩ rfl rfl rfl rfl rfl (by kernel_rfl) Try.func6 (by kernel_rfl)
    (of_decide_eq_true (by kernel_rfl)) (by unfold Func.isWrapper; first | (rw [if_pos (by decide +kernel)]; kernel_rfl) | (rw [if_neg (by decide +kernel)]; exact ⟨rfl, rfl⟩))
    (fun os started H enc _ => lifted os started H enc)
theorem proved : Rows.FnSpacePointLineSaid := over
#print axioms proved
end Go.Proofs.Ytohpmbodfpjjmaa.fnSpacePointLine
namespace Go.Proofs.Ytohpmbodfpjjmaa
/-- The row, under a short name, for the claim. -/
theorem fnSpacePointLine_holds : Rows.FnSpacePointLineSaid := fnSpacePointLine.proved
end Go.Proofs.Ytohpmbodfpjjmaa
