/- Proved: the law FnNormalizedMeet answers true at every input, and its input reads as it did. No condition beyond the statement's own. -/
import Derived.Test.YtohgipjhcgblfaaRows
import Derived.Test.YtohgipjhcgblfaaVmRow
import Derived.Test.YtohgipjhcgblfaaWNm
import Derived.Test.YtohgipjhcgblfaaNmAll
import Derived.Test.YtohgipjhcgblfaaChecked
import Derived.WalkKit
import Derived.ProofKit
import Derived.OpenShut
import Derived.ShutString
import Derived.ChangeOld
import Derived.Below
namespace Go.Proofs.Ytohgipjhcgblfaa.fnNormalizedMeet
open Go.Vm
open Go.ChangeShapes Go.WideShapes Go.ChangeAt Go.RowKit
open Go.ChangeMaps (open_string shut_string)
set_option linter.unusedVariables false
theorem own : ownKnob Try.prog.godebug = none := by kernel_rfl
theorem laidOut : laidOutB Try.prog = true := by kernel_rfl

set_option maxRecDepth 100000 in
theorem lifted (os : Os) (started : os.Started) (H : Type) (enc : TypeId × Value → H) :
    ReturnsInHanded {} Try.checked os 3 .any (Rows.fnNormalizedMeetSpec.pre6 enc Try.prog Try.f3 Rows.fnNormalizedMeetRow.domain false) (Rows.fnNormalizedMeetSpec.post enc Try.prog Try.f3 false true false false) := by
  refine returnsInHanded_of_change (C := Try.checked) own started (by kernel_rfl) Try.func3
    (ChangeSpec.witness6 (enc := enc) (C := Try.checked) false ⟨#[], #[.agg #[.float .f64 0, .float .f64 0], .agg #[.float .f64 0, .float .f64 0], .agg #[.float .f64 0, .float .f64 0], .agg #[.float .f64 0, .float .f64 0]], []⟩ 8 (by kernel_rfl) (by kernel_rfl) (by kernel_rfl) (by kernel_rfl)) ?_
  intro W base args ds gs before hval0 hW hcnd _
  have hval : ∀ (j : Nat) t v, Try.f3.params[j]? = some t → args[j]? = some v → Value.okWide Try.prog W .any base t v := hval0
  have hW' := hW
  obtain ⟨p, q, hA0, hV, rfl, hfz, hnd⟩ := hW
  have hA : DataW.TrodAll enc Try.prog W 0 (fun _ => true) true Try.f3.params.toList args.toList ds p := hA0
  rw [Try.params3] at hA hval
  obtain ⟨v0, vs0, d0, ds0, p0, q0, hargs, rfl, rfl, h0, r0⟩ := trodAll_cons hA
  obtain ⟨v1, vs1, d1, ds1, p1, q1, rfl, rfl, rfl, h1, r1⟩ := trodAll_cons r0
  obtain ⟨v2, vs2, d2, ds2, p2, q2, rfl, rfl, rfl, h2, r2⟩ := trodAll_cons r1
  obtain ⟨v3, vs3, d3, ds3, p3, q3, rfl, rfl, rfl, h3, r3⟩ := trodAll_cons r2
  obtain ⟨rfl, rfl, rfl⟩ := trodAll_nil r3
  obtain rfl : args = #[v0, v1, v2, v3] := by cases args; simp_all
  obtain ⟨rfl, rfl⟩ := trodVars_none hV
  have lt0 : ∀ x ∈ p0, x.block < W.heap.size := by obtain ⟨m, hm⟩ := h0; exact DataW.trod_lt m _ _ _ hm
  obtain ⟨n0, x0, rep0, sh0⟩ := arg_struct (k := 9) Try.underlying24 (by kernel_rfl) (hval 0 24 v0 rfl rfl) h0
  obtain ⟨m1, l2⟩ := shape_struct Try.underlying24 sh0
  obtain ⟨_, _, rfl, s3, l4⟩ := shapeL_cons l2
  obtain ⟨a5, rfl, fa5⟩ := shape_float Try.underlying22 s3
  obtain ⟨_, _, rfl, s6, l7⟩ := shapeL_cons l4
  obtain ⟨a8, rfl, fa8⟩ := shape_float Try.underlying22 s6
  obtain rfl := shapeL_nil l7
  have lt1 : ∀ x ∈ p1, x.block < W.heap.size := by obtain ⟨m, hm⟩ := h1; exact DataW.trod_lt m _ _ _ hm
  obtain ⟨n1, x1, rep1, sh1⟩ := arg_struct (k := 9) Try.underlying24 (by kernel_rfl) (hval 1 24 v1 rfl rfl) h1
  obtain ⟨m9, l10⟩ := shape_struct Try.underlying24 sh1
  obtain ⟨_, _, rfl, s11, l12⟩ := shapeL_cons l10
  obtain ⟨a13, rfl, fa13⟩ := shape_float Try.underlying22 s11
  obtain ⟨_, _, rfl, s14, l15⟩ := shapeL_cons l12
  obtain ⟨a16, rfl, fa16⟩ := shape_float Try.underlying22 s14
  obtain rfl := shapeL_nil l15
  have lt2 : ∀ x ∈ p2, x.block < W.heap.size := by obtain ⟨m, hm⟩ := h2; exact DataW.trod_lt m _ _ _ hm
  obtain ⟨n2, x2, rep2, sh2⟩ := arg_struct (k := 9) Try.underlying24 (by kernel_rfl) (hval 2 24 v2 rfl rfl) h2
  obtain ⟨m17, l18⟩ := shape_struct Try.underlying24 sh2
  obtain ⟨_, _, rfl, s19, l20⟩ := shapeL_cons l18
  obtain ⟨a21, rfl, fa21⟩ := shape_float Try.underlying22 s19
  obtain ⟨_, _, rfl, s22, l23⟩ := shapeL_cons l20
  obtain ⟨a24, rfl, fa24⟩ := shape_float Try.underlying22 s22
  obtain rfl := shapeL_nil l23
  have lt3 : ∀ x ∈ p3, x.block < W.heap.size := by obtain ⟨m, hm⟩ := h3; exact DataW.trod_lt m _ _ _ hm
  obtain ⟨n3, x3, rep3, sh3⟩ := arg_struct (k := 9) Try.underlying24 (by kernel_rfl) (hval 3 24 v3 rfl rfl) h3
  obtain ⟨m25, l26⟩ := shape_struct Try.underlying24 sh3
  obtain ⟨_, _, rfl, s27, l28⟩ := shapeL_cons l26
  obtain ⟨a29, rfl, fa29⟩ := shape_float Try.underlying22 s27
  obtain ⟨_, _, rfl, s30, l31⟩ := shapeL_cons l28
  obtain ⟨a32, rfl, fa32⟩ := shape_float Try.underlying22 s30
  obtain rfl := shapeL_nil l31
  clear hA0 hval0
  refine (FnD.law (vs := [v0, v1, v2, v3]) (Wk.w_FnNormalizedMeet 1073741826 ⟨a5, a8⟩ ⟨a13, a16⟩ ⟨a21, a24⟩ ⟨a29, a32⟩ true (Wk.law_norm (Nat.le_refl _) _ _ _ _ (wf64 fa5) (wf64 fa8) (wf64 fa13) (wf64 fa16) (wf64 fa21) (wf64 fa24) (wf64 fa29) (wf64 fa32))) ⟨fun _ hp => absurd hp (by simp [Globs]), fun _ hp => absurd hp (by simp [GlobsE])⟩ rfl (rep_cons rep0 (rep_cons rep1 (rep_cons rep2 (rep_cons rep3 rep_nil))))).mono fun e W' ⟨he, bel⟩ => ?_
  subst he
  exact ⟨_, rfl, _, _, _, [], _, [], hW', trodAll_mk1 (shut_bool Try.underlying4 _), (trodAll_cons_mk (Below.trod laidOut (by kernel_rfl) (of_decide_eq_true (by kernel_rfl)) h0 bel lt0) (trodAll_cons_mk (Below.trod laidOut (by kernel_rfl) (of_decide_eq_true (by kernel_rfl)) h1 bel lt1) (trodAll_cons_mk (Below.trod laidOut (by kernel_rfl) (of_decide_eq_true (by kernel_rfl)) h2 bel lt2) (trodAll_cons_mk (Below.trod laidOut (by kernel_rfl) (of_decide_eq_true (by kernel_rfl)) h3 bel lt3) trodAll_mk0)))), rfl, bel.frame _, fun h => by cases h⟩
theorem over : Rows.fnNormalizedMeetRow.holds Try.pinned (OpenSpec.ofChange Rows.fnNormalizedMeetSpec) :=
  OpenClaim.holds_of_wide 3 Try.f3 rfl rfl rfl rfl rfl rfl rfl ⟨rfl, rfl, rfl, rfl, rfl⟩ rfl rfl rfl rfl rfl (by kernel_rfl) Try.func3 (by kernel_rfl)
    (of_decide_eq_true (by kernel_rfl)) (by unfold Func.isWrapper; first | (rw [if_pos (by decide +kernel)]; kernel_rfl) | (rw [if_neg (by decide +kernel)]; exact ⟨rfl, rfl⟩))
    (fun os started H enc _ => lifted os started H enc)
theorem proved : Rows.FnNormalizedMeetSaid := over
#print axioms proved
end Go.Proofs.Ytohgipjhcgblfaa.fnNormalizedMeet
namespace Go.Proofs.Ytohgipjhcgblfaa
/-- The row, under a short name, for the claim. -/
theorem fnNormalizedMeet_holds : Rows.FnNormalizedMeetSaid := fnNormalizedMeet.proved
end Go.Proofs.Ytohgipjhcgblfaa
