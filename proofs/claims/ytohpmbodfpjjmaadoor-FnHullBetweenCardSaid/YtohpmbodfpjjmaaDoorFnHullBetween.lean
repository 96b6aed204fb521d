/- Proved: the law FnHullBetween answers true at every input, and its input reads as it did. No condition beyond the statement's own. -/
import Derived.Test.YtohpmbodfpjjmaaDoorRows
import Derived.Test.YtohpmbodfpjjmaaDoorVmRow
import Derived.Test.YtohpmbodfpjjmaaDoorWOri
import Derived.Test.YtohpmbodfpjjmaaDoorHullB
import Derived.Test.YtohpmbodfpjjmaaDoorChecked
import Derived.Test.YtohpmbodfpjjmaaDoorVmLaid
import Derived.Test.YtohpmbodfpjjmaaDoorCards
import Derived.Test.YtohpmbodfpjjmaaDoorTie
import Derived.WalkKit
import Derived.ProofKit
import Derived.OpenShut
import Derived.ShutString
import Derived.ChangeOld
import Derived.Below
namespace Go.Proofs.YtohpmbodfpjjmaaDoor.fnHullBetween
open Go.Vm
open Go.ChangeShapes Go.WideShapes Go.ChangeAt Go.RowKit
open Go.ChangeMaps (open_string shut_string)
set_option linter.unusedVariables false
theorem own : ownKnob Tryd.prog.godebug = none := by kernel_rfl
theorem laidOut : laidOutB Tryd.prog = true := by kernel_rfl

set_option maxRecDepth 100000 in
theorem lifted (os : Os) (started : os.Started) (H : Type) (enc : TypeId × Value → H) :
    ReturnsInHanded {} Tryd.checked os 4 .any (fun w args => (Rows.fnHullBetweenSpec.pre enc Tryd.prog Tryd.f4 [] false w args ∧ laidMetH Tryd.prog Rows.fnHullBetweenRow.laid w) ∧ sizedMet enc Tryd.prog Tryd.f4 (OpenSpec.ofChange Rows.fnHullBetweenSpec) false w args) (Rows.fnHullBetweenSpec.post enc Tryd.prog Tryd.f4 false true false false) := by
  refine returnsInHanded_of_change_and (C := Tryd.checked) (X := fun w _ => laidMetH Tryd.prog Rows.fnHullBetweenRow.laid w) (fun _ _ _ hh h => h.of_heap hh) own started (by kernel_rfl) Tryd.func4
    (ChangeSpec.witness_shaped (enc := enc) (C := Tryd.checked) (os := os) (X := fun w _ => laidMetH Tryd.prog Rows.fnHullBetweenRow.laid w) false (World.laidAll Tryd.prog os Rows.fnHullBetweenRow.laid) #[.agg #[.float .f64 0, .float .f64 0], .agg #[.float .f64 0, .float .f64 0], .agg #[.float .f64 0, .float .f64 0]] 8 (World.laidAll_os _ _ _)
      (World.shaped_of_ZipB (by kernel_rfl) (by kernel_rfl)) (by kernel_rfl) (by kernel_rfl) (by kernel_rfl)
      (by rw [MakeChecks.laidMetH_plain _ _ _ (by kernel_rfl)]; exact laidMet_laidAll _ (by kernel_rfl) (by kernel_rfl))) ?_
  intro W base args ds gs before hval0 hW _ _ hL _
  have hcnd := True.intro
  have hval : ∀ (j : Nat) t v, Tryd.f4.params[j]? = some t → args[j]? = some v → Value.okWide Tryd.prog W .any base t v := hval0
  have hW' := hW
  obtain ⟨p, q, hA0, hV, rfl, hfz, hnd⟩ := hW
  have hA : DataW.TrodAll enc Tryd.prog W 0 (fun _ => true) true Tryd.f4.params.toList args.toList ds p := hA0
  rw [Tryd.params4] at hA hval
  obtain ⟨v0, vs0, d0, ds0, p0, q0, hargs, rfl, rfl, h0, r0⟩ := trodAll_cons hA
  obtain ⟨v1, vs1, d1, ds1, p1, q1, rfl, rfl, rfl, h1, r1⟩ := trodAll_cons r0
  obtain ⟨v2, vs2, d2, ds2, p2, q2, rfl, rfl, rfl, h2, r2⟩ := trodAll_cons r1
  obtain ⟨rfl, rfl, rfl⟩ := trodAll_nil r2
  obtain rfl : args = #[v0, v1, v2] := by cases args; simp_all
  obtain ⟨rfl, rfl⟩ := trodVars_none hV
  rw [MakeChecks.laidMetH_plain _ _ _ (by kernel_rfl)] at hL
  have hg0 := laid_float hL (n := "pub-orthodrome/pub/gogeom/bigxy.dpSafeEpsilon") (.head _) (by kernel_rfl : Tryd.prog.globalNamed "pub-orthodrome/pub/gogeom/bigxy.dpSafeEpsilon" = some 1) (by kernel_rfl : (Tryd.prog.globals[1]?).map (·.type) = some 22) Tryd.underlying22
  have hG : HoldsG W := fun p hp => by
    simp only [Globs, List.mem_cons, List.mem_nil_iff, or_false] at hp
    subst hp; exact hg0
  have lt0 : ∀ x ∈ p0, x.block < W.heap.size := by obtain ⟨m, hm⟩ := h0; exact DataW.trod_lt m _ _ _ hm
  obtain ⟨n0, x0, rep0, sh0⟩ := arg_struct (k := 9) Tryd.underlying24 (by kernel_rfl) (hval 0 24 v0 rfl rfl) h0
  obtain ⟨m1, l2⟩ := shape_struct Tryd.underlying24 sh0
  obtain ⟨_, _, rfl, s3, l4⟩ := shapeL_cons l2
  obtain ⟨a5, rfl, fa5⟩ := shape_float Tryd.underlying22 s3
  obtain ⟨_, _, rfl, s6, l7⟩ := shapeL_cons l4
  obtain ⟨a8, rfl, fa8⟩ := shape_float Tryd.underlying22 s6
  obtain rfl := shapeL_nil l7
  have lt1 : ∀ x ∈ p1, x.block < W.heap.size := by obtain ⟨m, hm⟩ := h1; exact DataW.trod_lt m _ _ _ hm
  obtain ⟨n1, x1, rep1, sh1⟩ := arg_struct (k := 9) Tryd.underlying24 (by kernel_rfl) (hval 1 24 v1 rfl rfl) h1
  obtain ⟨m9, l10⟩ := shape_struct Tryd.underlying24 sh1
  obtain ⟨_, _, rfl, s11, l12⟩ := shapeL_cons l10
  obtain ⟨a13, rfl, fa13⟩ := shape_float Tryd.underlying22 s11
  obtain ⟨_, _, rfl, s14, l15⟩ := shapeL_cons l12
  obtain ⟨a16, rfl, fa16⟩ := shape_float Tryd.underlying22 s14
  obtain rfl := shapeL_nil l15
  have lt2 : ∀ x ∈ p2, x.block < W.heap.size := by obtain ⟨m, hm⟩ := h2; exact DataW.trod_lt m _ _ _ hm
  obtain ⟨n2, x2, rep2, sh2⟩ := arg_struct (k := 9) Tryd.underlying24 (by kernel_rfl) (hval 2 24 v2 rfl rfl) h2
  obtain ⟨m17, l18⟩ := shape_struct Tryd.underlying24 sh2
  obtain ⟨_, _, rfl, s19, l20⟩ := shapeL_cons l18
  obtain ⟨a21, rfl, fa21⟩ := shape_float Tryd.underlying22 s19
  obtain ⟨_, _, rfl, s22, l23⟩ := shapeL_cons l20
  obtain ⟨a24, rfl, fa24⟩ := shape_float Tryd.underlying22 s22
  obtain rfl := shapeL_nil l23
  clear hA0 hval0
  refine (FnD.law (vs := [v0, v1, v2]) (Wk.w_FnHullBetween 1073741826 ⟨a5, a8⟩ ⟨a13, a16⟩ ⟨a21, a24⟩ true (Wk.lawB_p (Nat.le_refl _) _ _ _ (wf64 fa5) (wf64 fa8) (wf64 fa13) (wf64 fa16) (wf64 fa21) (wf64 fa24))) hG rfl (rep_cons rep0 (rep_cons rep1 (rep_cons rep2 rep_nil)))).mono fun e W' ⟨he, bel⟩ => ?_
  subst he
  exact ⟨_, rfl, _, _, _, [], _, [], hW', trodAll_mk1 (shut_bool Tryd.underlying4 _), (trodAll_cons_mk (Below.trod laidOut (by kernel_rfl) (of_decide_eq_true (by kernel_rfl)) h0 bel lt0) (trodAll_cons_mk (Below.trod laidOut (by kernel_rfl) (of_decide_eq_true (by kernel_rfl)) h1 bel lt1) (trodAll_cons_mk (Below.trod laidOut (by kernel_rfl) (of_decide_eq_true (by kernel_rfl)) h2 bel lt2) trodAll_mk0))), rfl, bel.frame _, fun h => by cases h⟩
theorem over : Rows.fnHullBetweenRow.holds Tryd.pinned (OpenSpec.ofChange Rows.fnHullBetweenSpec) :=
  OpenClaim.holds_of_wide 4 Tryd.f4 rfl rfl rfl rfl rfl rfl rfl ⟨rfl, rfl, rfl, rfl, rfl⟩ rfl rfl rfl rfl rfl (by kernel_rfl) Tryd.func4 (by kernel_rfl)
    (of_decide_eq_true (by kernel_rfl)) (by unfold Func.isWrapper; first | (rw [if_pos (by decide +kernel)]; kernel_rfl) | (rw [if_neg (by decide +kernel)]; exact ⟨rfl, rfl⟩))
    (fun os started H enc _ => lifted os started H enc)
theorem proved : Rows.FnHullBetweenCardSaid :=
  Claim7.holds_tied_plain_at .later [] [.data] true (true, "4f39cfa8cc6ced8d2be53b679280a152cabe8d4920d6e2110d24885ace8f297a") false over (fun _ h => by cases h) (by kernel_rfl) (fun _ h => by cases h) fnHullBetween_row_tie rfl ⟨rfl, rfl⟩ (by kernel_rfl) rfl
    (fun f fn hf hfn => by
      obtain rfl : f = 4 := Option.some.inj ((show Tryd.prog.funcNamed "pub-orthodrome/laws.FnHullBetween" = some 4 by kernel_rfl).symm.trans hf) |>.symm
      obtain rfl : fn = Tryd.f4 := (Option.some.inj (Tryd.func4.symm.trans hfn)).symm
      exact ⟨by kernel_rfl, fun j t ht => by
        rw [Tryd.params4] at ht
        have hm : t ∈ [24, 24, 24] := by simpa using Array.mem_of_getElem? ht
        have hall : ([24, 24, 24].all fun u => !Tryd.prog.wantsStandIn u) = true := by kernel_rfl
        exact (show Tryd.prog.wantsStandIn t = false by simpa using List.all_eq_true.1 hall t hm)⟩)
    (by kernel_rfl)
#print axioms proved
end Go.Proofs.YtohpmbodfpjjmaaDoor.fnHullBetween
namespace Go.Proofs.YtohpmbodfpjjmaaDoor
/-- The row, under a short name, for the claim. -/
theorem fnHullBetween_holds : Rows.FnHullBetweenCardSaid := fnHullBetween.proved
end Go.Proofs.YtohpmbodfpjjmaaDoor
