/- Proved: the law FnHilbertSteps answers true at every input, and its input reads as it did. No condition beyond the statement's own. -/
import Derived.Test.YtkajoiehicpnlaaDoorRows
import Derived.Test.YtkajoiehicpnlaaDoorVmRow
import Derived.Test.YtkajoiehicpnlaaDoorWHt
import Derived.Test.YtkajoiehicpnlaaDoorHil8
import Derived.Test.YtkajoiehicpnlaaDoorChecked
import Derived.Test.YtkajoiehicpnlaaDoorVmLaid
import Derived.Test.YtkajoiehicpnlaaDoorCards
import Derived.Test.YtkajoiehicpnlaaDoorTie
import Derived.WalkKit
import Derived.ProofKit
import Derived.OpenShut
import Derived.ShutString
import Derived.ChangeOld
import Derived.Below
namespace Go.Proofs.YtkajoiehicpnlaaDoor.fnHilbertSteps
open Go.Vm
open Go.ChangeShapes Go.WideShapes Go.ChangeAt Go.RowKit
open Go.ChangeMaps (open_string shut_string)
set_option linter.unusedVariables false
theorem own : ownKnob Tryd.prog.godebug = none := by kernel_rfl
theorem laidOut : laidOutB Tryd.prog = true := by kernel_rfl

set_option maxRecDepth 100000 in
theorem lifted (os : Os) (started : os.Started) (H : Type) (enc : TypeId × Value → H) :
    ReturnsInHanded {} Tryd.checked os 4 .any (fun w args => (Rows.fnHilbertStepsSpec.pre enc Tryd.prog Tryd.f4 [] false w args ∧ laidMetH Tryd.prog Rows.fnHilbertStepsRow.laid w) ∧ sizedMet enc Tryd.prog Tryd.f4 (OpenSpec.ofChange Rows.fnHilbertStepsSpec) false w args) (Rows.fnHilbertStepsSpec.post enc Tryd.prog Tryd.f4 false true false false) := by
  refine returnsInHanded_of_change_and (C := Tryd.checked) (X := fun w _ => laidMetH Tryd.prog Rows.fnHilbertStepsRow.laid w) (fun _ _ _ hh h => h.of_heap hh) own started (by kernel_rfl) Tryd.func4
    (ChangeSpec.witness_shaped (enc := enc) (C := Tryd.checked) (os := os) (X := fun w _ => laidMetH Tryd.prog Rows.fnHilbertStepsRow.laid w) false (World.laidAll Tryd.prog os Rows.fnHilbertStepsRow.laid) #[.int .i64 0, .int .i64 0, .int .i64 0] 8 (World.laidAll_os _ _ _)
      (World.shaped_of_ZipB (by kernel_rfl) (by kernel_rfl)) (by kernel_rfl) (by kernel_rfl) (by kernel_rfl)
      (by rw [MakeChecks.laidMetH_plain _ _ _ (by kernel_rfl)]; exact laidMet_laidAll _ (by kernel_rfl) (by kernel_rfl))) ?_
  intro W base args ds gs before hval0 hW _ _ hL _
  have hcnd := True.intro
  have hval : ∀ (j : Nat) t v, Tryd.f4.params[j]? = some t → args[j]? = some v → Value.okWide Tryd.prog W .any base t v := hval0
  have hW' := hW
  obtain ⟨p, q, hA0, hV, rfl, hfz, hnd⟩ := hW
  have hA : DataW.TrodAll enc Tryd.prog W 0 (fun _ => true) true Tryd.f4.params.toList args.toList ds p := hA0
  rw [Tryd.params4] at hA hval
  obtain ⟨v0, vs0, d0, ds0, p0, q0, hargs, rfl, rfl, h0, r0⟩ := trodAll_cons hA
  obtain ⟨v1, vs1, d1, ds1, p1, q1, rfl, rfl, rfl, h1, r1⟩ := trodAll_cons r0
  obtain ⟨v2, vs2, d2, ds2, p2, q2, rfl, rfl, rfl, h2, r2⟩ := trodAll_cons r1
  obtain ⟨rfl, rfl, rfl⟩ := trodAll_nil r2
  obtain rfl : args = #[v0, v1, v2] := by cases args; simp_all
  obtain ⟨rfl, rfl⟩ := trodVars_none hV
  rw [MakeChecks.laidMetH_plain _ _ _ (by kernel_rfl)] at hL
  have hg0 := laid_err hL (n := "pub-orthodrome/pub/gonum/spatial/curve.ErrUnderflow") (.head _) (by kernel_rfl : Tryd.prog.globalNamed "pub-orthodrome/pub/gonum/spatial/curve.ErrUnderflow" = some 0) (by kernel_rfl : (Tryd.prog.globals[0]?).map (·.type) = some 34) (by kernel_rfl : Tryd.prog.underlying 34 = some (.interface (Tryd.prog.methodsAt 34)))
  have hg1 := laid_err hL (n := "pub-orthodrome/pub/gonum/spatial/curve.ErrOverflow") (.tail _ (.head _)) (by kernel_rfl : Tryd.prog.globalNamed "pub-orthodrome/pub/gonum/spatial/curve.ErrOverflow" = some 1) (by kernel_rfl : (Tryd.prog.globals[1]?).map (·.type) = some 34) (by kernel_rfl : Tryd.prog.underlying 34 = some (.interface (Tryd.prog.methodsAt 34)))
  have hG : HoldsG W := by
   refine ⟨fun p hp => ?_, fun p hp => ?_⟩
   · skip
     exact absurd hp (by simp [Globs])
   · skip
     simp only [GlobsE, List.mem_cons, List.mem_nil_iff, or_false] at hp
     rcases hp with hp | hp
     · subst hp; exact hg0
     subst hp; exact hg1
  have lt0 : ∀ x ∈ p0, x.block < W.heap.size := by obtain ⟨m, hm⟩ := h0; exact DataW.trod_lt m _ _ _ hm
  obtain ⟨n0, x0, rep0, sh0⟩ := arg_one (k := 9) (by kernel_rfl) (by kernel_rfl) (hval 0 3 v0 rfl rfl) h0
  obtain ⟨a1, hx0, fa1⟩ := shape_int Tryd.underlying3 sh0
  simp only [List.cons.injEq, and_true] at hx0; subst hx0
  have lt1 : ∀ x ∈ p1, x.block < W.heap.size := by obtain ⟨m, hm⟩ := h1; exact DataW.trod_lt m _ _ _ hm
  obtain ⟨n1, x1, rep1, sh1⟩ := arg_one (k := 9) (by kernel_rfl) (by kernel_rfl) (hval 1 3 v1 rfl rfl) h1
  obtain ⟨a2, hx1, fa2⟩ := shape_int Tryd.underlying3 sh1
  simp only [List.cons.injEq, and_true] at hx1; subst hx1
  have lt2 : ∀ x ∈ p2, x.block < W.heap.size := by obtain ⟨m, hm⟩ := h2; exact DataW.trod_lt m _ _ _ hm
  obtain ⟨n2, x2, rep2, sh2⟩ := arg_one (k := 9) (by kernel_rfl) (by kernel_rfl) (hval 2 3 v2 rfl rfl) h2
  obtain ⟨a3, hx2, fa3⟩ := shape_int Tryd.underlying3 sh2
  simp only [List.cons.injEq, and_true] at hx2; subst hx2
  clear hA0 hval0
  refine (FnD.law (vs := [v0, v1, v2]) (Wk.w_FnHilbertSteps (50 + 10) a1 a2 a3 true (Wk.hils_p (by decide) _ _ _)) hG rfl (rep_cons rep0 (rep_cons rep1 (rep_cons rep2 rep_nil)))).mono fun e W' ⟨he, bel⟩ => ?_
  subst he
  exact ⟨_, rfl, _, _, _, [], _, [], hW', trodAll_mk1 (shut_bool Tryd.underlying4 _), (trodAll_cons_mk (Below.trod laidOut (by kernel_rfl) (of_decide_eq_true (by kernel_rfl)) h0 bel lt0) (trodAll_cons_mk (Below.trod laidOut (by kernel_rfl) (of_decide_eq_true (by kernel_rfl)) h1 bel lt1) (trodAll_cons_mk (Below.trod laidOut (by kernel_rfl) (of_decide_eq_true (by kernel_rfl)) h2 bel lt2) trodAll_mk0))), rfl, bel.frame _, fun h => by cases h⟩
theorem over : Rows.fnHilbertStepsRow.holds Tryd.pinned (OpenSpec.ofChange Rows.fnHilbertStepsSpec) :=
  OpenClaim.holds_of_wide 4 Tryd.f4 rfl rfl rfl rfl rfl rfl rfl ⟨rfl, rfl, rfl, rfl, rfl⟩ rfl rfl rfl rfl rfl (by kernel_rfl) Tryd.func4 (by kernel_rfl)
    (of_decide_eq_true (by kernel_rfl)) (by unfold Func.isWrapper; first | (rw [if_pos (by decide +kernel)]; kernel_rfl) | (rw [if_neg (by decide +kernel)]; exact ⟨rfl, rfl⟩))
    (fun os started H enc _ => lifted os started H enc)
theorem proved : Rows.FnHilbertStepsCardSaid :=
  Claim7.holds_tied_plain_at .later [] [.sentinel, .sentinel] true (true, "7ae75665cbc8d14df26ff8d53ae38ad504969971d18221e7574b9d2cf18e216a") false over (fun _ h => by cases h) (by kernel_rfl) (fun _ h => by cases h) fnHilbertSteps_row_tie rfl ⟨rfl, rfl⟩ (by kernel_rfl) rfl
    (fun f fn hf hfn => by
      obtain rfl : f = 4 := Option.some.inj ((show Tryd.prog.funcNamed "pub-orthodrome/laws.FnHilbertSteps" = some 4 by kernel_rfl).symm.trans hf) |>.symm
      obtain rfl : fn = Tryd.f4 := (Option.some.inj (Tryd.func4.symm.trans hfn)).symm
      exact ⟨by kernel_rfl, fun j t ht => by
        rw [Tryd.params4] at ht
        have hm : t ∈ [3, 3, 3] := by simpa using Array.mem_of_getElem? ht
        have hall : ([3, 3, 3].all fun u => !Tryd.prog.wantsStandIn u) = true := by kernel_rfl
        exact (show Tryd.prog.wantsStandIn t = false by simpa using List.all_eq_true.1 hall t hm)⟩)
    (by kernel_rfl)
#print axioms proved
end Go.Proofs.YtkajoiehicpnlaaDoor.fnHilbertSteps
namespace Go.Proofs.YtkajoiehicpnlaaDoor
/-- The row, under a short name, for the claim. -/
theorem fnHilbertSteps_holds : Rows.FnHilbertStepsCardSaid := fnHilbertSteps.proved
end Go.Proofs.YtkajoiehicpnlaaDoor
