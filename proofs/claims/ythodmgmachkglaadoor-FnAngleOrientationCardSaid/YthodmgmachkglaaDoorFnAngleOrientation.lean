/- Proved: the law FnAngleOrientation answers true at every input, and its input reads as it did. No condition beyond the statement's own. -/
import Derived.Test.YthodmgmachkglaaDoorRows
import Derived.Test.YthodmgmachkglaaDoorVmRow
import Derived.Test.YthodmgmachkglaaDoorWAn
import Derived.Test.YthodmgmachkglaaDoorAngS
import Derived.Test.YthodmgmachkglaaDoorChecked
import Derived.Test.YthodmgmachkglaaDoorVmLaid
import Derived.Test.YthodmgmachkglaaDoorCards
import Derived.Test.YthodmgmachkglaaDoorTie
import Derived.WalkKit
import Derived.ProofKit
import Derived.OpenShut
import Derived.ShutString
import Derived.ChangeOld
import Derived.Below
namespace Go.Proofs.YthodmgmachkglaaDoor.fnAngleOrientation
open Go.Vm
open Go.ChangeShapes Go.WideShapes Go.ChangeAt Go.RowKit
open Go.ChangeMaps (open_string shut_string)
set_option linter.unusedVariables false
theorem own : ownKnob Tryd.prog.godebug = none := by kernel_rfl
theorem laidOut : laidOutB Tryd.prog = true := by kernel_rfl

set_option maxRecDepth 100000 in
theorem lifted (os : Os) (started : os.Started) (H : Type) (enc : TypeId × Value → H) :
    ReturnsInHanded {} Tryd.checked os 3 .any (fun w args => (Rows.fnAngleOrientationSpec.pre enc Tryd.prog Tryd.f3 [] false w args ∧ laidMetH Tryd.prog Rows.fnAngleOrientationRow.laid w) ∧ sizedMet enc Tryd.prog Tryd.f3 (OpenSpec.ofChange Rows.fnAngleOrientationSpec) false w args) (Rows.fnAngleOrientationSpec.post enc Tryd.prog Tryd.f3 false true false false) := by
  refine returnsInHanded_of_change_and (C := Tryd.checked) (X := fun w _ => laidMetH Tryd.prog Rows.fnAngleOrientationRow.laid w) (fun _ _ _ hh h => h.of_heap hh) own started (by kernel_rfl) Tryd.func3
    (ChangeSpec.witness_shaped (enc := enc) (C := Tryd.checked) (os := os) (X := fun w _ => laidMetH Tryd.prog Rows.fnAngleOrientationRow.laid w) false (World.laidAll Tryd.prog os Rows.fnAngleOrientationRow.laid) #[.float .f64 0, .float .f64 0] 8 (World.laidAll_os _ _ _)
      (World.shaped_of_ZipB (by kernel_rfl) (by kernel_rfl)) (by kernel_rfl) (by kernel_rfl) (by kernel_rfl)
      (by rw [MakeChecks.laidMetH_plain _ _ _ (by kernel_rfl)]; exact laidMet_laidAll _ (by kernel_rfl) (by kernel_rfl))) ?_
  intro W base args ds gs before hval0 hW _ _ hL _
  have hcnd := True.intro
  have hval : ∀ (j : Nat) t v, Tryd.f3.params[j]? = some t → args[j]? = some v → Value.okWide Tryd.prog W .any base t v := hval0
  have hW' := hW
  obtain ⟨p, q, hA0, hV, rfl, hfz, hnd⟩ := hW
  have hA : DataW.TrodAll enc Tryd.prog W 0 (fun _ => true) true Tryd.f3.params.toList args.toList ds p := hA0
  rw [Tryd.params3] at hA hval
  obtain ⟨v0, vs0, d0, ds0, p0, q0, hargs, rfl, rfl, h0, r0⟩ := trodAll_cons hA
  obtain ⟨v1, vs1, d1, ds1, p1, q1, rfl, rfl, rfl, h1, r1⟩ := trodAll_cons r0
  obtain ⟨rfl, rfl, rfl⟩ := trodAll_nil r1
  obtain rfl : args = #[v0, v1] := by cases args; simp_all
  obtain ⟨rfl, rfl⟩ := trodVars_none hV
  rw [MakeChecks.laidMetH_plain _ _ _ (by kernel_rfl)] at hL
  have hg0 := laid_arr hL (n := "math._sin") (bs := [4460209587652500685, 13716528389658582877, 4523617212962785441, 13774824197404483331, 4575957461383575504, 13818544856648471880]) (.head _) (by kernel_rfl : Tryd.prog.globalNamed "math._sin" = some 2) (by kernel_rfl : (Tryd.prog.globals[2]?).map (·.type) = some 36) (by kernel_rfl : Tryd.prog.underlying 36 = some (.array 6 22)) (by kernel_rfl : Tryd.prog.underlying 22 = some (.float .f64)) (by kernel_rfl : Tryd.prog.cellsOf 22 = 1)
  have hg1 := laid_arr hL (n := "math._cos") (bs := [13666448263388469915, 4477121864728985349, 13732177093698800582, 4537941361668146421, 13787419979223748497, 4586165620538955083]) (.tail _ (.head _)) (by kernel_rfl : Tryd.prog.globalNamed "math._cos" = some 1) (by kernel_rfl : (Tryd.prog.globals[1]?).map (·.type) = some 36) (by kernel_rfl : Tryd.prog.underlying 36 = some (.array 6 22)) (by kernel_rfl : Tryd.prog.underlying 22 = some (.float .f64)) (by kernel_rfl : Tryd.prog.cellsOf 22 = 1)
  have hG : HoldsG W := by
   refine ⟨fun p hp => ?_, fun p hp => ?_⟩
   · skip
     simp only [Globs, List.mem_cons, List.mem_nil_iff, or_false] at hp
     rcases hp with hp | hp
     · subst hp; exact (hg0 0 _ rfl)
     rcases hp with hp | hp
     · subst hp; exact (hg0 1 _ rfl)
     rcases hp with hp | hp
     · subst hp; exact (hg0 2 _ rfl)
     rcases hp with hp | hp
     · subst hp; exact (hg0 3 _ rfl)
     rcases hp with hp | hp
     · subst hp; exact (hg0 4 _ rfl)
     rcases hp with hp | hp
     · subst hp; exact (hg0 5 _ rfl)
     rcases hp with hp | hp
     · subst hp; exact (hg1 0 _ rfl)
     rcases hp with hp | hp
     · subst hp; exact (hg1 1 _ rfl)
     rcases hp with hp | hp
     · subst hp; exact (hg1 2 _ rfl)
     rcases hp with hp | hp
     · subst hp; exact (hg1 3 _ rfl)
     rcases hp with hp | hp
     · subst hp; exact (hg1 4 _ rfl)
     subst hp; exact (hg1 5 _ rfl)
   · skip
     exact absurd hp (by simp [GlobsE])
  have lt0 : ∀ x ∈ p0, x.block < W.heap.size := by obtain ⟨m, hm⟩ := h0; exact DataW.trod_lt m _ _ _ hm
  obtain ⟨n0, x0, rep0, sh0⟩ := arg_one (k := 9) (by kernel_rfl) (by kernel_rfl) (hval 0 22 v0 rfl rfl) h0
  obtain ⟨a1, hx0, fa1⟩ := shape_float Tryd.underlying22 sh0
  simp only [List.cons.injEq, and_true] at hx0; subst hx0
  have lt1 : ∀ x ∈ p1, x.block < W.heap.size := by obtain ⟨m, hm⟩ := h1; exact DataW.trod_lt m _ _ _ hm
  obtain ⟨n1, x1, rep1, sh1⟩ := arg_one (k := 9) (by kernel_rfl) (by kernel_rfl) (hval 1 22 v1 rfl rfl) h1
  obtain ⟨a2, hx1, fa2⟩ := shape_float Tryd.underlying22 sh1
  simp only [List.cons.injEq, and_true] at hx1; subst hx1
  clear hA0 hval0
  refine (FnD.law (vs := [v0, v1]) (Wk.w_FnAngleOrientation a1 a2 true (Wk.law_turn _ _)) hG rfl (rep_cons rep0 (rep_cons rep1 rep_nil))).mono fun e W' ⟨he, bel⟩ => ?_
  subst he
  exact ⟨_, rfl, _, _, _, [], _, [], hW', trodAll_mk1 (shut_bool Tryd.underlying4 _), (trodAll_cons_mk (Below.trod laidOut (by kernel_rfl) (of_decide_eq_true (by kernel_rfl)) h0 bel lt0) (trodAll_cons_mk (Below.trod laidOut (by kernel_rfl) (of_decide_eq_true (by kernel_rfl)) h1 bel lt1) trodAll_mk0)), rfl, bel.frame _, fun h => by cases h⟩
theorem over : Rows.fnAngleOrientationRow.holds Tryd.pinned (OpenSpec.ofChange Rows.fnAngleOrientationSpec) :=
  OpenClaim.holds_of_wide 3 Tryd.f3 rfl rfl rfl rfl rfl rfl rfl ⟨rfl, rfl, rfl, rfl, rfl⟩ rfl rfl rfl rfl rfl (by kernel_rfl) Tryd.func3 (by kernel_rfl)
    (of_decide_eq_true (by kernel_rfl)) (by unfold Func.isWrapper; first | (rw [if_pos (by decide +kernel)]; kernel_rfl) | (rw [if_neg (by decide +kernel)]; exact ⟨rfl, rfl⟩))
    (fun os started H enc _ => lifted os started H enc)
theorem proved : Rows.FnAngleOrientationCardSaid :=
  Claim7.holds_tied_plain_at .later [] [.data, .data, .data] true (true, "d669b60947def1d805e2a349f998038a9f959eccd615b8430130233d1c0c5298") false over (fun _ h => by cases h) (by kernel_rfl) (fun _ h => by cases h) fnAngleOrientation_row_tie rfl ⟨rfl, rfl⟩ (by kernel_rfl) rfl
    (fun f fn hf hfn => by
      obtain rfl : f = 3 := Option.some.inj ((show Tryd.prog.funcNamed "pub-orthodrome/laws.FnAngleOrientation" = some 3 by kernel_rfl).symm.trans hf) |>.symm
      obtain rfl : fn = Tryd.f3 := (Option.some.inj (Tryd.func3.symm.trans hfn)).symm
      exact ⟨by kernel_rfl, fun j t ht => by
        rw [Tryd.params3] at ht
        have hm : t ∈ [22, 22] := by simpa using Array.mem_of_getElem? ht
        have hall : ([22, 22].all fun u => !Tryd.prog.wantsStandIn u) = true := by kernel_rfl
        exact (show Tryd.prog.wantsStandIn t = false by simpa using List.all_eq_true.1 hall t hm)⟩)
    (by kernel_rfl)
#print axioms proved
end Go.Proofs.YthodmgmachkglaaDoor.fnAngleOrientation
namespace Go.Proofs.YthodmgmachkglaaDoor
/-- The row, under a short name, for the claim. -/
theorem fnAngleOrientation_holds : Rows.FnAngleOrientationCardSaid := fnAngleOrientation.proved
end Go.Proofs.YthodmgmachkglaaDoor
