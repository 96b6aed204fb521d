/- Proved: the law FnHullClean answers true at every input, and its input reads as it did. No condition beyond the statement's own. -/
import Derived.Test.YtohpmbodfpjjmaaDoorRows
import Derived.Test.YtohpmbodfpjjmaaDoorVmRow
import Derived.Test.YtohpmbodfpjjmaaDoorWHc
import Derived.Test.YtohpmbodfpjjmaaDoorHullD
import Derived.Test.YtohpmbodfpjjmaaDoorChecked
import Derived.Test.YtohpmbodfpjjmaaDoorVmLaid
import Derived.Test.YtohpmbodfpjjmaaDoorCards
import Derived.Test.YtohpmbodfpjjmaaDoorTie
import Derived.WalkKit
import Derived.ProofKit
import Derived.OpenShut
import Derived.ShutString
import Derived.ChangeOld
import Derived.Below
namespace Go.Proofs.YtohpmbodfpjjmaaDoor.fnHullClean
open Go.Vm
open Go.ChangeShapes Go.WideShapes Go.ChangeAt Go.RowKit
open Go.ChangeMaps (open_string shut_string)
set_option linter.unusedVariables false
theorem own : ownKnob Tryd.prog.godebug = none := by kernel_rfl
theorem laidOut : laidOutB Tryd.prog = true := by kernel_rfl
theorem flat1 {α : Type} (g : α → D) (l : List α) : (l.map fun z => [g z]).flatten = l.map g := by
  induction l with
  | nil => rfl
  | cons a l ih => simp [ih]
theorem cells22 : Tryd.prog.cellsOf 22 = 1 := by kernel_rfl
set_option maxRecDepth 100000 in
theorem lifted (os : Os) (started : os.Started) (H : Type) (enc : TypeId × Value → H) :
    ReturnsInHanded {} Tryd.checked os 5 .any (fun w args => (Rows.fnHullCleanSpec.pre enc Tryd.prog Tryd.f5 [] false w args ∧ laidMetH Tryd.prog Rows.fnHullCleanRow.laid w) ∧ sizedMet enc Tryd.prog Tryd.f5 (OpenSpec.ofChange Rows.fnHullCleanSpec) false w args) (Rows.fnHullCleanSpec.post enc Tryd.prog Tryd.f5 false true false false) := by
  refine returnsInHanded_of_change_and (C := Tryd.checked) (X := fun w _ => laidMetH Tryd.prog Rows.fnHullCleanRow.laid w) (fun _ _ _ hh h => h.of_heap hh) own started (by kernel_rfl) Tryd.func5
    (ChangeSpec.witness_shaped (enc := enc) (C := Tryd.checked) (os := os) (X := fun w _ => laidMetH Tryd.prog Rows.fnHullCleanRow.laid w) false (World.laidAll Tryd.prog os Rows.fnHullCleanRow.laid) #[.int .i64 0, .slice none 0 0] 8 (World.laidAll_os _ _ _)
      (World.shaped_of_ZipB (by kernel_rfl) (by kernel_rfl)) (by kernel_rfl) (by kernel_rfl) (by kernel_rfl)
      (by rw [MakeChecks.laidMetH_plain _ _ _ (by kernel_rfl)]; exact laidMet_laidAll _ (by kernel_rfl) (by kernel_rfl))) ?_
  intro W base args ds gs before hval0 hW _ _ hL _
  have hcnd := True.intro
  have hval : ∀ (j : Nat) t v, Tryd.f5.params[j]? = some t → args[j]? = some v → Value.okWide Tryd.prog W .any base t v := hval0
  have hW' := hW
  obtain ⟨p, q, hA0, hV, rfl, hfz, hnd⟩ := hW
  have hA : DataW.TrodAll enc Tryd.prog W 0 (fun _ => true) true Tryd.f5.params.toList args.toList ds p := hA0
  rw [Tryd.params5] at hA hval
  obtain ⟨v0, vs0, d0, ds0, p0, q0, hargs, rfl, rfl, h0, r0⟩ := trodAll_cons hA
  obtain ⟨v1, vs1, d1, ds1, p1, q1, rfl, rfl, rfl, h1, r1⟩ := trodAll_cons r0
  obtain ⟨rfl, rfl, rfl⟩ := trodAll_nil r1
  obtain rfl : args = #[v0, v1] := by cases args; simp_all
  obtain ⟨rfl, rfl⟩ := trodVars_none hV
  rw [MakeChecks.laidMetH_plain _ _ _ (by kernel_rfl)] at hL
  have hg0 := laid_float hL (n := "pub-orthodrome/pub/gogeom/bigxy.dpSafeEpsilon") (.head _) (by kernel_rfl : Tryd.prog.globalNamed "pub-orthodrome/pub/gogeom/bigxy.dpSafeEpsilon" = some 1) (by kernel_rfl : (Tryd.prog.globals[1]?).map (·.type) = some 22) Tryd.underlying22
  have hG : HoldsG W := fun p hp => by
    simp only [Globs, List.mem_cons, List.mem_nil_iff, or_false] at hp
    subst hp; exact hg0
  have lt0 : ∀ x ∈ p0, x.block < W.heap.size := by obtain ⟨m, hm⟩ := h0; exact DataW.trod_lt m _ _ _ hm
  obtain ⟨n0, x0, rep0, sh0⟩ := arg_one (k := 9) (by kernel_rfl) (by kernel_rfl) (hval 0 3 v0 rfl rfl) h0
  obtain ⟨a1, hx0, fa1⟩ := shape_int Tryd.underlying3 sh0
  simp only [List.cons.injEq, and_true] at hx0; subst hx0
  have lt1 : ∀ x ∈ p1, x.block < W.heap.size := by obtain ⟨m, hm⟩ := h1; exact DataW.trod_lt m _ _ _ hm
  obtain ⟨n1, x1, rep1, sh1⟩ := arg_one (k := 9) (by kernel_rfl) (by kernel_rfl) (hval 1 42 v1 rfl rfl) h1
  obtain ⟨m2, rows3, hx1, hl4, hr5⟩ := shape_slice Tryd.underlying42 sh1
  simp only [List.cons.injEq, and_true] at hx1; subst hx1
  obtain ⟨zs6, rfl, hz7⟩ := rows_choose (f := fun z : Nat => [.v (.float .f64 z)]) (Q := fun z => ((Lit.float .f64 z).wf = true)) (fun r hr => by
    have y8 := hr5 r hr
    obtain ⟨a9, rfl, fa9⟩ := shape_float Tryd.underlying22 y8
    exact ⟨a9, rfl, fa9⟩)
  simp only [List.length_map] at hl4
  have F10 := And.intro hl4 hz7
  simp only [cells22, flat1] at rep1
  clear hA0 hval0
  refine (FnD.law (vs := [v0, v1]) (Wk.w_FnHullClean 1073741826 a1 zs6 true (Wk.lawC_p (Nat.le_refl _) _ _ (fun x hx => wf64 (F10.2 x hx)))) hG rfl (rep_cons rep0 (rep_cons rep1 rep_nil))).mono fun e W' ⟨he, bel⟩ => ?_
  subst he
  exact ⟨_, rfl, _, _, _, [], _, [], hW', trodAll_mk1 (shut_bool Tryd.underlying4 _), (trodAll_cons_mk (Below.trod laidOut (by kernel_rfl) (of_decide_eq_true (by kernel_rfl)) h0 bel lt0) (trodAll_cons_mk (Below.trod laidOut (by kernel_rfl) (of_decide_eq_true (by kernel_rfl)) h1 bel lt1) trodAll_mk0)), rfl, bel.frame _, fun h => by cases h⟩
theorem over : Rows.fnHullCleanRow.holds Tryd.pinned (OpenSpec.ofChange Rows.fnHullCleanSpec) :=
  OpenClaim.holds_of_wide 5 Tryd.f5 rfl rfl rfl rfl rfl rfl rfl ⟨rfl, rfl, rfl, rfl, rfl⟩ rfl rfl rfl rfl rfl (by kernel_rfl) Tryd.func5 (by kernel_rfl)
    (of_decide_eq_true (by kernel_rfl)) (by unfold Func.isWrapper; first | (rw [if_pos (by decide +kernel)]; kernel_rfl) | (rw [if_neg (by decide +kernel)]; exact ⟨rfl, rfl⟩))
    (fun os started H enc _ => lifted os started H enc)
theorem proved : Rows.FnHullCleanCardSaid :=
  Claim7.holds_tied_plain_at .later [] [.data] true (true, "4f39cfa8cc6ced8d2be53b679280a152cabe8d4920d6e2110d24885ace8f297a") false over (fun _ h => by cases h) (by kernel_rfl) (fun _ h => by cases h) fnHullClean_row_tie rfl ⟨rfl, rfl⟩ (by kernel_rfl) rfl
    (fun f fn hf hfn => by
      obtain rfl : f = 5 := Option.some.inj ((show Tryd.prog.funcNamed "pub-orthodrome/laws.FnHullClean" = some 5 by kernel_rfl).symm.trans hf) |>.symm
      obtain rfl : fn = Tryd.f5 := (Option.some.inj (Tryd.func5.symm.trans hfn)).symm
      exact ⟨by kernel_rfl, fun j t ht => by
        rw [Tryd.params5] at ht
        have hm : t ∈ [3, 42] := by simpa using Array.mem_of_getElem? ht
        have hall : ([3, 42].all fun u => !Tryd.prog.wantsStandIn u) = true := by kernel_rfl
        exact (show Tryd.prog.wantsStandIn t = false by simpa using List.all_eq_true.1 hall t hm)⟩)
    (by kernel_rfl)
#print axioms proved
end Go.Proofs.YtohpmbodfpjjmaaDoor.fnHullClean
namespace Go.Proofs.YtohpmbodfpjjmaaDoor
/-- The row, under a short name, for the claim. -/
theorem fnHullClean_holds : Rows.FnHullCleanCardSaid := fnHullClean.proved
end Go.Proofs.YtohpmbodfpjjmaaDoor
