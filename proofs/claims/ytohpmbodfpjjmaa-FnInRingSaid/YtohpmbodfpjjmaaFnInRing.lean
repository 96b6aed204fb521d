/- Proved: the law FnInRing answers true at every input, and its input reads as it did. No condition beyond the statement's own. -/
import Derived.Test.YtohpmbodfpjjmaaRows
import Derived.Test.YtohpmbodfpjjmaaVmRow
import Derived.Test.YtohpmbodfpjjmaaWRi
import Derived.Test.YtohpmbodfpjjmaaRgAll
import Derived.Test.YtohpmbodfpjjmaaChecked
import Derived.WalkKit
import Derived.ProofKit
import Derived.OpenShut
import Derived.ShutString
import Derived.ChangeOld
import Derived.Below
namespace Go.Proofs.Ytohpmbodfpjjmaa.fnInRing
open Go.Vm
open Go.ChangeShapes Go.WideShapes Go.ChangeAt Go.RowKit
open Go.ChangeMaps (open_string shut_string)
set_option linter.unusedVariables false
theorem own : ownKnob Try.prog.godebug = none := by kernel_rfl
theorem laidOut : laidOutB Try.prog = true := by kernel_rfl
theorem flat1 {α : Type} (g : α → D) (l : List α) : (l.map fun z => [g z]).flatten = l.map g := by
  induction l with
  | nil => rfl
  | cons a l ih => simp [ih]
theorem cells22 : Try.prog.cellsOf 22 = 1 := by kernel_rfl
set_option maxRecDepth 100000 in
theorem lifted (os : Os) (started : os.Started) (H : Type) (enc : TypeId × Value → H) :
    ReturnsInHanded {} Try.checked os 7 .any (Rows.fnInRingSpec.pre6 enc Try.prog Try.f7 Rows.fnInRingRow.domain false) (Rows.fnInRingSpec.post enc Try.prog Try.f7 false true false false) := by
  refine returnsInHanded_of_change (C := Try.checked) own started (by kernel_rfl) Try.func7
    (ChangeSpec.witness6 (enc := enc) (C := Try.checked) false ⟨#[], #[.int .i64 0, .agg #[.float .f64 0, .float .f64 0], .slice none 0 0], []⟩ 8 (by kernel_rfl) (by kernel_rfl) (by kernel_rfl) (by kernel_rfl)) ?_
  intro W base args ds gs before hval0 hW hcnd _
  have hval : ∀ (j : Nat) t v, Try.f7.params[j]? = some t → args[j]? = some v → Value.okWide Try.prog W .any base t v := hval0
  have hW' := hW
  obtain ⟨p, q, hA0, hV, rfl, hfz, hnd⟩ := hW
  have hA : DataW.TrodAll enc Try.prog W 0 (fun _ => true) true Try.f7.params.toList args.toList ds p := hA0
  rw [Try.params7] at hA hval
  obtain ⟨v0, vs0, d0, ds0, p0, q0, hargs, rfl, rfl, h0, r0⟩ := trodAll_cons hA
  obtain ⟨v1, vs1, d1, ds1, p1, q1, rfl, rfl, rfl, h1, r1⟩ := trodAll_cons r0
  obtain ⟨v2, vs2, d2, ds2, p2, q2, rfl, rfl, rfl, h2, r2⟩ := trodAll_cons r1
  obtain ⟨rfl, rfl, rfl⟩ := trodAll_nil r2
  obtain rfl : args = #[v0, v1, v2] := by cases args; simp_all
  obtain ⟨rfl, rfl⟩ := trodVars_none hV
  have lt0 : ∀ x ∈ p0, x.block < W.heap.size := by obtain ⟨m, hm⟩ := h0; exact DataW.trod_lt m _ _ _ hm
  obtain ⟨n0, x0, rep0, sh0⟩ := arg_one (k := 9) (by kernel_rfl) (by kernel_rfl) (hval 0 3 v0 rfl rfl) h0
  obtain ⟨a1, hx0, fa1⟩ := shape_int Try.underlying3 sh0
  simp only [List.cons.injEq, and_true] at hx0; subst hx0
  have lt1 : ∀ x ∈ p1, x.block < W.heap.size := by obtain ⟨m, hm⟩ := h1; exact DataW.trod_lt m _ _ _ hm
  obtain ⟨n1, x1, rep1, sh1⟩ := arg_struct (k := 9) Try.underlying24 (by kernel_rfl) (hval 1 24 v1 rfl rfl) h1
  obtain ⟨m2, l3⟩ := shape_struct Try.underlying24 sh1
  obtain ⟨_, _, rfl, s4, l5⟩ := shapeL_cons l3
  obtain ⟨a6, rfl, fa6⟩ := shape_float Try.underlying22 s4
  obtain ⟨_, _, rfl, s7, l8⟩ := shapeL_cons l5
  obtain ⟨a9, rfl, fa9⟩ := shape_float Try.underlying22 s7
  obtain rfl := shapeL_nil l8
  have lt2 : ∀ x ∈ p2, x.block < W.heap.size := by obtain ⟨m, hm⟩ := h2; exact DataW.trod_lt m _ _ _ hm
  obtain ⟨n2, x2, rep2, sh2⟩ := arg_one (k := 9) (by kernel_rfl) (by kernel_rfl) (hval 2 61 v2 rfl rfl) h2
  obtain ⟨m10, rows11, hx2, hl12, hr13⟩ := shape_slice Try.underlying61 sh2
  simp only [List.cons.injEq, and_true] at hx2; subst hx2
  obtain ⟨zs14, rfl, hz15⟩ := rows_choose (f := fun z : Nat => [.v (.float .f64 z)]) (Q := fun z => ((Lit.float .f64 z).wf = true)) (fun r hr => by
    have y16 := hr13 r hr
    obtain ⟨a17, rfl, fa17⟩ := shape_float Try.underlying22 y16
    exact ⟨a17, rfl, fa17⟩)
  simp only [List.length_map] at hl12
  have F18 := And.intro hl12 hz15
  try simp only [cells22, flat1] at rep2
  clear hA0 hval0
  refine (FnD.law (vs := [v0, v1, v2]) (Wk.w_FnInRing 1073741826 a1 ⟨a6, a9⟩ zs14 true (Wk.law_ring (Nat.le_refl _) _ _ _ (fun x hx => wf64 (F18.2 x hx)) (wf64 fa6) (wf64 fa9))) ⟨fun _ hp => absurd hp (by simp [Globs]), fun _ hp => absurd hp (by simp [GlobsE])⟩ rfl (rep_cons rep0 (rep_cons rep1 (rep_cons rep2 rep_nil)))).mono fun e W' ⟨he, bel⟩ => ?_
  subst he
  exact ⟨_, rfl, _, _, _, [], _, [], hW', trodAll_mk1 (shut_bool Try.underlying4 _), (trodAll_cons_mk (Below.trod laidOut (by kernel_rfl) (of_decide_eq_true (by kernel_rfl)) h0 bel lt0) (trodAll_cons_mk (Below.trod laidOut (by kernel_rfl) (of_decide_eq_true (by kernel_rfl)) h1 bel lt1) (trodAll_cons_mk (Below.trod laidOut (by kernel_rfl) (of_decide_eq_true (by kernel_rfl)) h2 bel lt2) trodAll_mk0))), rfl, bel.frame _, fun h => by cases h⟩
theorem over : Rows.fnInRingRow.holds Try.pinned (OpenSpec.ofChange Rows.fnInRingSpec) :=
  OpenClaim.holds_of_wide 7 Try.f7 rfl rfl rfl rfl rfl rfl rfl ⟨rfl, rfl, rfl, rfl, rfl⟩ rfl rfl rfl rfl rfl (by kernel_rfl) Try.func7 (by kernel_rfl)
    (of_decide_eq_true (by kernel_rfl)) (by unfold Func.isWrapper; first | (rw [if_pos (by decide +kernel)]; kernel_rfl) | (rw [if_neg (by decide +kernel)]; exact ⟨rfl, rfl⟩))
    (fun os started H enc _ => lifted os started H enc)
theorem proved : Rows.FnInRingSaid := over
#print axioms proved
end Go.Proofs.Ytohpmbodfpjjmaa.fnInRing
namespace Go.Proofs.Ytohpmbodfpjjmaa
/-- The row, under a short name, for the claim. -/
theorem fnInRing_holds : Rows.FnInRingSaid := fnInRing.proved
end Go.Proofs.Ytohpmbodfpjjmaa
