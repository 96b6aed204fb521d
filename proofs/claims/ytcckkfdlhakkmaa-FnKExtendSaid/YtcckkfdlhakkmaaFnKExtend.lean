/- Proved: the law FnKExtend answers true at every input, and its input reads as it did. No condition beyond the statement's own. -/
import Derived.Test.YtcckkfdlhakkmaaRows
import Derived.Test.YtcckkfdlhakkmaaVmRow
import Derived.Test.YtcckkfdlhakkmaaWKe
import Derived.Test.YtcckkfdlhakkmaaKExt4
import Derived.Test.YtcckkfdlhakkmaaChecked
import Derived.WalkKit
import Derived.ProofKit
import Derived.OpenShut
import Derived.ShutString
import Derived.ChangeOld
import Derived.Below
namespace Go.Proofs.Ytcckkfdlhakkmaa.fnKExtend
open Go.Vm
open Go.ChangeShapes Go.WideShapes Go.ChangeAt Go.RowKit
open Go.ChangeMaps (open_string shut_string)
set_option linter.unusedVariables false
theorem own : ownKnob Try.prog.godebug = none := by kernel_rfl
theorem laidOut : laidOutB Try.prog = true := by kernel_rfl
theorem flat1 {α : Type} (g : α → D) (l : List α) : (l.map fun z => [g z]).flatten = l.map g := by
  induction l with
  | nil => rfl
  | cons a l ih => simp [ih]
theorem cells51 : Try.prog.cellsOf 51 = 1 := by kernel_rfl
set_option maxRecDepth 100000 in
theorem lifted (os : Os) (started : os.Started) (H : Type) (enc : TypeId × Value → H) :
    ReturnsInHanded {} Try.checked os 4 .any (Rows.fnKExtendSpec.pre6 enc Try.prog Try.f4 Rows.fnKExtendRow.domain false) (Rows.fnKExtendSpec.post enc Try.prog Try.f4 false true false false) := by
  refine returnsInHanded_of_change (C := Try.checked) own started (by kernel_rfl) Try.func4
    (ChangeSpec.witness6 (enc := enc) (C := Try.checked) false ⟨#[], #[.slice none 0 0, .slice none 0 0, .slice none 0 0], []⟩ 8 (by kernel_rfl) (by kernel_rfl) (by kernel_rfl) (by kernel_rfl)) ?_
  intro W base args ds gs before hval0 hW hcnd _
  have hval : ∀ (j : Nat) t v, Try.f4.params[j]? = some t → args[j]? = some v → Value.okWide Try.prog W .any base t v := hval0
  have hW' := hW
  obtain ⟨p, q, hA0, hV, rfl, hfz, hnd⟩ := hW
  have hA : DataW.TrodAll enc Try.prog W 0 (fun _ => true) true Try.f4.params.toList args.toList ds p := hA0
  rw [Try.params4] at hA hval
  obtain ⟨v0, vs0, d0, ds0, p0, q0, hargs, rfl, rfl, h0, r0⟩ := trodAll_cons hA
  obtain ⟨v1, vs1, d1, ds1, p1, q1, rfl, rfl, rfl, h1, r1⟩ := trodAll_cons r0
  obtain ⟨v2, vs2, d2, ds2, p2, q2, rfl, rfl, rfl, h2, r2⟩ := trodAll_cons r1
  obtain ⟨rfl, rfl, rfl⟩ := trodAll_nil r2
  obtain rfl : args = #[v0, v1, v2] := by cases args; simp_all
  obtain ⟨rfl, rfl⟩ := trodVars_none hV
  have lt0 : ∀ x ∈ p0, x.block < W.heap.size := by obtain ⟨m, hm⟩ := h0; exact DataW.trod_lt m _ _ _ hm
  obtain ⟨n0, x0, rep0, sh0⟩ := arg_one (k := 9) (by kernel_rfl) (by kernel_rfl) (hval 0 23 v0 rfl rfl) h0
  obtain ⟨m1, rows2, hx0, hl3, hr4⟩ := shape_slice Try.underlying23 sh0
  simp only [List.cons.injEq, and_true] at hx0; subst hx0
  obtain ⟨zs5, rfl, hz6⟩ := rows_choose (f := fun z : Nat => [.v (.float .f64 z)]) (Q := fun z => ((Lit.float .f64 z).wf = true)) (fun r hr => by
    have y7 := hr4 r hr
    obtain ⟨a8, rfl, fa8⟩ := shape_float Try.underlying51 y7
    exact ⟨a8, rfl, fa8⟩)
  simp only [List.length_map] at hl3
  have F9 := And.intro hl3 hz6
  try simp only [cells51, flat1] at rep0
  have lt1 : ∀ x ∈ p1, x.block < W.heap.size := by obtain ⟨m, hm⟩ := h1; exact DataW.trod_lt m _ _ _ hm
  obtain ⟨n1, x1, rep1, sh1⟩ := arg_one (k := 9) (by kernel_rfl) (by kernel_rfl) (hval 1 23 v1 rfl rfl) h1
  obtain ⟨m10, rows11, hx1, hl12, hr13⟩ := shape_slice Try.underlying23 sh1
  simp only [List.cons.injEq, and_true] at hx1; subst hx1
  obtain ⟨zs14, rfl, hz15⟩ := rows_choose (f := fun z : Nat => [.v (.float .f64 z)]) (Q := fun z => ((Lit.float .f64 z).wf = true)) (fun r hr => by
    have y16 := hr13 r hr
    obtain ⟨a17, rfl, fa17⟩ := shape_float Try.underlying51 y16
    exact ⟨a17, rfl, fa17⟩)
  simp only [List.length_map] at hl12
  have F18 := And.intro hl12 hz15
  try simp only [cells51, flat1] at rep1
  have lt2 : ∀ x ∈ p2, x.block < W.heap.size := by obtain ⟨m, hm⟩ := h2; exact DataW.trod_lt m _ _ _ hm
  obtain ⟨n2, x2, rep2, sh2⟩ := arg_one (k := 9) (by kernel_rfl) (by kernel_rfl) (hval 2 23 v2 rfl rfl) h2
  obtain ⟨m19, rows20, hx2, hl21, hr22⟩ := shape_slice Try.underlying23 sh2
  simp only [List.cons.injEq, and_true] at hx2; subst hx2
  obtain ⟨zs23, rfl, hz24⟩ := rows_choose (f := fun z : Nat => [.v (.float .f64 z)]) (Q := fun z => ((Lit.float .f64 z).wf = true)) (fun r hr => by
    have y25 := hr22 r hr
    obtain ⟨a26, rfl, fa26⟩ := shape_float Try.underlying51 y25
    exact ⟨a26, rfl, fa26⟩)
  simp only [List.length_map] at hl21
  have F27 := And.intro hl21 hz24
  try simp only [cells51, flat1] at rep2
  clear hA0 hval0
  refine (FnD.law (vs := [v0, v1, v2]) (Wk.w_FnKExtend 2147483660 zs5 zs14 zs23 true (Wk.law_kext (Nat.le_refl _) _ _ _)) ⟨fun _ hp => absurd hp (by simp [Globs]), fun _ hp => absurd hp (by simp [GlobsE])⟩ rfl (rep_cons rep0 (rep_cons rep1 (rep_cons rep2 rep_nil)))).mono fun e W' ⟨he, bel⟩ => ?_
  subst he
  exact ⟨_, rfl, _, _, _, [], _, [], hW', trodAll_mk1 (shut_bool Try.underlying4 _), (trodAll_cons_mk (Below.trod laidOut (by kernel_rfl) (of_decide_eq_true (by kernel_rfl)) h0 bel lt0) (trodAll_cons_mk (Below.trod laidOut (by kernel_rfl) (of_decide_eq_true (by kernel_rfl)) h1 bel lt1) (trodAll_cons_mk (Below.trod laidOut (by kernel_rfl) (of_decide_eq_true (by kernel_rfl)) h2 bel lt2) trodAll_mk0))), rfl, bel.frame _, fun h => by cases h⟩
theorem over : Rows.fnKExtendRow.holds Try.pinned (OpenSpec.ofChange Rows.fnKExtendSpec) :=
  OpenClaim.holds_of_wide 4 Try.f4 rfl rfl rfl rfl rfl rfl rfl ⟨rfl, rfl, rfl, rfl, rfl⟩ rfl rfl rfl rfl rfl (by kernel_rfl) Try.func4 (by kernel_rfl)
    (of_decide_eq_true (by kernel_rfl)) (by unfold Func.isWrapper; first | (rw [if_pos (by decide +kernel)]; kernel_rfl) | (rw [if_neg (by decide +kernel)]; exact ⟨rfl, rfl⟩))
    (fun os started H enc _ => lifted os started H enc)
theorem proved : Rows.FnKExtendSaid := over
#print axioms proved
end Go.Proofs.Ytcckkfdlhakkmaa.fnKExtend
namespace Go.Proofs.Ytcckkfdlhakkmaa
/-- The row, under a short name, for the claim. -/
theorem fnKExtend_holds : Rows.FnKExtendSaid := fnKExtend.proved
end Go.Proofs.Ytcckkfdlhakkmaa
