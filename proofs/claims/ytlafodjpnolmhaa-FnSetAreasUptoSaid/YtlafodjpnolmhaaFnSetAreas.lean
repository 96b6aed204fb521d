/- Proved: the law FnSetAreas answers true at every input, and its input reads as it did. No condition beyond the statement's own. -/
import Derived.Test.YtlafodjpnolmhaaRows
import Derived.Test.YtlafodjpnolmhaaVmRow
import Derived.Test.YtlafodjpnolmhaaWSa
import Derived.Test.YtlafodjpnolmhaaVmRowB
import Derived.Test.YtlafodjpnolmhaaSetA3
import Derived.Test.YtlafodjpnolmhaaChecked
import Derived.WalkKit
import Derived.ProofKit
import Derived.OpenShut
import Derived.ShutString
import Derived.ChangeOld
import Derived.Below
import Derived.JoinedCond
namespace Go.Proofs.Ytlafodjpnolmhaa.fnSetAreas
open Go.Vm
open Go.ChangeShapes Go.WideShapes Go.ChangeAt Go.RowKit
open Go.ChangeMaps (open_string shut_string)
set_option linter.unusedVariables false
theorem own : ownKnob Try.prog.godebug = none := by kernel_rfl
theorem laidOut : laidOutB Try.prog = true := by kernel_rfl
theorem flat1 {α : Type} (g : α → D) (l : List α) : (l.map fun z => [g z]).flatten = l.map g := by
  induction l with
  | nil => rfl
  | cons a l ih => simp [ih]
theorem cells25 : Try.prog.cellsOf 25 = 1 := by kernel_rfl
theorem cells31 : Try.prog.cellsOf 31 = 1 := by kernel_rfl
theorem cells32 : Try.prog.cellsOf 32 = 1 := by kernel_rfl
theorem cells37 : Try.prog.cellsOf 37 = 1 := by kernel_rfl
theorem one_le {H : Type} (d : DataW H) : 1 ≤ Rows.uptoBulk d := by
  cases d with
  | lit l => cases l <;> simp [Rows.uptoBulk]
  | _ => simp [Rows.uptoBulk]
set_option maxRecDepth 100000 in
theorem lifted (os : Os) (started : os.Started) (H : Type) (enc : TypeId × Value → H) (F : Stop.Interp) :
    ReturnsInHanded {} Try.checked os 3 .any ((Rows.OpenSpec.upto Rows.fnSetAreasSpec).pre6 enc Try.prog Try.f3 Rows.fnSetAreasUptoRow.domain false) (((Rows.OpenSpec.upto Rows.fnSetAreasSpec).at F).post enc Try.prog Try.f3 false true false false) := by
  refine returnsInHanded_of_cond (C := Try.checked) (s := (Rows.OpenSpec.upto Rows.fnSetAreasSpec)) (k := Rows.uptoSmall) rfl own started (by kernel_rfl) Try.func3
    (OpenSpec.witness (enc := enc) (C := Try.checked) (s := (Rows.OpenSpec.upto Rows.fnSetAreasSpec)) (k := Rows.uptoSmall) rfl false ⟨#[], #[.int .i64 0, .slice none 0 0], []⟩ 8 (by kernel_rfl) (by kernel_rfl) (by kernel_rfl)
      (x := ([.lit (.int .i64 0), .nil], [], [])) (by kernel_rfl) rfl (by kernel_rfl)) ?_
  intro W base args ds gs before hval0 hW hcnd hk _
  have hval : ∀ (j : Nat) t v, Try.f3.params[j]? = some t → args[j]? = some v → Value.okWide Try.prog W .any base t v := hval0
  have hW' := hW
  obtain ⟨p, q, hA0, hV, rfl, hfz, hnd⟩ := hW
  have hA : DataW.TrodAll enc Try.prog W 0 (fun _ => true) true Try.f3.params.toList args.toList ds p := hA0
  rw [Try.params3] at hA hval
  obtain ⟨v0, vs0, d0, ds0, p0, q0, hargs, rfl, rfl, h0, r0⟩ := trodAll_cons hA
  obtain ⟨v1, vs1, d1, ds1, p1, q1, rfl, rfl, rfl, h1, r1⟩ := trodAll_cons r0
  obtain ⟨rfl, rfl, rfl⟩ := trodAll_nil r1
  obtain rfl : args = #[v0, v1] := by cases args; simp_all
  obtain ⟨rfl, rfl⟩ := trodVars_none hV
  have lt0 : ∀ x ∈ p0, x.block < W.heap.size := by obtain ⟨m, hm⟩ := h0; exact DataW.trod_lt m _ _ _ hm
  obtain ⟨n0, x0, rep0, sh0, bk0⟩ := arg_oneB (B := Rows.uptoBulk) (Bs := Rows.uptoBulkAll) one_le (fun es sp => by simp only [Rows.uptoBulk]; omega) (fun _ _ => rfl) (k := 9) (by kernel_rfl) (by kernel_rfl) (hval 0 3 v0 rfl rfl) h0
  obtain ⟨a1, hx0, fa1⟩ := shape_int Try.underlying3 sh0
  simp only [List.cons.injEq, and_true] at hx0; subst hx0
  have lt1 : ∀ x ∈ p1, x.block < W.heap.size := by obtain ⟨m, hm⟩ := h1; exact DataW.trod_lt m _ _ _ hm
  obtain ⟨n1, x1, rep1, sh1, bk1⟩ := arg_oneB (B := Rows.uptoBulk) (Bs := Rows.uptoBulkAll) one_le (fun es sp => by simp only [Rows.uptoBulk]; omega) (fun _ _ => rfl) (k := 9) (by kernel_rfl) (by kernel_rfl) (hval 1 22 v1 rfl rfl) h1
  obtain ⟨m2, rows3, hx1, hl4, hr5⟩ := shape_slice Try.underlying22 sh1
  simp only [List.cons.injEq, and_true] at hx1; subst hx1
  obtain ⟨zs6, rfl, hz7⟩ := rows_choose (f := fun z : (List ((List ((List Nat))))) => [.ds (Try.prog.cellsOf 32) (List.flatten (List.map (fun z : (List ((List Nat))) => [.ds (Try.prog.cellsOf 25) (List.flatten (List.map (fun z : (List Nat) => [.ds (Try.prog.cellsOf 37) (List.flatten (List.map (fun z : Nat => [.v (.float .f64 z)]) z))]) z))]) z))]) (Q := fun z => (z.length ≤ maxLen ∧ ∀ x ∈ z, (fun z => (z.length ≤ maxLen ∧ ∀ x ∈ z, (fun z => (z.length ≤ maxLen ∧ ∀ x ∈ z, (fun z => ((Lit.float .f64 z).wf = true)) x)) x)) x)) (fun r hr => by
    have y8 := hr5 r hr
    obtain ⟨m9, rows10, rfl, hl11, hr12⟩ := shape_slice Try.underlying31 y8
    obtain ⟨zs13, rfl, hz14⟩ := rows_choose (f := fun z : (List ((List Nat))) => [.ds (Try.prog.cellsOf 25) (List.flatten (List.map (fun z : (List Nat) => [.ds (Try.prog.cellsOf 37) (List.flatten (List.map (fun z : Nat => [.v (.float .f64 z)]) z))]) z))]) (Q := fun z => (z.length ≤ maxLen ∧ ∀ x ∈ z, (fun z => (z.length ≤ maxLen ∧ ∀ x ∈ z, (fun z => ((Lit.float .f64 z).wf = true)) x)) x)) (fun r hr => by
      have y15 := hr12 r hr
      obtain ⟨m16, rows17, rfl, hl18, hr19⟩ := shape_slice Try.underlying32 y15
      obtain ⟨zs20, rfl, hz21⟩ := rows_choose (f := fun z : (List Nat) => [.ds (Try.prog.cellsOf 37) (List.flatten (List.map (fun z : Nat => [.v (.float .f64 z)]) z))]) (Q := fun z => (z.length ≤ maxLen ∧ ∀ x ∈ z, (fun z => ((Lit.float .f64 z).wf = true)) x)) (fun r hr => by
        have y22 := hr19 r hr
        obtain ⟨m23, rows24, rfl, hl25, hr26⟩ := shape_slice Try.underlying25 y22
        obtain ⟨zs27, rfl, hz28⟩ := rows_choose (f := fun z : Nat => [.v (.float .f64 z)]) (Q := fun z => ((Lit.float .f64 z).wf = true)) (fun r hr => by
          have y29 := hr26 r hr
          obtain ⟨a30, rfl, fa30⟩ := shape_float Try.underlying37 y29
          exact ⟨a30, rfl, fa30⟩)
        simp only [List.length_map] at hl25
        have F31 := And.intro hl25 hz28
        exact ⟨zs27, rfl, F31⟩)
      simp only [List.length_map] at hl18
      have F32 := And.intro hl18 hz21
      exact ⟨zs20, rfl, F32⟩)
    simp only [List.length_map] at hl11
    have F33 := And.intro hl11 hz14
    exact ⟨zs13, rfl, F33⟩)
  simp only [List.length_map] at hl4
  have F34 := And.intro hl4 hz7
  try simp only [cells25, cells31, cells32, cells37, flat1] at rep1 bk1
  have hbound : Rows.uptoBulkAll ([d0, d1] ++ []) ≤ 1048576 := of_decide_eq_true hk
  simp only [List.append_nil, Rows.uptoBulkAll] at hbound
  clear hA0 hval0
  refine (FnD.law (vs := [v0, v1]) (Wk.w_FnSetAreas 1048700 a1 zs6 true (Wk.law_set (by decide) _ _ (by rw [← Wk.bulk4]; exact Nat.le_trans bk1 (by omega)))) ⟨fun _ hp => absurd hp (by simp [Globs]), fun _ hp => absurd hp (by simp [GlobsE])⟩ rfl (rep_cons rep0 (rep_cons rep1 rep_nil))).mono fun e W' ⟨he, bel⟩ => ?_
  subst he
  have hp : Rows.fnSetAreasSpec.post enc Try.prog Try.f3 false true false false W #[v0, v1] (.bool true) W' := ⟨_, _, _, [], _, [], hW', trodAll_mk1 (shut_bool Try.underlying4 _), (trodAll_cons_mk (Below.trod laidOut (by kernel_rfl) (of_decide_eq_true (by kernel_rfl)) h0 bel lt0) (trodAll_cons_mk (Below.trod laidOut (by kernel_rfl) (of_decide_eq_true (by kernel_rfl)) h1 bel lt1) trodAll_mk0)), rfl, bel.frame _, fun h => by cases h⟩
  exact ⟨_, rfl, hp⟩
theorem proved : Rows.FnSetAreasUptoSaid :=
  OpenClaim.holds_of_cond 3 Try.f3 rfl rfl rfl rfl rfl rfl rfl ⟨rfl, rfl, rfl, rfl, rfl⟩ rfl rfl rfl rfl rfl (by kernel_rfl) Try.func3 (by kernel_rfl)
    (of_decide_eq_true (by kernel_rfl)) (by unfold Func.isWrapper; first | (rw [if_pos (by decide +kernel)]; kernel_rfl) | (rw [if_neg (by decide +kernel)]; exact ⟨rfl, rfl⟩))
    (fun os started H enc _ F => lifted os started H enc F)
#print axioms proved
end Go.Proofs.Ytlafodjpnolmhaa.fnSetAreas
namespace Go.Proofs.Ytlafodjpnolmhaa
/-- The row, under a short name, for the claim. -/
theorem fnSetAreas_holds : Rows.FnSetAreasUptoSaid := fnSetAreas.proved
end Go.Proofs.Ytlafodjpnolmhaa
