/- Proved: the law FnEWKBParts answers true at every input, and its input reads as it did. No condition beyond the statement's own. -/
import Derived.Test.YtbinnbmpedmabaaGreatRows
import Derived.Test.YtbinnbmpedmabaaGreatLibC
import Derived.Test.YtbinnbmpedmabaaGreatWEp
import Derived.Test.YtbinnbmpedmabaaGreatEpAll
import Derived.Test.YtbinnbmpedmabaaGreatChecked
import Derived.WalkKit
import Derived.ProofKit
import Derived.OpenShut
import Derived.ShutString
import Derived.ChangeOld
import Derived.Below
import Derived.JoinedCond
namespace Go.Proofs.YtbinnbmpedmabaaGreat.fnEWKBParts
open Go.Vm
open Go.ChangeShapes Go.WideShapes Go.ChangeAt Go.RowKit
open Go.ChangeMaps (open_string shut_string)
set_option linter.unusedVariables false
theorem own : ownKnob Tryz.prog.godebug = none := by kernel_rfl
theorem laidOut : laidOutB Tryz.prog = true := by kernel_rfl
theorem flat1 {α : Type} (g : α → D) (l : List α) : (l.map fun z => [g z]).flatten = l.map g := by
  induction l with
  | nil => rfl
  | cons a l ih => simp [ih]
theorem cells3 : Tryz.prog.cellsOf 3 = 1 := by kernel_rfl
theorem cells23 : Tryz.prog.cellsOf 23 = 1 := by kernel_rfl
theorem cells27 : Tryz.prog.cellsOf 27 = 7 := by kernel_rfl
theorem cells60 : Tryz.prog.cellsOf 60 = 1 := by kernel_rfl
theorem shape_rec27 : ∀ (n : Nat) (xs : List D), Shape Tryz.prog n 27 xs → ∃ g : Wk.TImpl_Geom, xs = Wk.c0_TImpl_Geom g ∧ Wk.WfG g := by
  intro n
  induction n using Nat.strongRecOn with
  | _ n ih =>
  intro xs h
  obtain ⟨m0, hm0, l0⟩ := shape_structR Tryz.underlying27 h
  obtain ⟨_, _, rfl, s0_, l0_⟩ := shapeL_cons l0
  obtain ⟨a1, rfl, fa1⟩ := shape_int Tryz.underlying3 s0_
  obtain ⟨_, _, rfl, s1_, l1_⟩ := shapeL_cons l0_
  obtain ⟨a2, rfl, fa2⟩ := shape_int Tryz.underlying3 s1_
  obtain ⟨_, _, rfl, s2_, l2_⟩ := shapeL_cons l1_
  obtain ⟨a3, rfl, fa3⟩ := shape_int Tryz.underlying3 s2_
  obtain ⟨_, _, rfl, s3_, l3_⟩ := shapeL_cons l2_
  obtain ⟨m4, rows5, rfl, hl6, hr7⟩ := shape_slice Tryz.underlying22 s3_
  obtain ⟨zs8, rfl, hz9⟩ := rows_choose (f := fun z : Nat => [.v (.float .f64 z)]) (Q := fun z => ((Lit.float .f64 z).wf = true)) (fun r hr => by
    have y10 := hr7 r hr
    obtain ⟨a11, rfl, fa11⟩ := shape_float Tryz.underlying60 y10
    exact ⟨a11, rfl, fa11⟩)
  simp only [List.length_map] at hl6
  have F12 := And.intro hl6 hz9
  obtain ⟨_, _, rfl, s4_, l4_⟩ := shapeL_cons l3_
  obtain ⟨m13, rows14, rfl, hl15, hr16⟩ := shape_slice Tryz.underlying23 s4_
  obtain ⟨zs17, rfl, hz18⟩ := rows_choose (f := fun z : Int => [di .i64 z]) (Q := fun z => (lo .i64 ≤ z ∧ z ≤ hi .i64)) (fun r hr => by
    have y19 := hr16 r hr
    obtain ⟨a20, rfl, fa20⟩ := shape_int Tryz.underlying3 y19
    exact ⟨a20, rfl, fa20⟩)
  simp only [List.length_map] at hl15
  have F21 := And.intro hl15 hz18
  obtain ⟨_, _, rfl, s5_, l5_⟩ := shapeL_cons l4_
  obtain ⟨m22, rows23, rfl, hl24, hr25⟩ := shape_slice Tryz.underlying24 s5_
  obtain ⟨zs26, rfl, hz27⟩ := rows_choose (f := fun z : (List Int) => [.ds (Tryz.prog.cellsOf 3) (List.flatten (List.map (fun z : Int => [di .i64 z]) z))]) (Q := fun z => (z.length ≤ maxLen ∧ ∀ x ∈ z, (fun z => (lo .i64 ≤ z ∧ z ≤ hi .i64)) x)) (fun r hr => by
    have y28 := hr25 r hr
    obtain ⟨m29, rows30, rfl, hl31, hr32⟩ := shape_slice Tryz.underlying23 y28
    obtain ⟨zs33, rfl, hz34⟩ := rows_choose (f := fun z : Int => [di .i64 z]) (Q := fun z => (lo .i64 ≤ z ∧ z ≤ hi .i64)) (fun r hr => by
      have y35 := hr32 r hr
      obtain ⟨a36, rfl, fa36⟩ := shape_int Tryz.underlying3 y35
      exact ⟨a36, rfl, fa36⟩)
    simp only [List.length_map] at hl31
    have F37 := And.intro hl31 hz34
    exact ⟨zs33, rfl, F37⟩)
  simp only [List.length_map] at hl24
  have F38 := And.intro hl24 hz27
  obtain ⟨_, _, rfl, s6_, l6_⟩ := shapeL_cons l5_
  obtain ⟨mk, rows_, hmk, rfl, hlk, hrk⟩ := shape_sliceR Tryz.underlying25 s6_
  obtain ⟨zk, rfl, hzk⟩ := rows_choose (f := Wk.c0_TImpl_Geom) (Q := Wk.WfG) (fun r hr => ih mk (by omega) r (hrk r hr))
  simp only [List.length_map] at hlk
  obtain rfl := shapeL_nil l6_
  refine ⟨.mk a1 a2 a3 zs8 zs17 zs26 zk, ?_, ?_⟩
  · simp only [cells3, cells23, cells27, cells60, flat1, Wk.c0_TImpl_Geom, Wk.cs_TImpl_Geom_eq, List.singleton_append, List.append_nil]
    simp only [flat_map]
  · simp only [Wk.WfG]; exact ⟨fa1, fa2, fa3, F12, F21, F38, hlk, Wk.wfGs_of hzk⟩
theorem one_le {H : Type} (d : DataW H) : 1 ≤ Rows.uptoBulk d := by
  cases d with
  | lit l => cases l <;> simp [Rows.uptoBulk]
  | _ => simp [Rows.uptoBulk]
set_option maxRecDepth 100000 in
theorem lifted (os : Os) (started : os.Started) (H : Type) (enc : TypeId × Value → H) (F : Stop.Interp) :
    ReturnsInHanded {} Tryz.checked os 3 .any ((Rows.OpenSpec.upto Rows.fnEWKBPartsSpec).pre6 enc Tryz.prog Tryz.f3 Rows.fnEWKBPartsUptoRow.domain false) (((Rows.OpenSpec.upto Rows.fnEWKBPartsSpec).at F).post enc Tryz.prog Tryz.f3 false true false false) := by
  refine returnsInHanded_of_cond (C := Tryz.checked) (s := (Rows.OpenSpec.upto Rows.fnEWKBPartsSpec)) (k := Rows.uptoSmall) rfl own started (by kernel_rfl) Tryz.func3
    (OpenSpec.witness (enc := enc) (C := Tryz.checked) (s := (Rows.OpenSpec.upto Rows.fnEWKBPartsSpec)) (k := Rows.uptoSmall) rfl false ⟨#[], #[.agg #[.int .i64 0, .int .i64 0, .int .i64 0, .slice none 0 0, .slice none 0 0, .slice none 0 0, .slice none 0 0], .bool false, .int .i64 0], []⟩ 8 (by kernel_rfl) (by kernel_rfl) (by kernel_rfl)
      (x := ([.agg [.lit (.int .i64 0), .lit (.int .i64 0), .lit (.int .i64 0), .nil, .nil, .nil, .nil], .lit (.bool false), .lit (.int .i64 0)], [], [])) (by kernel_rfl) rfl (by kernel_rfl)) ?_
  intro W base args ds gs before hval0 hW hcnd hk _
  have hval : ∀ (j : Nat) t v, Tryz.f3.params[j]? = some t → args[j]? = some v → Value.okWide Tryz.prog W .any base t v := hval0
  have hW' := hW
  obtain ⟨p, q, hA0, hV, rfl, hfz, hnd⟩ := hW
  have hA : DataW.TrodAll enc Tryz.prog W 0 (fun _ => true) true Tryz.f3.params.toList args.toList ds p := hA0
  rw [Tryz.params3] at hA hval
  obtain ⟨v0, vs0, d0, ds0, p0, q0, hargs, rfl, rfl, h0, r0⟩ := trodAll_cons hA
  obtain ⟨v1, vs1, d1, ds1, p1, q1, rfl, rfl, rfl, h1, r1⟩ := trodAll_cons r0
  obtain ⟨v2, vs2, d2, ds2, p2, q2, rfl, rfl, rfl, h2, r2⟩ := trodAll_cons r1
  obtain ⟨rfl, rfl, rfl⟩ := trodAll_nil r2
  obtain rfl : args = #[v0, v1, v2] := by cases args; simp_all
  obtain ⟨rfl, rfl⟩ := trodVars_none hV
  have lt0 : ∀ x ∈ p0, x.block < W.heap.size := by obtain ⟨m, hm⟩ := h0; exact DataW.trod_lt m _ _ _ hm
  obtain ⟨n0, x0, rep0, sh0, bk0⟩ := arg_structRB (B := Rows.uptoBulk) (Bs := Rows.uptoBulkAll) one_le (fun es sp => by simp only [Rows.uptoBulk]; omega) (fun _ _ => rfl) (fun es => by simp only [Rows.uptoBulk]; omega) [27, 3, 22, 60, 23, 24, 25] Tryz.underlying27 (by kernel_rfl) (by kernel_rfl) (hval 0 27 v0 rfl rfl) h0
  obtain ⟨g1, rfl, fg1⟩ := shape_rec27 _ _ sh0
  rw [Wk.c0_TImpl_Geom_eq] at rep0
  have lt1 : ∀ x ∈ p1, x.block < W.heap.size := by obtain ⟨m, hm⟩ := h1; exact DataW.trod_lt m _ _ _ hm
  obtain ⟨n1, x1, rep1, sh1, bk1⟩ := arg_oneB (B := Rows.uptoBulk) (Bs := Rows.uptoBulkAll) one_le (fun es sp => by simp only [Rows.uptoBulk]; omega) (fun _ _ => rfl) (k := 9) (by kernel_rfl) (by kernel_rfl) (hval 1 4 v1 rfl rfl) h1
  obtain ⟨a2, hx1⟩ := shape_bool Tryz.underlying4 sh1
  simp only [List.cons.injEq, and_true] at hx1; subst hx1
  try simp only [cells3, cells23, cells27, cells60, flat1] at rep1 bk1
  have lt2 : ∀ x ∈ p2, x.block < W.heap.size := by obtain ⟨m, hm⟩ := h2; exact DataW.trod_lt m _ _ _ hm
  obtain ⟨n2, x2, rep2, sh2, bk2⟩ := arg_oneB (B := Rows.uptoBulk) (Bs := Rows.uptoBulkAll) one_le (fun es sp => by simp only [Rows.uptoBulk]; omega) (fun _ _ => rfl) (k := 9) (by kernel_rfl) (by kernel_rfl) (hval 2 3 v2 rfl rfl) h2
  obtain ⟨a3, hx2, fa3⟩ := shape_int Tryz.underlying3 sh2
  simp only [List.cons.injEq, and_true] at hx2; subst hx2
  try simp only [cells3, cells23, cells27, cells60, flat1] at rep2 bk2
  have hbound : Rows.uptoBulkAll ([d0, d1, d2] ++ []) ≤ 1048576 := of_decide_eq_true hk
  simp only [List.append_nil, Rows.uptoBulkAll] at hbound
  clear hA0 hval0
  refine (FnD.law (vs := [v0, v1, v2]) (Wk.w_FnEWKBParts 4000000 g1 a2 a3 true (Wk.law_ep a2 (Nat.le_refl _) fg1 (by have b1 := Wk.gF_bulk g1; omega) a3 fa3)) ⟨fun _ hp => absurd hp (by simp [Globs]), fun _ hp => absurd hp (by simp [GlobsE]), fun _ hp => absurd hp (by simp [GlobsP]), fun _ hp => absurd hp (by simp [GlobsF])⟩ rfl (rep_cons rep0 (rep_cons rep1 (rep_cons rep2 rep_nil)))).mono fun e W' ⟨he, bel⟩ => ?_
  subst he
  have hp : Rows.fnEWKBPartsSpec.post enc Tryz.prog Tryz.f3 false true false false W #[v0, v1, v2] (.bool true) W' := ⟨_, _, _, [], _, [], hW', trodAll_mk1 (shut_bool Tryz.underlying4 _), (trodAll_cons_mk (Below.trod laidOut (by kernel_rfl) (of_decide_eq_true (by kernel_rfl)) h0 bel lt0) (trodAll_cons_mk (Below.trod laidOut (by kernel_rfl) (of_decide_eq_true (by kernel_rfl)) h1 bel lt1) (trodAll_cons_mk (Below.trod laidOut (by kernel_rfl) (of_decide_eq_true (by kernel_rfl)) h2 bel lt2) trodAll_mk0))), rfl, bel.frame _, fun h => by cases h⟩
  exact ⟨_, rfl, hp⟩
theorem proved : Rows.FnEWKBPartsUptoSaid :=
  OpenClaim.holds_of_cond 3 Tryz.f3 rfl rfl rfl rfl rfl rfl rfl ⟨rfl, rfl, rfl, rfl, rfl⟩ rfl rfl rfl rfl rfl (by kernel_rfl) Tryz.func3 (by kernel_rfl)
    (of_decide_eq_true (by kernel_rfl)) (by unfold Func.isWrapper; first | (rw [if_pos (by decide +kernel)]; kernel_rfl) | (rw [if_neg (by decide +kernel)]; exact ⟨rfl, rfl⟩))
    (fun os started H enc _ F => lifted os started H enc F)
#print axioms proved
end Go.Proofs.YtbinnbmpedmabaaGreat.fnEWKBParts
namespace Go.Proofs.YtbinnbmpedmabaaGreat
/-- The row, under a short name, for the claim. -/
theorem fnEWKBParts_holds : Rows.FnEWKBPartsUptoSaid := fnEWKBParts.proved
end Go.Proofs.YtbinnbmpedmabaaGreat
