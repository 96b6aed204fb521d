/- Proved: the law FnPolygonsFlat answers true at every input, and its input reads as it did. No condition beyond the statement's own. -/
import Derived.Test.YtdchenbdnalbcaaGreatDoorRows
import Derived.Test.YtdchenbdnalbcaaGreatDoorLibB
import Derived.Test.YtdchenbdnalbcaaGreatDoorWPf
import Derived.Test.YtdchenbdnalbcaaGreatDoorPgAll
import Derived.Test.YtdchenbdnalbcaaGreatDoorChecked
import Derived.Test.YtdchenbdnalbcaaGreatDoorCards
import Derived.Test.YtdchenbdnalbcaaGreatDoorTie
import Derived.WalkKit
import Derived.ProofKit
import Derived.OpenShut
import Derived.ShutString
import Derived.ChangeOld
import Derived.Below
import Derived.JoinedCond
namespace Go.Proofs.YtdchenbdnalbcaaGreatDoor.fnPolygonsFlat
open Go.Vm
open Go.ChangeShapes Go.WideShapes Go.ChangeAt Go.RowKit
open Go.ChangeMaps (open_string shut_string)
set_option linter.unusedVariables false
theorem own : ownKnob Tryz.prog.godebug = none := by kernel_rfl
theorem laidOut : laidOutB Tryz.prog = true := by kernel_rfl
theorem flat1 {α : Type} (g : α → D) (l : List α) : (l.map fun z => [g z]).flatten = l.map g := by
  induction l with
  | nil => rfl
  | cons a l ih => simp [ih]
theorem cells3 : Tryz.prog.cellsOf 3 = 1 := by kernel_rfl
theorem cells46 : Tryz.prog.cellsOf 46 = 1 := by kernel_rfl
theorem cells49 : Tryz.prog.cellsOf 49 = 7 := by kernel_rfl
theorem cells54 : Tryz.prog.cellsOf 54 = 1 := by kernel_rfl
theorem shape_rec49 : ∀ (n : Nat) (xs : List D), Shape Tryz.prog n 49 xs → ∃ g : Wk.TImpl_Geom, xs = Wk.c0_TImpl_Geom g ∧ Wk.WfG g := by
  intro n
  induction n using Nat.strongRecOn with
  | _ n ih =>
  intro xs h
  obtain ⟨m0, hm0, l0⟩ := shape_structR Tryz.underlying49 h
  obtain ⟨_, _, rfl, s0_, l0_⟩ := shapeL_cons l0
  obtain ⟨a1, rfl, fa1⟩ := shape_int Tryz.underlying3 s0_
  obtain ⟨_, _, rfl, s1_, l1_⟩ := shapeL_cons l0_
  obtain ⟨a2, rfl, fa2⟩ := shape_int Tryz.underlying3 s1_
  obtain ⟨_, _, rfl, s2_, l2_⟩ := shapeL_cons l1_
  obtain ⟨a3, rfl, fa3⟩ := shape_int Tryz.underlying3 s2_
  obtain ⟨_, _, rfl, s3_, l3_⟩ := shapeL_cons l2_
  obtain ⟨m4, rows5, rfl, hl6, hr7⟩ := shape_slice Tryz.underlying40 s3_
  obtain ⟨zs8, rfl, hz9⟩ := rows_choose (f := fun z : Nat => [.v (.float .f64 z)]) (Q := fun z => ((Lit.float .f64 z).wf = true)) (fun r hr => by
    have y10 := hr7 r hr
    obtain ⟨a11, rfl, fa11⟩ := shape_float Tryz.underlying54 y10
    exact ⟨a11, rfl, fa11⟩)
  simp only [List.length_map] at hl6
  have F12 := And.intro hl6 hz9
  obtain ⟨_, _, rfl, s4_, l4_⟩ := shapeL_cons l3_
  obtain ⟨m13, rows14, rfl, hl15, hr16⟩ := shape_slice Tryz.underlying46 s4_
  obtain ⟨zs17, rfl, hz18⟩ := rows_choose (f := fun z : Int => [di .i64 z]) (Q := fun z => (lo .i64 ≤ z ∧ z ≤ hi .i64)) (fun r hr => by
    have y19 := hr16 r hr
    obtain ⟨a20, rfl, fa20⟩ := shape_int Tryz.underlying3 y19
    exact ⟨a20, rfl, fa20⟩)
  simp only [List.length_map] at hl15
  have F21 := And.intro hl15 hz18
  obtain ⟨_, _, rfl, s5_, l5_⟩ := shapeL_cons l4_
  obtain ⟨m22, rows23, rfl, hl24, hr25⟩ := shape_slice Tryz.underlying47 s5_
  obtain ⟨zs26, rfl, hz27⟩ := rows_choose (f := fun z : (List Int) => [.ds (Tryz.prog.cellsOf 3) (List.flatten (List.map (fun z : Int => [di .i64 z]) z))]) (Q := fun z => (z.length ≤ maxLen ∧ ∀ x ∈ z, (fun z => (lo .i64 ≤ z ∧ z ≤ hi .i64)) x)) (fun r hr => by
    have y28 := hr25 r hr
    obtain ⟨m29, rows30, rfl, hl31, hr32⟩ := shape_slice Tryz.underlying46 y28
    obtain ⟨zs33, rfl, hz34⟩ := rows_choose (f := fun z : Int => [di .i64 z]) (Q := fun z => (lo .i64 ≤ z ∧ z ≤ hi .i64)) (fun r hr => by
      have y35 := hr32 r hr
      obtain ⟨a36, rfl, fa36⟩ := shape_int Tryz.underlying3 y35
      exact ⟨a36, rfl, fa36⟩)
    simp only [List.length_map] at hl31
    have F37 := And.intro hl31 hz34
    exact ⟨zs33, rfl, F37⟩)
  simp only [List.length_map] at hl24
  have F38 := And.intro hl24 hz27
  obtain ⟨_, _, rfl, s6_, l6_⟩ := shapeL_cons l5_
  obtain ⟨mk, rows_, hmk, rfl, hlk, hrk⟩ := shape_sliceR Tryz.underlying22 s6_
  obtain ⟨zk, rfl, hzk⟩ := rows_choose (f := Wk.c0_TImpl_Geom) (Q := Wk.WfG) (fun r hr => ih mk (by omega) r (hrk r hr))
  simp only [List.length_map] at hlk
  obtain rfl := shapeL_nil l6_
  refine ⟨.mk a1 a2 a3 zs8 zs17 zs26 zk, ?_, ?_⟩
  · simp only [cells3, cells46, cells49, cells54, flat1, Wk.c0_TImpl_Geom, Wk.cs_TImpl_Geom_eq, List.singleton_append, List.append_nil]
    simp only [flat_map]
  · simp only [Wk.WfG]; exact ⟨fa1, fa2, fa3, F12, F21, F38, hlk, Wk.wfGs_of hzk⟩
theorem one_le {H : Type} (d : DataW H) : 1 ≤ Rows.uptoBulk d := by
  cases d with
  | lit l => cases l <;> simp [Rows.uptoBulk]
  | _ => simp [Rows.uptoBulk]
set_option maxRecDepth 100000 in
theorem lifted (os : Os) (started : os.Started) (H : Type) (enc : TypeId × Value → H) (F : Stop.Interp) :
    ReturnsInHanded {} Tryz.checked os 3 .any (fun w args => ((Rows.OpenSpec.upto Rows.fnPolygonsFlatSpec).pre enc Tryz.prog Tryz.f3 [] false w args ∧ laidMetH Tryz.prog Rows.fnPolygonsFlatUptoRow.laid w) ∧ sizedMet enc Tryz.prog Tryz.f3 (Rows.OpenSpec.upto Rows.fnPolygonsFlatSpec) false w args) (((Rows.OpenSpec.upto Rows.fnPolygonsFlatSpec).at F).post enc Tryz.prog Tryz.f3 false true false false) := by
  refine handed_cond_and (C := Tryz.checked) (s := (Rows.OpenSpec.upto Rows.fnPolygonsFlatSpec)) (k := Rows.uptoSmall) (X := fun w _ => laidMetH Tryz.prog Rows.fnPolygonsFlatUptoRow.laid w) rfl (fun _ _ _ hh h => h.of_heap hh) own started (by kernel_rfl) Tryz.func3
    (witness_cond_and (enc := enc) (C := Tryz.checked) (os := os) (s := (Rows.OpenSpec.upto Rows.fnPolygonsFlatSpec)) (k := Rows.uptoSmall) (X := fun w _ => laidMetH Tryz.prog Rows.fnPolygonsFlatUptoRow.laid w) rfl (World.laidAll Tryz.prog os Rows.fnPolygonsFlatUptoRow.laid) #[.int .i64 0, .slice none 0 0] 8 (World.laidAll_os _ _ _)
      (World.shaped_of_ZipB (by kernel_rfl) (by kernel_rfl)) (by kernel_rfl) (x := ([.lit (.int .i64 0), .nil], [], [])) (by kernel_rfl) rfl (by kernel_rfl) (by kernel_rfl)
      (by rw [MakeChecks.laidMetH_plain _ _ _ (by kernel_rfl)]; exact laidMet_laidAll _ (by kernel_rfl) (by kernel_rfl))) ?_
  intro W base args ds gs before hval0 hW hk hL
  have hcnd := True.intro
  have hval : ∀ (j : Nat) t v, Tryz.f3.params[j]? = some t → args[j]? = some v → Value.okWide Tryz.prog W .any base t v := hval0
  have hW' := hW
  obtain ⟨p, q, hA0, hV, rfl, hfz, hnd⟩ := hW
  have hA : DataW.TrodAll enc Tryz.prog W 0 (fun _ => true) true Tryz.f3.params.toList args.toList ds p := hA0
  rw [Tryz.params3] at hA hval
  obtain ⟨v0, vs0, d0, ds0, p0, q0, hargs, rfl, rfl, h0, r0⟩ := trodAll_cons hA
  obtain ⟨v1, vs1, d1, ds1, p1, q1, rfl, rfl, rfl, h1, r1⟩ := trodAll_cons r0
  obtain ⟨rfl, rfl, rfl⟩ := trodAll_nil r1
  obtain rfl : args = #[v0, v1] := by cases args; simp_all
  obtain ⟨rfl, rfl⟩ := trodVars_none hV
  rw [MakeChecks.laidMetH_plain _ _ _ (by kernel_rfl)] at hL
  have hG : HoldsG W := by
   refine ⟨fun p hp => ?_, fun p hp => ?_⟩
   · skip
     exact absurd hp (by simp [Globs])
   · skip
     exact absurd hp (by simp [GlobsE])
  have lt0 : ∀ x ∈ p0, x.block < W.heap.size := by obtain ⟨m, hm⟩ := h0; exact DataW.trod_lt m _ _ _ hm
  obtain ⟨n0, x0, rep0, sh0, bk0⟩ := arg_oneB (B := Rows.uptoBulk) (Bs := Rows.uptoBulkAll) one_le (fun es sp => by simp only [Rows.uptoBulk]; omega) (fun _ _ => rfl) (k := 9) (by kernel_rfl) (by kernel_rfl) (hval 0 3 v0 rfl rfl) h0
  obtain ⟨a1, hx0, fa1⟩ := shape_int Tryz.underlying3 sh0
  simp only [List.cons.injEq, and_true] at hx0; subst hx0
  have lt1 : ∀ x ∈ p1, x.block < W.heap.size := by obtain ⟨m, hm⟩ := h1; exact DataW.trod_lt m _ _ _ hm
  obtain ⟨n1, x1, rep1, sh1, bk1⟩ := arg_oneRB (B := Rows.uptoBulk) (Bs := Rows.uptoBulkAll) one_le (fun es sp => by simp only [Rows.uptoBulk]; omega) (fun _ _ => rfl) (fun es => by simp only [Rows.uptoBulk]; omega) [22, 49, 3, 40, 54, 46, 47] (by kernel_rfl) (by kernel_rfl) (by kernel_rfl) (hval 1 22 v1 rfl rfl) h1
  obtain ⟨m2, rows3, hx1, hl4, hr5⟩ := shape_slice Tryz.underlying22 sh1
  simp only [List.cons.injEq, and_true] at hx1; subst hx1
  obtain ⟨zs6, rfl, hz7⟩ := rows_choose (f := Wk.c0_TImpl_Geom) (Q := Wk.WfG) (fun r hr => shape_rec49 _ _ (hr5 r hr))
  simp only [List.length_map] at hl4
  have F8 := And.intro hl4 hz7
  simp only [cells3, cells46, cells49, cells54, flat_map] at rep1 bk1
  have hbound : Rows.uptoBulkAll ([d0, d1] ++ []) ≤ 1048576 := of_decide_eq_true hk
  simp only [List.append_nil, Rows.uptoBulkAll] at hbound
  clear hA0 hval0
  refine (FnD.law (vs := [v0, v1]) (Wk.w_FnPolygonsFlat 1073741826 a1 zs6 true (Wk.law_polys (Nat.le_refl _) _ _ (fun g hg => F8.2 g hg) (fun g hg => Nat.le_trans (Wk.ends_bulk hg) (Nat.le_trans bk1 (by omega))))) hG rfl (rep_cons rep0 (rep_cons rep1 rep_nil))).mono fun e W' ⟨he, bel⟩ => ?_
  subst he
  have hp : Rows.fnPolygonsFlatSpec.post enc Tryz.prog Tryz.f3 false true false false W #[v0, v1] (.bool true) W' := ⟨_, _, _, [], _, [], hW', trodAll_mk1 (shut_bool Tryz.underlying4 _), (trodAll_cons_mk (Below.trod laidOut (by kernel_rfl) (of_decide_eq_true (by kernel_rfl)) h0 bel lt0) (trodAll_cons_mk (Below.trod laidOut (by kernel_rfl) (of_decide_eq_true (by kernel_rfl)) h1 bel lt1) trodAll_mk0)), rfl, bel.frame _, fun h => by cases h⟩
  exact ⟨_, rfl, hp⟩
theorem over : Rows.fnPolygonsFlatUptoRow.holds Tryz.pinned (Rows.OpenSpec.upto Rows.fnPolygonsFlatSpec) :=
  OpenClaim.holds_of_cond 3 Tryz.f3 rfl rfl rfl rfl rfl rfl rfl ⟨rfl, rfl, rfl, rfl, rfl⟩ rfl rfl rfl rfl rfl (by kernel_rfl) Tryz.func3 (by kernel_rfl)
    (of_decide_eq_true (by kernel_rfl)) (by unfold Func.isWrapper; first | (rw [if_pos (by decide +kernel)]; kernel_rfl) | (rw [if_neg (by decide +kernel)]; exact ⟨rfl, rfl⟩))
    (fun os started H enc _ F => lifted os started H enc F)
theorem proved : Rows.FnPolygonsFlatUptoCardSaid :=
  Claim7.holds_tied_plain_at .later [] [.data] true (true, "5f69f96221415986face7088829165e432e7e74c2c2004796cf7832e083efb90") true over (fun _ h => by cases h) (by kernel_rfl) (fun _ h => by cases h) fnPolygonsFlatUpto_row_tie rfl ⟨rfl, rfl⟩ (by kernel_rfl) rfl
    (fun f fn hf hfn => by
      obtain rfl : f = 3 := Option.some.inj ((show Tryz.prog.funcNamed "pub-orthodrome/laws.FnPolygonsFlat" = some 3 by kernel_rfl).symm.trans hf) |>.symm
      obtain rfl : fn = Tryz.f3 := (Option.some.inj (Tryz.func3.symm.trans hfn)).symm
      exact ⟨by kernel_rfl, fun j t ht => by
        rw [Tryz.params3] at ht
        have hm : t ∈ [3, 22] := by simpa using Array.mem_of_getElem? ht
        have hall : ([3, 22].all fun u => !Tryz.prog.wantsStandIn u) = true := by kernel_rfl
        exact (show Tryz.prog.wantsStandIn t = false by simpa using List.all_eq_true.1 hall t hm)⟩)
    (by kernel_rfl)
#print axioms proved
end Go.Proofs.YtdchenbdnalbcaaGreatDoor.fnPolygonsFlat
namespace Go.Proofs.YtdchenbdnalbcaaGreatDoor
/-- The row, under a short name, for the claim. -/
theorem fnPolygonsFlat_holds : Rows.FnPolygonsFlatUptoCardSaid := fnPolygonsFlat.proved
end Go.Proofs.YtdchenbdnalbcaaGreatDoor
