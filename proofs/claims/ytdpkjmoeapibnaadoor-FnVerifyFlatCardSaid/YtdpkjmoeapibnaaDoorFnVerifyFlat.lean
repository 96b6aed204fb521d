/- Proved: the law FnVerifyFlat answers true at every input, and its input reads as it did. No condition beyond the statement's own. -/
import Derived.Test.YtdpkjmoeapibnaaDoorRows
import Derived.Test.YtdpkjmoeapibnaaDoorVmRow
import Derived.Test.YtdpkjmoeapibnaaDoorWVf
import Derived.Test.YtdpkjmoeapibnaaDoorVmRowR
import Derived.Test.YtdpkjmoeapibnaaDoorVeri
import Derived.Test.YtdpkjmoeapibnaaDoorChecked
import Derived.Test.YtdpkjmoeapibnaaDoorVmLaid
import Derived.Test.YtdpkjmoeapibnaaDoorCards
import Derived.Test.YtdpkjmoeapibnaaDoorTie
import Derived.WalkKit
import Derived.ProofKit
import Derived.OpenShut
import Derived.ShutString
import Derived.ChangeOld
import Derived.Below
namespace Go.Proofs.YtdpkjmoeapibnaaDoor.fnVerifyFlat
open Go.Vm
open Go.ChangeShapes Go.WideShapes Go.ChangeAt Go.RowKit
open Go.ChangeMaps (open_string shut_string)
set_option linter.unusedVariables false
theorem own : ownKnob Tryd.prog.godebug = none := by kernel_rfl
theorem laidOut : laidOutB Tryd.prog = true := by kernel_rfl
theorem flat1 {α : Type} (g : α → D) (l : List α) : (l.map fun z => [g z]).flatten = l.map g := by
  induction l with
  | nil => rfl
  | cons a l ih => simp [ih]
theorem cells3 : Tryd.prog.cellsOf 3 = 1 := by kernel_rfl
theorem cells23 : Tryd.prog.cellsOf 23 = 1 := by kernel_rfl
theorem cells27 : Tryd.prog.cellsOf 27 = 7 := by kernel_rfl
theorem cells28 : Tryd.prog.cellsOf 28 = 1 := by kernel_rfl
theorem shape_rec27 : ∀ (n : Nat) (xs : List D), Shape Tryd.prog n 27 xs → ∃ g : Wk.TImpl_Geom, xs = Wk.c0_TImpl_Geom g ∧ Wk.WfG g := by
  intro n
  induction n using Nat.strongRecOn with
  | _ n ih =>
  intro xs h
  obtain ⟨m0, hm0, l0⟩ := shape_structR Tryd.underlying27 h
  obtain ⟨_, _, rfl, s0_, l0_⟩ := shapeL_cons l0
  obtain ⟨a1, rfl, fa1⟩ := shape_int Tryd.underlying3 s0_
  obtain ⟨_, _, rfl, s1_, l1_⟩ := shapeL_cons l0_
  obtain ⟨a2, rfl, fa2⟩ := shape_int Tryd.underlying3 s1_
  obtain ⟨_, _, rfl, s2_, l2_⟩ := shapeL_cons l1_
  obtain ⟨a3, rfl, fa3⟩ := shape_int Tryd.underlying3 s2_
  obtain ⟨_, _, rfl, s3_, l3_⟩ := shapeL_cons l2_
  obtain ⟨m4, rows5, rfl, hl6, hr7⟩ := shape_slice Tryd.underlying22 s3_
  obtain ⟨zs8, rfl, hz9⟩ := rows_choose (f := fun z : Nat => [.v (.float .f64 z)]) (Q := fun z => ((Lit.float .f64 z).wf = true)) (fun r hr => by
    have y10 := hr7 r hr
    obtain ⟨a11, rfl, fa11⟩ := shape_float Tryd.underlying28 y10
    exact ⟨a11, rfl, fa11⟩)
  simp only [List.length_map] at hl6
  have F12 := And.intro hl6 hz9
  obtain ⟨_, _, rfl, s4_, l4_⟩ := shapeL_cons l3_
  obtain ⟨m13, rows14, rfl, hl15, hr16⟩ := shape_slice Tryd.underlying23 s4_
  obtain ⟨zs17, rfl, hz18⟩ := rows_choose (f := fun z : Int => [di .i64 z]) (Q := fun z => (lo .i64 ≤ z ∧ z ≤ hi .i64)) (fun r hr => by
    have y19 := hr16 r hr
    obtain ⟨a20, rfl, fa20⟩ := shape_int Tryd.underlying3 y19
    exact ⟨a20, rfl, fa20⟩)
  simp only [List.length_map] at hl15
  have F21 := And.intro hl15 hz18
  obtain ⟨_, _, rfl, s5_, l5_⟩ := shapeL_cons l4_
  obtain ⟨m22, rows23, rfl, hl24, hr25⟩ := shape_slice Tryd.underlying24 s5_
  obtain ⟨zs26, rfl, hz27⟩ := rows_choose (f := fun z : (List Int) => [.ds (Tryd.prog.cellsOf 3) (List.flatten (List.map (fun z : Int => [di .i64 z]) z))]) (Q := fun z => (z.length ≤ maxLen ∧ ∀ x ∈ z, (fun z => (lo .i64 ≤ z ∧ z ≤ hi .i64)) x)) (fun r hr => by
    have y28 := hr25 r hr
    obtain ⟨m29, rows30, rfl, hl31, hr32⟩ := shape_slice Tryd.underlying23 y28
    obtain ⟨zs33, rfl, hz34⟩ := rows_choose (f := fun z : Int => [di .i64 z]) (Q := fun z => (lo .i64 ≤ z ∧ z ≤ hi .i64)) (fun r hr => by
      have y35 := hr32 r hr
      obtain ⟨a36, rfl, fa36⟩ := shape_int Tryd.underlying3 y35
      exact ⟨a36, rfl, fa36⟩)
    simp only [List.length_map] at hl31
    have F37 := And.intro hl31 hz34
    exact ⟨zs33, rfl, F37⟩)
  simp only [List.length_map] at hl24
  have F38 := And.intro hl24 hz27
  obtain ⟨_, _, rfl, s6_, l6_⟩ := shapeL_cons l5_
  obtain ⟨mk, rows_, hmk, rfl, hlk, hrk⟩ := shape_sliceR Tryd.underlying25 s6_
  obtain ⟨zk, rfl, hzk⟩ := rows_choose (f := Wk.c0_TImpl_Geom) (Q := Wk.WfG) (fun r hr => ih mk (by omega) r (hrk r hr))
  simp only [List.length_map] at hlk
  obtain rfl := shapeL_nil l6_
  refine ⟨.mk a1 a2 a3 zs8 zs17 zs26 zk, ?_, ?_⟩
  · simp only [cells3, cells23, cells27, cells28, flat1, Wk.c0_TImpl_Geom, Wk.cs_TImpl_Geom_eq, List.singleton_append, List.append_nil]
    simp only [flat_map]
  · simp only [Wk.WfG]; exact ⟨fa1, fa2, fa3, F12, F21, F38, hlk, Wk.wfGs_of hzk⟩
set_option maxRecDepth 100000 in
theorem lifted (os : Os) (started : os.Started) (H : Type) (enc : TypeId × Value → H) :
    ReturnsInHanded {} Tryd.checked os 3 .any (fun w args => (Rows.fnVerifyFlatSpec.pre enc Tryd.prog Tryd.f3 [] false w args ∧ laidMetH Tryd.prog Rows.fnVerifyFlatRow.laid w) ∧ sizedMet enc Tryd.prog Tryd.f3 (OpenSpec.ofChange Rows.fnVerifyFlatSpec) false w args) (Rows.fnVerifyFlatSpec.post enc Tryd.prog Tryd.f3 false true false false) := by
  refine returnsInHanded_of_change_and (C := Tryd.checked) (X := fun w _ => laidMetH Tryd.prog Rows.fnVerifyFlatRow.laid w) (fun _ _ _ hh h => h.of_heap hh) own started (by kernel_rfl) Tryd.func3
    (ChangeSpec.witness_shaped (enc := enc) (C := Tryd.checked) (os := os) (X := fun w _ => laidMetH Tryd.prog Rows.fnVerifyFlatRow.laid w) false (World.laidAll Tryd.prog os Rows.fnVerifyFlatRow.laid) #[.agg #[.int .i64 0, .int .i64 0, .int .i64 0, .slice none 0 0, .slice none 0 0, .slice none 0 0, .slice none 0 0], .float .f64 0] 8 (World.laidAll_os _ _ _)
      (World.shaped_of_ZipB (by kernel_rfl) (by kernel_rfl)) (by kernel_rfl) (by kernel_rfl) (by kernel_rfl)
      (by rw [MakeChecks.laidMetH_plain _ _ _ (by kernel_rfl)]; exact laidMet_laidAll _ (by kernel_rfl) (by kernel_rfl))) ?_
  intro W base args ds gs before hval0 hW _ _ hL _
  have hcnd := True.intro
  have hval : ∀ (j : Nat) t v, Tryd.f3.params[j]? = some t → args[j]? = some v → Value.okWide Tryd.prog W .any base t v := hval0
  have hW' := hW
  obtain ⟨p, q, hA0, hV, rfl, hfz, hnd⟩ := hW
  have hA : DataW.TrodAll enc Tryd.prog W 0 (fun _ => true) true Tryd.f3.params.toList args.toList ds p := hA0
  rw [Tryd.params3] at hA hval
  obtain ⟨v0, vs0, d0, ds0, p0, q0, hargs, rfl, rfl, h0, r0⟩ := trodAll_cons hA
  obtain ⟨v1, vs1, d1, ds1, p1, q1, rfl, rfl, rfl, h1, r1⟩ := trodAll_cons r0
  obtain ⟨rfl, rfl, rfl⟩ := trodAll_nil r1
  obtain rfl : args = #[v0, v1] := by cases args; simp_all
  obtain ⟨rfl, rfl⟩ := trodVars_none hV
  rw [MakeChecks.laidMetH_plain _ _ _ (by kernel_rfl)] at hL
  have hg0 := laid_err hL (n := "pub-orthodrome/pub/gogeom.errIncorrectEnd") (.head _) (by kernel_rfl : Tryd.prog.globalNamed "pub-orthodrome/pub/gogeom.errIncorrectEnd" = some 10) (by kernel_rfl : (Tryd.prog.globals[10]?).map (·.type) = some 57) (by kernel_rfl : Tryd.prog.underlying 57 = some (.interface (Tryd.prog.methodsAt 57)))
  have hg1 := laid_err hL (n := "pub-orthodrome/pub/gogeom.errLengthStrideMismatch") (.tail _ (.head _)) (by kernel_rfl : Tryd.prog.globalNamed "pub-orthodrome/pub/gogeom.errLengthStrideMismatch" = some 6) (by kernel_rfl : (Tryd.prog.globals[6]?).map (·.type) = some 57) (by kernel_rfl : Tryd.prog.underlying 57 = some (.interface (Tryd.prog.methodsAt 57)))
  have hg2 := laid_err hL (n := "pub-orthodrome/pub/gogeom.errMisalignedEnd") (.tail _ (.tail _ (.head _))) (by kernel_rfl : Tryd.prog.globalNamed "pub-orthodrome/pub/gogeom.errMisalignedEnd" = some 8) (by kernel_rfl : (Tryd.prog.globals[8]?).map (·.type) = some 57) (by kernel_rfl : Tryd.prog.underlying 57 = some (.interface (Tryd.prog.methodsAt 57)))
  have hg3 := laid_err hL (n := "pub-orthodrome/pub/gogeom.errNonEmptyEnds") (.tail _ (.tail _ (.tail _ (.head _)))) (by kernel_rfl : Tryd.prog.globalNamed "pub-orthodrome/pub/gogeom.errNonEmptyEnds" = some 7) (by kernel_rfl : (Tryd.prog.globals[7]?).map (·.type) = some 57) (by kernel_rfl : Tryd.prog.underlying 57 = some (.interface (Tryd.prog.methodsAt 57)))
  have hg4 := laid_err hL (n := "pub-orthodrome/pub/gogeom.errNonEmptyEndss") (.tail _ (.tail _ (.tail _ (.tail _ (.head _))))) (by kernel_rfl : Tryd.prog.globalNamed "pub-orthodrome/pub/gogeom.errNonEmptyEndss" = some 11) (by kernel_rfl : (Tryd.prog.globals[11]?).map (·.type) = some 57) (by kernel_rfl : Tryd.prog.underlying 57 = some (.interface (Tryd.prog.methodsAt 57)))
  have hg5 := laid_err hL (n := "pub-orthodrome/pub/gogeom.errNonEmptyFlatCoords") (.tail _ (.tail _ (.tail _ (.tail _ (.tail _ (.head _)))))) (by kernel_rfl : Tryd.prog.globalNamed "pub-orthodrome/pub/gogeom.errNonEmptyFlatCoords" = some 5) (by kernel_rfl : (Tryd.prog.globals[5]?).map (·.type) = some 57) (by kernel_rfl : Tryd.prog.underlying 57 = some (.interface (Tryd.prog.methodsAt 57)))
  have hg6 := laid_err hL (n := "pub-orthodrome/pub/gogeom.errOutOfOrderEnd") (.tail _ (.tail _ (.tail _ (.tail _ (.tail _ (.tail _ (.head _))))))) (by kernel_rfl : Tryd.prog.globalNamed "pub-orthodrome/pub/gogeom.errOutOfOrderEnd" = some 9) (by kernel_rfl : (Tryd.prog.globals[9]?).map (·.type) = some 57) (by kernel_rfl : Tryd.prog.underlying 57 = some (.interface (Tryd.prog.methodsAt 57)))
  have hg7 := laid_err hL (n := "pub-orthodrome/pub/gogeom.errStrideLayoutMismatch") (.tail _ (.tail _ (.tail _ (.tail _ (.tail _ (.tail _ (.tail _ (.head _)))))))) (by kernel_rfl : Tryd.prog.globalNamed "pub-orthodrome/pub/gogeom.errStrideLayoutMismatch" = some 4) (by kernel_rfl : (Tryd.prog.globals[4]?).map (·.type) = some 57) (by kernel_rfl : Tryd.prog.underlying 57 = some (.interface (Tryd.prog.methodsAt 57)))
  have hG : HoldsG W := by
   refine ⟨fun p hp => ?_, fun p hp => ?_⟩
   · skip
     exact absurd hp (by simp [Globs])
   · skip
     simp only [GlobsE, List.mem_cons, List.mem_nil_iff, or_false] at hp
     rcases hp with hp | hp
     · subst hp; exact hg0
     rcases hp with hp | hp
     · subst hp; exact hg1
     rcases hp with hp | hp
     · subst hp; exact hg2
     rcases hp with hp | hp
     · subst hp; exact hg3
     rcases hp with hp | hp
     · subst hp; exact hg4
     rcases hp with hp | hp
     · subst hp; exact hg5
     rcases hp with hp | hp
     · subst hp; exact hg6
     subst hp; exact hg7
  have lt0 : ∀ x ∈ p0, x.block < W.heap.size := by obtain ⟨m, hm⟩ := h0; exact DataW.trod_lt m _ _ _ hm
  obtain ⟨n0, x0, rep0, sh0⟩ := arg_structR [27, 3, 22, 28, 23, 24, 25] Tryd.underlying27 (by kernel_rfl) (by kernel_rfl) (hval 0 27 v0 rfl rfl) h0
  obtain ⟨g1, rfl, fg1⟩ := shape_rec27 _ _ sh0
  rw [Wk.c0_TImpl_Geom_eq] at rep0
  have lt1 : ∀ x ∈ p1, x.block < W.heap.size := by obtain ⟨m, hm⟩ := h1; exact DataW.trod_lt m _ _ _ hm
  obtain ⟨n1, x1, rep1, sh1⟩ := arg_one (k := 9) (by kernel_rfl) (by kernel_rfl) (hval 1 28 v1 rfl rfl) h1
  obtain ⟨a2, hx1, fa2⟩ := shape_float Tryd.underlying28 sh1
  simp only [List.cons.injEq, and_true] at hx1; subst hx1
  try simp only [cells3, cells23, cells27, cells28, flat1] at rep1
  clear hA0 hval0
  refine (FnD.law (vs := [v0, v1]) (Wk.w_FnVerifyFlat (Wk.gF g1 + 2147483660) g1 a2 true (Wk.law_verify fg1 (Nat.le_refl _) _)) hG rfl (rep_cons rep0 (rep_cons rep1 rep_nil))).mono fun e W' ⟨he, bel⟩ => ?_
  subst he
  exact ⟨_, rfl, _, _, _, [], _, [], hW', trodAll_mk1 (shut_bool Tryd.underlying4 _), (trodAll_cons_mk (Below.trod laidOut (by kernel_rfl) (of_decide_eq_true (by kernel_rfl)) h0 bel lt0) (trodAll_cons_mk (Below.trod laidOut (by kernel_rfl) (of_decide_eq_true (by kernel_rfl)) h1 bel lt1) trodAll_mk0)), rfl, bel.frame _, fun h => by cases h⟩
theorem over : Rows.fnVerifyFlatRow.holds Tryd.pinned (OpenSpec.ofChange Rows.fnVerifyFlatSpec) :=
  OpenClaim.holds_of_wide 3 Tryd.f3 rfl rfl rfl rfl rfl rfl rfl ⟨rfl, rfl, rfl, rfl, rfl⟩ rfl rfl rfl rfl rfl (by kernel_rfl) Tryd.func3 (by kernel_rfl)
    (of_decide_eq_true (by kernel_rfl)) (by unfold Func.isWrapper; first | (rw [if_pos (by decide +kernel)]; kernel_rfl) | (rw [if_neg (by decide +kernel)]; exact ⟨rfl, rfl⟩))
    (fun os started H enc _ => lifted os started H enc)
theorem proved : Rows.FnVerifyFlatCardSaid :=
  Claim7.holds_tied_plain_at .later [] [.sentinel, .sentinel, .sentinel, .sentinel, .sentinel, .sentinel, .sentinel, .sentinel] true (true, "d61227b57d242d2c5f0c9355fb08b4fc2239dde4114f486641d0ef0e6d50117f") true over (fun _ h => by cases h) (by kernel_rfl) (fun _ h => by cases h) fnVerifyFlat_row_tie rfl ⟨rfl, rfl⟩ (by kernel_rfl) rfl
    (fun f fn hf hfn => by
      obtain rfl : f = 3 := Option.some.inj ((show Tryd.prog.funcNamed "pub-orthodrome/laws.FnVerifyFlat" = some 3 by kernel_rfl).symm.trans hf) |>.symm
      obtain rfl : fn = Tryd.f3 := (Option.some.inj (Tryd.func3.symm.trans hfn)).symm
      exact ⟨by kernel_rfl, fun j t ht => by
        rw [Tryd.params3] at ht
        have hm : t ∈ [27, 28] := by simpa using Array.mem_of_getElem? ht
        have hall : ([27, 28].all fun u => !Tryd.prog.wantsStandIn u) = true := by kernel_rfl
        exact (show Tryd.prog.wantsStandIn t = false by simpa using List.all_eq_true.1 hall t hm)⟩)
    (by kernel_rfl)
#print axioms proved
end Go.Proofs.YtdpkjmoeapibnaaDoor.fnVerifyFlat
namespace Go.Proofs.YtdpkjmoeapibnaaDoor
/-- The row, under a short name, for the claim. -/
theorem fnVerifyFlat_holds : Rows.FnVerifyFlatCardSaid := fnVerifyFlat.proved
end Go.Proofs.YtdpkjmoeapibnaaDoor
