/- Proved: the law FnMatLines answers true at every input, and its input reads as it did. No condition beyond the statement's own. -/
import Derived.Test.YtiiibhcihbfmeaaDoorRows
import Derived.Test.YtiiibhcihbfmeaaDoorVmRow
import Derived.Test.YtiiibhcihbfmeaaDoorWMl
import Derived.Test.YtiiibhcihbfmeaaDoorVmArr
import Derived.Test.YtiiibhcihbfmeaaDoorMatL
import Derived.Test.YtiiibhcihbfmeaaDoorChecked
import Derived.Test.YtiiibhcihbfmeaaDoorVmLaid
import Derived.Test.YtiiibhcihbfmeaaDoorCards
import Derived.Test.YtiiibhcihbfmeaaDoorTie
import Derived.WalkKit
import Derived.ProofKit
import Derived.OpenShut
import Derived.ShutString
import Derived.ChangeOld
import Derived.Below
namespace Go.Proofs.YtiiibhcihbfmeaaDoor.fnMatLines
open Go.Vm
open Go.ChangeShapes Go.WideShapes Go.ChangeAt Go.RowKit
open Go.ChangeMaps (open_string shut_string)
set_option linter.unusedVariables false
theorem own : ownKnob Tryd.prog.godebug = none := by kernel_rfl
theorem laidOut : laidOutB Tryd.prog = true := by kernel_rfl

set_option maxRecDepth 100000 in
theorem lifted (os : Os) (started : os.Started) (H : Type) (enc : TypeId × Value → H) :
    ReturnsInHanded {} Tryd.checked os 3 .any (fun w args => (Rows.fnMatLinesSpec.pre enc Tryd.prog Tryd.f3 [] false w args ∧ laidMetH Tryd.prog Rows.fnMatLinesRow.laid w) ∧ sizedMet enc Tryd.prog Tryd.f3 (OpenSpec.ofChange Rows.fnMatLinesSpec) false w args) (Rows.fnMatLinesSpec.post enc Tryd.prog Tryd.f3 false true false false) := by
  refine returnsInHanded_of_change_and (C := Tryd.checked) (X := fun w _ => laidMetH Tryd.prog Rows.fnMatLinesRow.laid w) (fun _ _ _ hh h => h.of_heap hh) own started (by kernel_rfl) Tryd.func3
    (ChangeSpec.witness_shaped (enc := enc) (C := Tryd.checked) (os := os) (X := fun w _ => laidMetH Tryd.prog Rows.fnMatLinesRow.laid w) false (World.laidAll Tryd.prog os Rows.fnMatLinesRow.laid) #[.agg #[.float .f64 0, .float .f64 0, .float .f64 0, .float .f64 0, .float .f64 0, .float .f64 0, .float .f64 0, .float .f64 0, .float .f64 0], .int .i64 0] 8 (World.laidAll_os _ _ _)
      (World.shaped_of_ZipB (by kernel_rfl) (by kernel_rfl)) (by kernel_rfl) (by kernel_rfl) (by kernel_rfl)
      (by rw [MakeChecks.laidMetH_plain _ _ _ (by kernel_rfl)]; exact laidMet_laidAll _ (by kernel_rfl) (by kernel_rfl))) ?_
  intro W base args ds gs before hval0 hW _ _ hL _
  have hcnd := True.intro
  have hval : ∀ (j : Nat) t v, Tryd.f3.params[j]? = some t → args[j]? = some v → Value.okWide Tryd.prog W .any base t v := hval0
  have hW' := hW
  obtain ⟨p, q, hA0, hV, rfl, hfz, hnd⟩ := hW
  have hA : DataW.TrodAll enc Tryd.prog W 0 (fun _ => true) true Tryd.f3.params.toList args.toList ds p := hA0
  rw [Tryd.params3] at hA hval
  obtain ⟨v0, vs0, d0, ds0, p0, q0, hargs, rfl, rfl, h0, r0⟩ := trodAll_cons hA
  obtain ⟨v1, vs1, d1, ds1, p1, q1, rfl, rfl, rfl, h1, r1⟩ := trodAll_cons r0
  obtain ⟨rfl, rfl, rfl⟩ := trodAll_nil r1
  obtain rfl : args = #[v0, v1] := by cases args; simp_all
  obtain ⟨rfl, rfl⟩ := trodVars_none hV
  rw [MakeChecks.laidMetH_plain _ _ _ (by kernel_rfl)] at hL
  have hg0 := laid_str hL (n := "pub-orthodrome/pub/gonum/mat.ErrRowAccess") (bs := [109, 97, 116, 58, 32, 114, 111, 119, 32, 105, 110, 100, 101, 120, 32, 111, 117, 116, 32, 111, 102, 32, 114, 97, 110, 103, 101]) (.head _) (by kernel_rfl : Tryd.prog.globalNamed "pub-orthodrome/pub/gonum/mat.ErrRowAccess" = some 0) (by kernel_rfl : (Tryd.prog.globals[0]?).map (·.type) = some 59) Tryd.underlying59 Tryd.underlying9 rfl (by kernel_rfl) (by kernel_rfl)
  have hg1 := laid_str hL (n := "pub-orthodrome/pub/gonum/mat.ErrColAccess") (bs := [109, 97, 116, 58, 32, 99, 111, 108, 117, 109, 110, 32, 105, 110, 100, 101, 120, 32, 111, 117, 116, 32, 111, 102, 32, 114, 97, 110, 103, 101]) (.tail _ (.head _)) (by kernel_rfl : Tryd.prog.globalNamed "pub-orthodrome/pub/gonum/mat.ErrColAccess" = some 1) (by kernel_rfl : (Tryd.prog.globals[1]?).map (·.type) = some 59) Tryd.underlying59 Tryd.underlying9 rfl (by kernel_rfl) (by kernel_rfl)
  have hG : HoldsG W := by
   refine ⟨fun p hp => ?_, fun p hp => ?_⟩
   · skip
     simp only [Globs, List.mem_cons, List.mem_nil_iff, or_false] at hp
     rcases hp with hp | hp
     · subst hp; exact hg0
     subst hp; exact hg1
   · skip
     exact absurd hp (by simp [GlobsE])
  have lt0 : ∀ x ∈ p0, x.block < W.heap.size := by obtain ⟨m, hm⟩ := h0; exact DataW.trod_lt m _ _ _ hm
  obtain ⟨n0, x0, rep0, sh0⟩ := arg_array (k := 9) Tryd.underlying24 (by kernel_rfl) (hval 0 24 v0 rfl rfl) h0
  obtain ⟨m1, rows2, rfl, l3, hr4⟩ := shape_array Tryd.underlying24 sh0
  obtain ⟨_, rows8, rfl, s5, l6, hr7⟩ := arr_cons l3 hr4
  obtain ⟨a9, rfl, fa9⟩ := shape_float Tryd.underlying22 s5
  obtain ⟨_, rows13, rfl, s10, l11, hr12⟩ := arr_cons l6 hr7
  obtain ⟨a14, rfl, fa14⟩ := shape_float Tryd.underlying22 s10
  obtain ⟨_, rows18, rfl, s15, l16, hr17⟩ := arr_cons l11 hr12
  obtain ⟨a19, rfl, fa19⟩ := shape_float Tryd.underlying22 s15
  obtain ⟨_, rows23, rfl, s20, l21, hr22⟩ := arr_cons l16 hr17
  obtain ⟨a24, rfl, fa24⟩ := shape_float Tryd.underlying22 s20
  obtain ⟨_, rows28, rfl, s25, l26, hr27⟩ := arr_cons l21 hr22
  obtain ⟨a29, rfl, fa29⟩ := shape_float Tryd.underlying22 s25
  obtain ⟨_, rows33, rfl, s30, l31, hr32⟩ := arr_cons l26 hr27
  obtain ⟨a34, rfl, fa34⟩ := shape_float Tryd.underlying22 s30
  obtain ⟨_, rows38, rfl, s35, l36, hr37⟩ := arr_cons l31 hr32
  obtain ⟨a39, rfl, fa39⟩ := shape_float Tryd.underlying22 s35
  obtain ⟨_, rows43, rfl, s40, l41, hr42⟩ := arr_cons l36 hr37
  obtain ⟨a44, rfl, fa44⟩ := shape_float Tryd.underlying22 s40
  obtain ⟨_, rows48, rfl, s45, l46, hr47⟩ := arr_cons l41 hr42
  obtain ⟨a49, rfl, fa49⟩ := shape_float Tryd.underlying22 s45
  obtain rfl := List.eq_nil_of_length_eq_zero l46
  have lt1 : ∀ x ∈ p1, x.block < W.heap.size := by obtain ⟨m, hm⟩ := h1; exact DataW.trod_lt m _ _ _ hm
  obtain ⟨n1, x1, rep1, sh1⟩ := arg_one (k := 9) (by kernel_rfl) (by kernel_rfl) (hval 1 3 v1 rfl rfl) h1
  obtain ⟨a50, hx1, fa50⟩ := shape_int Tryd.underlying3 sh1
  simp only [List.cons.injEq, and_true] at hx1; subst hx1
  clear hA0 hval0
  refine (FnD.law (vs := [v0, v1]) (Wk.w_FnMatLines 1073741826 ⟨a9, a14, a19, a24, a29, a34, a39, a44, a49⟩ a50 true (Wk.law_mlines (Nat.le_refl _) _ _ fa50.1)) hG rfl (rep_cons rep0 (rep_cons rep1 rep_nil))).mono fun e W' ⟨he, bel⟩ => ?_
  subst he
  exact ⟨_, rfl, _, _, _, [], _, [], hW', trodAll_mk1 (shut_bool Tryd.underlying4 _), (trodAll_cons_mk (Below.trod laidOut (by kernel_rfl) (of_decide_eq_true (by kernel_rfl)) h0 bel lt0) (trodAll_cons_mk (Below.trod laidOut (by kernel_rfl) (of_decide_eq_true (by kernel_rfl)) h1 bel lt1) trodAll_mk0)), rfl, bel.frame _, fun h => by cases h⟩
theorem over : Rows.fnMatLinesRow.holds Tryd.pinned (OpenSpec.ofChange Rows.fnMatLinesSpec) :=
  OpenClaim.holds_of_wide 3 Tryd.f3 rfl rfl rfl rfl rfl rfl rfl ⟨rfl, rfl, rfl, rfl, rfl⟩ rfl rfl rfl rfl rfl (by kernel_rfl) Tryd.func3 (by kernel_rfl)
    (of_decide_eq_true (by kernel_rfl)) (by unfold Func.isWrapper; first | (rw [if_pos (by decide +kernel)]; kernel_rfl) | (rw [if_neg (by decide +kernel)]; exact ⟨rfl, rfl⟩))
    (fun os started H enc _ => lifted os started H enc)
theorem proved : Rows.FnMatLinesCardSaid :=
  Claim7.holds_tied_plain_at .later [] [.data, .data, .data] true (true, "681a0f5b7d0531f49f6caa30d5964ee64c88a1fec7487590b69a9e6f9e138623") false over (fun _ h => by cases h) (by kernel_rfl) (fun _ h => by cases h) fnMatLines_row_tie rfl ⟨rfl, rfl⟩ (by kernel_rfl) rfl
    (fun f fn hf hfn => by
      obtain rfl : f = 3 := Option.some.inj ((show Tryd.prog.funcNamed "pub-orthodrome/laws.FnMatLines" = some 3 by kernel_rfl).symm.trans hf) |>.symm
      obtain rfl : fn = Tryd.f3 := (Option.some.inj (Tryd.func3.symm.trans hfn)).symm
      exact ⟨by kernel_rfl, fun j t ht => by
        rw [Tryd.params3] at ht
        have hm : t ∈ [24, 3] := by simpa using Array.mem_of_getElem? ht
        have hall : ([24, 3].all fun u => !Tryd.prog.wantsStandIn u) = true := by kernel_rfl
        exact (show Tryd.prog.wantsStandIn t = false by simpa using List.all_eq_true.1 hall t hm)⟩)
    (by kernel_rfl)
#print axioms proved
end Go.Proofs.YtiiibhcihbfmeaaDoor.fnMatLines
namespace Go.Proofs.YtiiibhcihbfmeaaDoor
/-- The row, under a short name, for the claim. -/
theorem fnMatLines_holds : Rows.FnMatLinesCardSaid := fnMatLines.proved
end Go.Proofs.YtiiibhcihbfmeaaDoor
