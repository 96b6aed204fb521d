/- Proved: more of it. -/
import Derived.Test.YtkajoiehicpnlaaDoorWHt_1
namespace Go.Proofs.YtkajoiehicpnlaaDoor.Wk
open Go.Vm
set_option linter.unusedVariables false
set_option linter.unusedSimpArgs false
set_option maxRecDepth 100000 in
set_option maxHeartbeats 1000000 in
/-- pub-orthodrome/impl.HCoord -/
theorem w_HCoord_c3 (F : Nat) (a0 : Int) (a1 : Int) (a2 : Int) (r0 : ((List Int) × Bool)) (h0 : p_HCoord F a0 a1 a2 = some r0) (hp0 : (decide (a0 = (2 : Int))) = false) (hp1 : (decide (a0 = (3 : Int))) = false) (hp2 : (decide (a0 = (4 : Int))) = false) : FnD Tryd.prog 9 [di .i64 a0, di .i64 a1, di .i64 a2] (fun r => r = .tu [eS0 r0.1, dbool r0.2]) := by
  refine FnD.wrap (g := 19) (m := 2) (fun vs w h => idle19 vs w h) (by kernel_rfl) Tryd.func9 rfl Tryd.ntmps9 rfl (leb rfl) fun W ok => ?_
  unfold p_HCoord at h0
  refine AW.seq ?_
  refine AC.region ?_
  refine AO.op rfl (AOp.alloc rfl rfl (ltb rfl) zero25 rfl ?_)
  refine AO.op rfl (AOp.alloc rfl rfl (ltb rfl) zero4 rfl ?_)
  refine AO.nil ?_
  refine ⟨rfl, ?_⟩
  refine AW.defer (caps := [.tmp 6, .tmp 7]) rfl rfl rfl (ltb rfl) rfl rfl rfl rfl (by kernel_rfl) rfl fun df => ?_
  refine AC.seq ?_
  refine AC.seq ?_
  refine AC.region ?_
  refine AO.op rfl (AOp.move rfl rfl (ltb rfl) rfl ?_)
  refine AO.nil ?_
  change AC _ _ _ _
  refine AC.block ?_
  refine AC.seq ?_
  refine AC.region ?_
  refine AO.op rfl (AOp.ieql rfl rfl (ltb rfl) rfl rfl ?_)
  refine AO.op rfl (AOp.assign rfl rfl (ltb rfl) rfl ?_)
  refine AO.nil ?_
  change AC _ _ _ _
  refine AC.cond rfl (fun q1 => ?_) (fun q1 => ?_)
  · exact absurd (hp0.symm.trans q1) (by decide)
  replace h0 := cF h0 q1
  refine AC.seq ?_
  refine AC.region ?_
  refine AO.op rfl (AOp.ieql rfl rfl (ltb rfl) rfl rfl ?_)
  refine AO.op rfl (AOp.assign rfl rfl (ltb rfl) rfl ?_)
  refine AO.nil ?_
  change AC _ _ _ _
  refine AC.cond rfl (fun q102 => ?_) (fun q102 => ?_)
  · exact absurd (hp1.symm.trans q102) (by decide)
  replace h0 := cF h0 q102
  refine AC.seq ?_
  refine AC.region ?_
  refine AO.op rfl (AOp.ieql rfl rfl (ltb rfl) rfl rfl ?_)
  refine AO.op rfl (AOp.assign rfl rfl (ltb rfl) rfl ?_)
  refine AO.nil ?_
  change AC _ _ _ _
  refine AC.cond rfl (fun q420 => ?_) (fun q420 => ?_)
  · exact absurd (hp2.symm.trans q420) (by decide)
  replace h0 := cF h0 q420
  refine AC.skip ?_
  change AC _ _ _ _
  refine AC.seq ?_
  refine AC.region ?_
  refine AO.op rfl (AOp.store rfl rfl rfl rfl size25 rfl rfl rfl (leb rfl) ?_)
  refine AO.op rfl (AOp.store rfl rfl rfl rfl size4 rfl rfl rfl (leb rfl) ?_)
  refine AO.nil ?_
  change AC _ _ _ _
  refine AC.subO 0 rfl (.cons (SVLe.nil 1) .nil) ?_
  refine AC.ret ?_
  change RetQ _ _ _ .ret _
  obtain rfl := Option.some.inj h0
  refine retq rfl rfl

set_option maxRecDepth 100000 in
set_option maxHeartbeats 1000000 in
/-- pub-orthodrome/impl.HCoord -/
theorem w_HCoord (F : Nat) (a0 : Int) (a1 : Int) (a2 : Int) (r0 : ((List Int) × Bool)) (h0 : p_HCoord F a0 a1 a2 = some r0) : FnD Tryd.prog 9 [di .i64 a0, di .i64 a1, di .i64 a2] (fun r => r = .tu [eS0 r0.1, dbool r0.2]) := by
  rcases Bool.eq_false_or_eq_true (decide (a0 = (2 : Int))) with hp0 | hp0
  · exact w_HCoord_c0 F a0 a1 a2 r0 h0 hp0
  rcases Bool.eq_false_or_eq_true (decide (a0 = (3 : Int))) with hp1 | hp1
  · exact w_HCoord_c1 F a0 a1 a2 r0 h0 hp0 hp1
  rcases Bool.eq_false_or_eq_true (decide (a0 = (4 : Int))) with hp2 | hp2
  · exact w_HCoord_c2 F a0 a1 a2 r0 h0 hp0 hp1 hp2
  exact w_HCoord_c3 F a0 a1 a2 r0 h0 hp0 hp1 hp2

set_option maxRecDepth 100000 in
set_option maxHeartbeats 1000000 in
/-- pub-orthodrome/laws.FnHilbertSteps -/
theorem w_FnHilbertSteps (F : Nat) (a0 : Int) (a1 : Int) (a2 : Int) (r0 : Bool) (h0 : p_FnHilbertSteps F a0 a1 a2 = some r0) : FnD Tryd.prog 4 [di .i64 a0, di .i64 a1, di .i64 a2] (fun r => r = dbool r0) := by
  refine FnD.of (by kernel_rfl) Tryd.func4 rfl Tryd.ntmps4 rfl (leb rfl) fun W ok => ?_
  unfold p_FnHilbertSteps at h0
  refine AC.seq ?_
  refine AC.region ?_
  refine AO.op rfl (AOp.assign rfl rfl (ltb rfl) rfl ?_)
  refine AO.nil ?_
  change AC _ _ _ _
  refine AC.seq ?_
  refine AC.joinP (V := Bool) [0, 1, 2] [30] 0 (fun g1 => [(30, .d (dbool g1))]) (fun g1 => []) (fun g1 => (p_FnHilbertSteps_k1 a0 a1 a2 F) g1 = some r0) rfl ?_ ?_
  · refine AC.region ?_
    refine AO.op rfl (AOp.move rfl rfl (ltb rfl) rfl ?_)
    refine AO.op rfl (AOp.move rfl rfl (ltb rfl) rfl ?_)
    obtain ⟨y28, q29, h0⟩ := bind_elim h0
    refine AO.op rfl (AOp.callD rfl rfl (ltb rfl) rfl rfl (w_curved a0 a1 y28 q29) ?_)
    rintro _ rfl
    refine AO.op rfl (AOp.bnot rfl rfl (ltb rfl) rfl ?_)
    refine AO.op rfl (AOp.move rfl rfl (ltb rfl) rfl ?_)
    refine AO.dec (!y28) (fun q30 => ?_) (fun q30 => ?_)
    · replace h0 := cT h0 q30
      refine AO.guardN rfl rfl rfl (ltb rfl) rfl q30 ?_
      refine AO.guardN rfl rfl rfl (ltb rfl) rfl q30 ?_
      refine AO.op rfl (AOp.pick rfl rfl (ltb rfl) rfl q30 rfl ?_)
      refine AO.op rfl (AOp.move rfl rfl (ltb rfl) rfl ?_)
      refine AO.guardN rfl rfl rfl (ltb rfl) rfl rfl ?_
      refine AO.guardN rfl rfl rfl (ltb rfl) rfl rfl ?_
      refine AO.guardN rfl rfl rfl (ltb rfl) rfl rfl ?_
      refine AO.guardN rfl rfl rfl (ltb rfl) rfl rfl ?_
      refine AO.guardN rfl rfl rfl (ltb rfl) rfl rfl ?_
      refine AO.guardN rfl rfl rfl (ltb rfl) rfl rfl ?_
      refine AO.guardN rfl rfl rfl (ltb rfl) rfl rfl ?_
      refine AO.op rfl (AOp.pick rfl rfl (ltb rfl) rfl rfl rfl ?_)
      refine AO.nil ?_
      exact ⟨true, _, rfl, (LeL.refl _), rfl, rfl, h0⟩
    replace h0 := cF h0 q30
    refine AO.guardY rfl rfl rfl q30 (AOp.move rfl rfl (ltb rfl) rfl ?_)
    refine AO.guardY rfl rfl rfl q30 (AOp.ilss rfl rfl (ltb rfl) rfl rfl ?_)
    refine AO.op rfl (AOp.pickN rfl rfl (ltb rfl) rfl q30 rfl ?_)
    refine AO.op rfl (AOp.move rfl rfl (ltb rfl) rfl ?_)
    refine AO.dec (decide (a2 < (0 : Int))) (fun q31 => ?_) (fun q31 => ?_)
    · replace h0 := cT h0 q31
      refine AO.guardN rfl rfl rfl (ltb rfl) rfl q31 ?_
      refine AO.guardN rfl rfl rfl (ltb rfl) rfl q31 ?_
      refine AO.guardN rfl rfl rfl (ltb rfl) rfl q31 ?_
      refine AO.guardN rfl rfl rfl (ltb rfl) rfl q31 ?_
      refine AO.guardN rfl rfl rfl (ltb rfl) rfl q31 ?_
      refine AO.guardN rfl rfl rfl (ltb rfl) rfl q31 ?_
      refine AO.guardN rfl rfl rfl (ltb rfl) rfl q31 ?_
      refine AO.op rfl (AOp.pick rfl rfl (ltb rfl) rfl q31 rfl ?_)
      refine AO.nil ?_
      exact ⟨true, _, rfl, (LeL.refl _), rfl, rfl, h0⟩
    replace h0 := cF h0 q31
    refine AO.guardY rfl rfl rfl q31 (AOp.move rfl rfl (ltb rfl) rfl ?_)
    refine AO.guardY rfl rfl rfl q31 (AOp.move rfl rfl (ltb rfl) rfl ?_)
    refine AO.guardY rfl rfl rfl q31 (AOp.move rfl rfl (ltb rfl) rfl ?_)
    obtain ⟨q32, h0⟩ := need_elim h0
    refine AO.guardY rfl rfl rfl q31 (AOp.imul rfl rfl (ltb rfl) rfl rfl rfl q32.1 q32.2 ?_)
    obtain ⟨q33, h0⟩ := need_elim h0
    refine AO.guardY rfl rfl rfl q31 (AOp.ishl' rfl rfl (ltb rfl) rfl rfl q33 ?_)
    obtain ⟨q34, h0⟩ := need_elim h0
    refine AO.guardY rfl rfl rfl q31 (AOp.isub rfl rfl (ltb rfl) rfl rfl rfl q34.1 q34.2 ?_)
    refine AO.guardY rfl rfl rfl q31 (AOp.igeq rfl rfl (ltb rfl) rfl rfl ?_)
    refine AO.op rfl (AOp.pickN rfl rfl (ltb rfl) rfl q31 rfl ?_)
    refine AO.nil ?_
    exact ⟨(decide (((IntKind.i64.wrap ((1 : Int) * 2 ^ ((a0 * a1)).toNat)) - (1 : Int)) ≤ a2)), _, rfl, (LeL.refl _), rfl, rfl, h0⟩
  intro g1 h0
  unfold p_FnHilbertSteps_k1 at h0
  refine AC.cond rfl (fun q2 => ?_) (fun q2 => ?_)
  · replace h0 := cT h0 q2
    refine AC.seq ?_
    refine AC.region ?_
    refine AO.op rfl (AOp.assign rfl rfl (ltb rfl) rfl ?_)
    refine AO.nil ?_
    change AC _ _ _ _
    refine AC.ret ?_
    change RetQ _ _ _ .ret _
    obtain rfl := Option.some.inj h0
    refine retq rfl rfl
  replace h0 := cF h0 q2
  refine AC.skip ?_
  change AC _ _ _ _
  refine AC.seq ?_
  refine AC.region ?_
  refine AO.op rfl (AOp.move rfl rfl (ltb rfl) rfl ?_)
  refine AO.op rfl (AOp.move rfl rfl (ltb rfl) rfl ?_)
  refine AO.op rfl (AOp.move rfl rfl (ltb rfl) rfl ?_)
  obtain ⟨y3, q4, h0⟩ := bind_elim h0
  refine AO.op rfl (AOp.callD rfl rfl (ltb rfl) rfl rfl (w_HCoord F a0 a1 a2 y3 q4) ?_)
  rintro _ rfl
  refine AO.op rfl (AOp.move rfl rfl (ltb rfl) rfl ?_)
  first | refine AO.op rfl (AOp.extractD rfl rfl (ltb rfl) rfl rfl ?_) | refine AO.op rfl (AOp.extract rfl rfl (ltb rfl) rfl rfl ?_)
  first | refine AO.op rfl (AOp.extractD rfl rfl (ltb rfl) rfl rfl ?_) | refine AO.op rfl (AOp.extract rfl rfl (ltb rfl) rfl rfl ?_)
  refine AO.op rfl (AOp.assign rfl rfl (ltb rfl) rfl ?_)
  refine AO.op rfl (AOp.assign rfl rfl (ltb rfl) rfl ?_)
  refine AO.nil ?_
  change AC _ _ _ _
  refine AC.seq ?_
  refine AC.region ?_
  refine AO.op rfl (AOp.move rfl rfl (ltb rfl) rfl ?_)
  refine AO.op rfl (AOp.move rfl rfl (ltb rfl) rfl ?_)
  refine AO.op rfl (AOp.move rfl rfl (ltb rfl) rfl ?_)
  obtain ⟨q5, h0⟩ := need_elim h0
  refine AO.op rfl (AOp.iadd rfl rfl (ltb rfl) rfl rfl rfl q5.1 q5.2 ?_)
  obtain ⟨y6, q7, h0⟩ := bind_elim h0
  refine AO.op rfl (AOp.callD rfl rfl (ltb rfl) rfl rfl (w_HCoord F a0 a1 (a2 + (1 : Int)) y6 q7) ?_)
  rintro _ rfl
  refine AO.op rfl (AOp.move rfl rfl (ltb rfl) rfl ?_)
  first | refine AO.op rfl (AOp.extractD rfl rfl (ltb rfl) rfl rfl ?_) | refine AO.op rfl (AOp.extract rfl rfl (ltb rfl) rfl rfl ?_)
  first | refine AO.op rfl (AOp.extractD rfl rfl (ltb rfl) rfl rfl ?_) | refine AO.op rfl (AOp.extract rfl rfl (ltb rfl) rfl rfl ?_)
  refine AO.op rfl (AOp.assign rfl rfl (ltb rfl) rfl ?_)
  refine AO.op rfl (AOp.assign rfl rfl (ltb rfl) rfl ?_)
  refine AO.nil ?_
  change AC _ _ _ _
  refine AC.seq ?_
  refine AC.joinP (V := Bool) [7, 9] [63] 0 (fun g8 => [(63, .d (dbool g8))]) (fun g8 => []) (fun g8 => (p_FnHilbertSteps_k2 F y3 y6) g8 = some r0) rfl ?_ ?_
  · refine AC.region ?_
    refine AO.op rfl (AOp.move rfl rfl (ltb rfl) rfl ?_)
    refine AO.op rfl (AOp.bnot rfl rfl (ltb rfl) rfl ?_)
    refine AO.op rfl (AOp.move rfl rfl (ltb rfl) rfl ?_)
    refine AO.dec (!y3.2) (fun q25 => ?_) (fun q25 => ?_)
    · replace h0 := cT h0 q25
      refine AO.guardN rfl rfl rfl (ltb rfl) rfl q25 ?_
      refine AO.guardN rfl rfl rfl (ltb rfl) rfl q25 ?_
      refine AO.op rfl (AOp.pick rfl rfl (ltb rfl) rfl q25 rfl ?_)
      refine AO.op rfl (AOp.move rfl rfl (ltb rfl) rfl ?_)
      refine AO.guardN rfl rfl rfl (ltb rfl) rfl rfl ?_
      refine AO.guardN rfl rfl rfl (ltb rfl) rfl rfl ?_
      refine AO.guardN rfl rfl rfl (ltb rfl) rfl rfl ?_
      refine AO.guardN rfl rfl rfl (ltb rfl) rfl rfl ?_
      refine AO.op rfl (AOp.pick rfl rfl (ltb rfl) rfl rfl rfl ?_)
      refine AO.op rfl (AOp.move rfl rfl (ltb rfl) rfl ?_)
      refine AO.guardN rfl rfl rfl (ltb rfl) rfl rfl ?_
      refine AO.guardN rfl rfl rfl (ltb rfl) rfl rfl ?_
      refine AO.guardN rfl rfl rfl (ltb rfl) rfl rfl ?_
      refine AO.guardN rfl rfl rfl (ltb rfl) rfl rfl ?_
      refine AO.op rfl (AOp.pick rfl rfl (ltb rfl) rfl rfl rfl ?_)
      refine AO.nil ?_
      exact ⟨true, _, rfl, (LeL.refl _), rfl, rfl, h0⟩
    replace h0 := cF h0 q25
    refine AO.guardY rfl rfl rfl q25 (AOp.move rfl rfl (ltb rfl) rfl ?_)
    refine AO.guardY rfl rfl rfl q25 (AOp.bnot rfl rfl (ltb rfl) rfl ?_)
    refine AO.op rfl (AOp.pickN rfl rfl (ltb rfl) rfl q25 rfl ?_)
    refine AO.op rfl (AOp.move rfl rfl (ltb rfl) rfl ?_)
    refine AO.dec (!y6.2) (fun q26 => ?_) (fun q26 => ?_)
    · replace h0 := cT h0 q26
      refine AO.guardN rfl rfl rfl (ltb rfl) rfl q26 ?_
      refine AO.guardN rfl rfl rfl (ltb rfl) rfl q26 ?_
      refine AO.guardN rfl rfl rfl (ltb rfl) rfl q26 ?_
      refine AO.guardN rfl rfl rfl (ltb rfl) rfl q26 ?_
      refine AO.op rfl (AOp.pick rfl rfl (ltb rfl) rfl q26 rfl ?_)
      refine AO.op rfl (AOp.move rfl rfl (ltb rfl) rfl ?_)
      refine AO.guardN rfl rfl rfl (ltb rfl) rfl rfl ?_
      refine AO.guardN rfl rfl rfl (ltb rfl) rfl rfl ?_
      refine AO.guardN rfl rfl rfl (ltb rfl) rfl rfl ?_
      refine AO.guardN rfl rfl rfl (ltb rfl) rfl rfl ?_
      refine AO.op rfl (AOp.pick rfl rfl (ltb rfl) rfl rfl rfl ?_)
      refine AO.nil ?_
      exact ⟨true, _, rfl, (LeL.refl _), rfl, rfl, h0⟩
    replace h0 := cF h0 q26
    refine AO.guardY rfl rfl rfl q26 (AOp.move rfl rfl (ltb rfl) rfl ?_)
    refine AO.guardY rfl rfl rfl q26 (AOp.lenDs (n := y3.1.length) (cells := (List.map keS0 y3.1)) rfl rfl (ltb rfl) rfl el25 (by decide) (len1 _ _) ?_)
    refine AO.guardY rfl rfl rfl q26 (AOp.move rfl rfl (ltb rfl) rfl ?_)
    refine AO.guardY rfl rfl rfl q26 (AOp.ineq rfl rfl (ltb rfl) rfl rfl ?_)
    refine AO.op rfl (AOp.pickN rfl rfl (ltb rfl) rfl q26 rfl ?_)
    refine AO.op rfl (AOp.move rfl rfl (ltb rfl) rfl ?_)
    refine AO.dec (!decide (((y3.1.length : Nat) : Int) = a0)) (fun q27 => ?_) (fun q27 => ?_)
    · replace h0 := cT h0 q27
      refine AO.guardN rfl rfl rfl (ltb rfl) rfl q27 ?_
      refine AO.guardN rfl rfl rfl (ltb rfl) rfl q27 ?_
      refine AO.guardN rfl rfl rfl (ltb rfl) rfl q27 ?_
      refine AO.guardN rfl rfl rfl (ltb rfl) rfl q27 ?_
      refine AO.op rfl (AOp.pick rfl rfl (ltb rfl) rfl q27 rfl ?_)
      refine AO.nil ?_
      exact ⟨true, _, rfl, (LeL.refl _), rfl, rfl, h0⟩
    replace h0 := cF h0 q27
    refine AO.guardY rfl rfl rfl q27 (AOp.move rfl rfl (ltb rfl) rfl ?_)
    refine AO.guardY rfl rfl rfl q27 (AOp.lenDs (n := y6.1.length) (cells := (List.map keS0 y6.1)) rfl rfl (ltb rfl) rfl el25 (by decide) (len1 _ _) ?_)
    refine AO.guardY rfl rfl rfl q27 (AOp.move rfl rfl (ltb rfl) rfl ?_)
    refine AO.guardY rfl rfl rfl q27 (AOp.ineq rfl rfl (ltb rfl) rfl rfl ?_)
    refine AO.op rfl (AOp.pickN rfl rfl (ltb rfl) rfl q27 rfl ?_)
    refine AO.nil ?_
    exact ⟨(!decide (((y6.1.length : Nat) : Int) = a0)), _, rfl, (LeL.refl _), rfl, rfl, h0⟩
  intro g8 h0
  unfold p_FnHilbertSteps_k2 at h0
  refine AC.cond rfl (fun q9 => ?_) (fun q9 => ?_)
  · replace h0 := cT h0 q9
    refine AC.seq ?_
    refine AC.region ?_
    refine AO.op rfl (AOp.assign rfl rfl (ltb rfl) rfl ?_)
    refine AO.nil ?_
    change AC _ _ _ _
    refine AC.ret ?_
    change RetQ _ _ _ .ret _
    obtain rfl := Option.some.inj h0
    refine retq rfl rfl
  replace h0 := cF h0 q9
  refine AC.skip ?_
  change AC _ _ _ _
  refine AC.seq ?_
  refine AC.region ?_
  refine AO.op rfl (AOp.assign rfl rfl (ltb rfl) rfl ?_)
  refine AO.nil ?_
  change AC _ _ _ _
  refine AC.seq ?_
  refine AC.seq ?_
  refine AC.region ?_
  refine AO.op rfl (AOp.move rfl rfl (ltb rfl) rfl ?_)
  refine AO.op rfl (AOp.lenDs (n := y3.1.length) (cells := (List.map keS0 y3.1)) rfl rfl (ltb rfl) rfl el25 (by decide) (len1 _ _) ?_)
  refine AO.op rfl (AOp.move rfl rfl (ltb rfl) rfl ?_)
  refine AO.nil ?_
  change AC _ _ _ _
  obtain ⟨o10, l11, h0⟩ := bind_elim h0
  refine AC.joinE (V := Int) [] [11] 0 (fun g12 => [(11, .d (di .i64 g12))]) (fun g12 => []) (fun g12 => p_FnHilbertSteps_k3 g12 = some r0) rfl ?_ ?_
  · refine AC.block ?_
    refine AC.loopP (V := (Int × Int)) (p_FnHilbertSteps_l4 y3 y6) o10 [7, 9, 65] [11, 66] 0 (fun g13 => [(11, .d (di .i64 g13.1)), (66, .d (di .i64 g13.2))]) (fun g13 => []) F ((0 : Int), (0 : Int)) l11 rfl rfl (LeL.refl _) rfl rfl ?_
    intro n15 g13 h1
    unfold p_FnHilbertSteps_l4 at h1
    refine AC.seq ?_
    refine AC.region ?_
    refine AO.op rfl (AOp.ilss rfl rfl (ltb rfl) rfl rfl ?_)
    refine AO.nil ?_
    change AC _ _ _ _
    refine AC.seq ?_
    refine AC.cond rfl (fun q16 => ?_) (fun q16 => ?_)
    · replace h1 := cT h1 q16
      refine AC.skip ?_
      change AC _ _ _ _
      refine AC.seq ?_
      refine AC.block ?_
      refine AC.seq ?_
      refine AC.region ?_
      refine AO.op rfl (AOp.move rfl rfl (ltb rfl) rfl ?_)
      refine AO.op rfl (AOp.assign rfl rfl (ltb rfl) rfl ?_)
      refine AO.nil ?_
      change AC _ _ _ _
      refine AC.seq ?_
      refine AC.draw 10 mixed (by kernel_rfl) ?_
      refine AD.op [7] rfl (by kernel_rfl) rfl rfl (fun _ _ h => AOp.move rfl rfl (ltb rfl) rfl h) ?_
      refine AD.op [12] rfl (by kernel_rfl) rfl rfl (fun _ _ h => AOp.move rfl rfl (ltb rfl) rfl h) ?_
      obtain ⟨x17, q18, h1⟩ := idx_elim h1
      refine AD.op [69, 70] rfl (by kernel_rfl) rfl rfl (fun _ _ h => AOp.indexDs (cells := (List.map keS0 y3.1)) rfl rfl (ltb rfl) rfl rfl el25 (by decide) q18.1 (lt1 q18.2) h) ?_
      refine AD.op [71] rfl (by kernel_rfl) rfl rfl (fun _ _ h => AOp.loadEp rfl rfl (ltb rfl) rfl agg3 (at1 q18.2) h) ?_
      refine AD.op [9] rfl (by kernel_rfl) rfl rfl (fun _ _ h => AOp.move rfl rfl (ltb rfl) rfl h) ?_
      refine AD.op [12] rfl (by kernel_rfl) rfl rfl (fun _ _ h => AOp.move rfl rfl (ltb rfl) rfl h) ?_
      obtain ⟨x19, q20, h1⟩ := idx_elim h1
      refine AD.op [73, 74] rfl (by kernel_rfl) rfl rfl (fun _ _ h => AOp.indexDs (cells := (List.map keS0 y6.1)) rfl rfl (ltb rfl) rfl rfl el25 (by decide) q20.1 (lt1 q20.2) h) ?_
      refine AD.op [75] rfl (by kernel_rfl) rfl rfl (fun _ _ h => AOp.loadEp rfl rfl (ltb rfl) rfl agg3 (at1 q20.2) h) ?_
      obtain ⟨q21, h1⟩ := need_elim h1
      refine AD.op [72, 76] rfl (by kernel_rfl) rfl rfl (fun _ _ h => AOp.isub rfl rfl (ltb rfl) rfl rfl rfl q21.1 q21.2 h) ?_
      refine AD.op [77] rfl (by kernel_rfl) rfl rfl (fun _ _ h => AOp.assign rfl rfl (ltb rfl) rfl h) ?_
      refine AD.done ?_
      refine AO.nil ?_
      change AC _ _ _ _
      refine AC.region ?_
      refine AO.op rfl (AOp.move rfl rfl (ltb rfl) rfl ?_)
      refine AO.op rfl (AOp.move rfl rfl (ltb rfl) rfl ?_)
      refine AO.op rfl (AOp.move rfl rfl (ltb rfl) rfl ?_)
      obtain ⟨q22, h1⟩ := need_elim h1
      refine AO.op rfl (AOp.imul rfl rfl (ltb rfl) rfl rfl rfl q22.1 q22.2 ?_)
      obtain ⟨q23, h1⟩ := need_elim h1
      refine AO.op rfl (AOp.iadd rfl rfl (ltb rfl) rfl rfl rfl q23.1 q23.2 ?_)
      refine AO.op rfl (AOp.assign rfl rfl (ltb rfl) rfl ?_)
      refine AO.nil ?_
      change AC _ _ _ _
      refine AC.region ?_
      obtain ⟨q24, h1⟩ := need_elim h1
      refine AO.op rfl (AOp.iadd rfl rfl (ltb rfl) rfl rfl rfl q24.1 q24.2 ?_)
      refine AO.op rfl (AOp.move rfl rfl (ltb rfl) rfl ?_)
      refine AO.nil ?_
      exact ⟨((g13.1 + ((x17 - x19) * (x17 - x19))), (g13.2 + (1 : Int))), _, rfl, (LeL.refl _), rfl, rfl, h1⟩
    replace h1 := cF h1 q16
    refine AC.exit ?_
    obtain rfl := Option.some.inj h1
    exact ⟨g13.1, _, rfl, (LeL.refl _), rfl, rfl, aftL h0⟩
  intro g12 h0
  unfold p_FnHilbertSteps_k3 at h0
  change AC _ _ _ _
  refine AC.seq ?_
  refine AC.region ?_
  refine AO.op rfl (AOp.move rfl rfl (ltb rfl) rfl ?_)
  refine AO.op rfl (AOp.ieql rfl rfl (ltb rfl) rfl rfl ?_)
  refine AO.op rfl (AOp.assign rfl rfl (ltb rfl) rfl ?_)
  refine AO.nil ?_
  change AC _ _ _ _
  refine AC.ret ?_
  change RetQ _ _ _ .ret _
  obtain rfl := Option.some.inj h0
  refine retq rfl rfl

end Go.Proofs.YtkajoiehicpnlaaDoor.Wk
