/- Proved: functions of the program compute what the printed functions say, wherever these say something. -/
import Derived.Test.YthijpgkejnnjeaaPMe
import Derived.Test.YthijpgkejnnjeaaVmDraw4
import Derived.Test.YthijpgkejnnjeaaVmIfc
import Derived.Test.YthijpgkejnnjeaaVmNaN
import Derived.Test.YthijpgkejnnjeaaFltDy
import Derived.Test.YthijpgkejnnjeaaFltMin
import Derived.Test.YthijpgkejnnjeaaVmFin
import Derived.Test.YthijpgkejnnjeaaProg
namespace Go.Proofs.Ythijpgkejnnjeaa.Wk
open Go.Vm
set_option linter.unusedVariables false
set_option linter.unusedSimpArgs false
theorem agg22 : aggT Try.prog 22 = some false := by kernel_rfl
theorem agg29 : aggT Try.prog 29 = some false := by kernel_rfl
theorem agg3 : aggT Try.prog 3 = some false := by kernel_rfl
theorem agg30 : aggT Try.prog 30 = some false := by kernel_rfl
theorem agg31 : aggT Try.prog 31 = some false := by kernel_rfl
theorem agg33 : aggT Try.prog 33 = some true := by kernel_rfl
theorem agg40 : aggT Try.prog 40 = some false := by kernel_rfl
theorem agg79 : aggT Try.prog 79 = some false := by kernel_rfl
theorem conc89 : concT Try.prog 89 = true := by kernel_rfl
theorem el22 : elemT Try.prog 22 = some (40, 1) := by kernel_rfl
theorem el29 : elemT Try.prog 29 = some (3, 1) := by kernel_rfl
theorem el30 : elemT Try.prog 30 = some (29, 1) := by kernel_rfl
theorem el31 : elemT Try.prog 31 = some (33, 7) := by kernel_rfl
theorem fo153_0 : fieldOff Try.prog 153 0 = some 0 := by kernel_rfl
theorem fo153_1 : fieldOff Try.prog 153 1 = some 1 := by kernel_rfl
theorem fo153_2 : fieldOff Try.prog 153 2 = some 2 := by kernel_rfl
theorem fo153_3 : fieldOff Try.prog 153 3 = some 3 := by kernel_rfl
theorem fo155_0 : fieldOff Try.prog 155 0 = some 0 := by kernel_rfl
theorem fo33_0 : fieldOff Try.prog 33 0 = some 0 := by kernel_rfl
theorem fo33_1 : fieldOff Try.prog 33 1 = some 1 := by kernel_rfl
theorem fo33_2 : fieldOff Try.prog 33 2 = some 2 := by kernel_rfl
theorem fo33_3 : fieldOff Try.prog 33 3 = some 3 := by kernel_rfl
theorem fo33_4 : fieldOff Try.prog 33 4 = some 4 := by kernel_rfl
theorem fo33_5 : fieldOff Try.prog 33 5 = some 5 := by kernel_rfl
theorem fo33_6 : fieldOff Try.prog 33 6 = some 6 := by kernel_rfl
theorem idle59 (vs : Array Value) (w : World) (h : vs.size = 2) : CallsD Try.prog 59 vs .returning w fun e u' w' => e = .returned (.tuple #[]) ∧ u' = .returning ∧ w' = w := by
  obtain ⟨x0, x1, rfl⟩ : ∃ x0 x1, vs = #[x0, x1] := by
    obtain ⟨l⟩ := vs
    match l, h with
    | [x0, x1], _ => exact ⟨x0, x1, rfl⟩
  refine callsD_of_wpS Try.func59 rfl fun c₀ cs hu => ?_
  apply wpS_seq
  apply wpS_region
  simp [wpOpsS, go_sem, recoverD, hu, Try.ntmps59, Exit.thenS]
  refine wpS_cond (t := false) (by simp [Act.eval, Array.replicate]) ?_
  simp only [Bool.false_eq_true, if_false]
  refine wpS_of_wp (wp_skip ?_)
  cases c₀
  simp_all [bodyPostS, results, Try.results59]
theorem info29 : (Try.prog.info? 29).map (fun i => (i.zero, i.size, i.bytes)) = some (some (.slice none 0 0), 1, 24) := by kernel_rfl
theorem info3 : (Try.prog.info? 3).map (fun i => (i.zero, i.size, i.bytes)) = some (some (.int .i64 0), 1, 8) := by kernel_rfl
theorem info40 : (Try.prog.info? 40).map (fun i => (i.zero, i.size, i.bytes)) = some (some (.float .f64 0), 1, 8) := by kernel_rfl
theorem meth89_Ends : methT Try.prog 89 "Ends" = some (148, some 0) := by kernel_rfl
theorem meth89_Endss : methT Try.prog 89 "Endss" = some (149, some 0) := by kernel_rfl
theorem meth89_FlatCoords : methT Try.prog 89 "FlatCoords" = some (150, some 0) := by kernel_rfl
theorem meth89_Layout : methT Try.prog 89 "Layout" = some (151, some 0) := by kernel_rfl
theorem meth89_SRID : methT Try.prog 89 "SRID" = some (152, some 0) := by kernel_rfl
theorem mixed : Try.prog.follows .mixedOrders = true := by kernel_rfl
theorem pass89_89 : passT Try.prog 89 89 = some true := by kernel_rfl
def pl33 : Nat → Option (Nat × Nat) := fun i => ([(0, 1), (1, 1), (2, 1), (3, 1), (4, 1), (5, 1), (6, 1)] : List (Nat × Nat))[i]?
theorem places33 : placesT Try.prog 33 = some pl33 := by kernel_rfl
theorem size22 : sizeT Try.prog 22 = some 1 := by kernel_rfl
theorem size29 : sizeT Try.prog 29 = some 1 := by kernel_rfl
theorem size3 : sizeT Try.prog 3 = some 1 := by kernel_rfl
theorem size30 : sizeT Try.prog 30 = some 1 := by kernel_rfl
theorem size33 : sizeT Try.prog 33 = some 7 := by kernel_rfl
theorem size4 : sizeT Try.prog 4 = some 1 := by kernel_rfl
theorem size79 : sizeT Try.prog 79 = some 1 := by kernel_rfl
theorem zero155 : (Try.prog.info? 155).map (·.zero) = some (some (.agg #[.int .i64 0, .int .i64 0, .slice none 0 0, .int .i64 0])) := by kernel_rfl
theorem zero29 : (Try.prog.info? 29).map (·.zero) = some (some (.slice none 0 0)) := by kernel_rfl
theorem zero33 : (Try.prog.info? 33).map (·.zero) = some (some (.agg #[.int .i64 0, .int .i64 0, .int .i64 0, .slice none 0 0, .slice none 0 0, .slice none 0 0, .slice none 0 0])) := by kernel_rfl
theorem zero4 : (Try.prog.info? 4).map (·.zero) = some (some (.bool false)) := by kernel_rfl
set_option maxRecDepth 100000 in
set_option maxHeartbeats 1000000 in
/-- pub-orthodrome/spec.Stride -/
theorem w_Stride (a0 : Int) (r0 : Int) (h0 : p_Stride a0 = some r0) : FnD Try.prog 14 [di .i64 a0] (fun r => r = di .i64 r0) := by
  refine FnD.of (by kernel_rfl) Try.func14 rfl Try.ntmps14 rfl (leb rfl) fun W ok => ?_
  unfold p_Stride at h0
  refine AC.seq ?_
  refine AC.region ?_
  refine AO.op rfl (AOp.assign rfl rfl (ltb rfl) rfl ?_)
  refine AO.nil ?_
  change AC _ _ _ _
  refine AC.seq ?_
  refine AC.block ?_
  refine AC.seq ?_
  refine AC.region ?_
  refine AO.op rfl (AOp.move rfl rfl (ltb rfl) rfl ?_)
  refine AO.op rfl (AOp.ilss rfl rfl (ltb rfl) rfl rfl ?_)
  refine AO.op rfl (AOp.assign rfl rfl (ltb rfl) rfl ?_)
  refine AO.nil ?_
  change AC _ _ _ _
  refine AC.cond rfl (fun q1 => ?_) (fun q1 => ?_)
  · replace h0 := cT h0 q1
    refine AC.seq ?_
    refine AC.region ?_
    refine AO.op rfl (AOp.assign rfl rfl (ltb rfl) rfl ?_)
    refine AO.nil ?_
    change AC _ _ _ _
    refine AC.ret ?_
    change RetQ _ _ _ .ret _
    obtain rfl := Option.some.inj h0
    refine retq rfl rfl
  · replace h0 := cF h0 q1
    refine AC.seq ?_
    refine AC.region ?_
    refine AO.op rfl (AOp.move rfl rfl (ltb rfl) rfl ?_)
    refine AO.op rfl (AOp.ieql rfl rfl (ltb rfl) rfl rfl ?_)
    refine AO.op rfl (AOp.assign rfl rfl (ltb rfl) rfl ?_)
    refine AO.nil ?_
    change AC _ _ _ _
    refine AC.cond rfl (fun q2 => ?_) (fun q2 => ?_)
    · replace h0 := cT h0 q2
      refine AC.seq ?_
      refine AC.region ?_
      refine AO.op rfl (AOp.assign rfl rfl (ltb rfl) rfl ?_)
      refine AO.nil ?_
      change AC _ _ _ _
      refine AC.ret ?_
      change RetQ _ _ _ .ret _
      obtain rfl := Option.some.inj h0
      refine retq rfl rfl
    · replace h0 := cF h0 q2
      refine AC.seq ?_
      refine AC.region ?_
      refine AO.op rfl (AOp.move rfl rfl (ltb rfl) rfl ?_)
      refine AO.op rfl (AOp.ieql rfl rfl (ltb rfl) rfl rfl ?_)
      refine AO.op rfl (AOp.move rfl rfl (ltb rfl) rfl ?_)
      refine AO.dec (decide (a0 = (2 : Int))) (fun q3 => ?_) (fun q3 => ?_)
      · replace h0 := cT h0 q3
        refine AO.guardN rfl rfl rfl (ltb rfl) rfl q3 ?_
        refine AO.guardN rfl rfl rfl (ltb rfl) rfl q3 ?_
        refine AO.op rfl (AOp.pick rfl rfl (ltb rfl) rfl q3 rfl ?_)
        refine AO.op rfl (AOp.assign rfl rfl (ltb rfl) rfl ?_)
        refine AO.nil ?_
        change AC _ _ _ _
        refine AC.condT rfl rfl ?_
        refine AC.seq ?_
        refine AC.region ?_
        refine AO.op rfl (AOp.assign rfl rfl (ltb rfl) rfl ?_)
        refine AO.nil ?_
        change AC _ _ _ _
        refine AC.ret ?_
        change RetQ _ _ _ .ret _
        obtain rfl := Option.some.inj h0
        refine retq rfl rfl
      · replace h0 := cF h0 q3
        refine AO.guardY rfl rfl rfl q3 (AOp.move rfl rfl (ltb rfl) rfl ?_)
        refine AO.guardY rfl rfl rfl q3 (AOp.ieql rfl rfl (ltb rfl) rfl rfl ?_)
        refine AO.op rfl (AOp.pickN rfl rfl (ltb rfl) rfl q3 rfl ?_)
        refine AO.op rfl (AOp.assign rfl rfl (ltb rfl) rfl ?_)
        refine AO.nil ?_
        change AC _ _ _ _
        refine AC.cond rfl (fun q4 => ?_) (fun q4 => ?_)
        · replace h0 := cT h0 q4
          refine AC.seq ?_
          refine AC.region ?_
          refine AO.op rfl (AOp.assign rfl rfl (ltb rfl) rfl ?_)
          refine AO.nil ?_
          change AC _ _ _ _
          refine AC.ret ?_
          change RetQ _ _ _ .ret _
          obtain rfl := Option.some.inj h0
          refine retq rfl rfl
        · replace h0 := cF h0 q4
          refine AC.skip ?_
          change AC _ _ _ _
          refine AC.seq ?_
          refine AC.region ?_
          refine AO.op rfl (AOp.move rfl rfl (ltb rfl) rfl ?_)
          refine AO.op rfl (AOp.assign rfl rfl (ltb rfl) rfl ?_)
          refine AO.nil ?_
          change AC _ _ _ _
          refine AC.ret ?_
          change RetQ _ _ _ .ret _
          obtain rfl := Option.some.inj h0
          refine retq rfl rfl

set_option maxRecDepth 100000 in
set_option maxHeartbeats 1000000 in
/-- pub-orthodrome/laws.gCoord -/
theorem w_gCoord (a0 : Int) (a1 : (List Nat)) (r0 : Bool) (h0 : p_gCoord a0 a1 = some r0) : FnD Try.prog 21 [di .i64 a0, eS0 a1] (fun r => r = dbool r0) := by
  refine FnD.of (by kernel_rfl) Try.func21 rfl Try.ntmps21 rfl (leb rfl) fun W ok => ?_
  unfold p_gCoord at h0
  refine AC.seq ?_
  refine AC.region ?_
  refine AO.op rfl (AOp.assign rfl rfl (ltb rfl) rfl ?_)
  refine AO.nil ?_
  change AC _ _ _ _
  refine AC.seq ?_
  refine AC.region ?_
  refine AO.op rfl (AOp.move rfl rfl (ltb rfl) rfl ?_)
  refine AO.op rfl (AOp.igeq rfl rfl (ltb rfl) rfl rfl ?_)
  refine AO.op rfl (AOp.move rfl rfl (ltb rfl) rfl ?_)
  refine AO.dec (decide ((1 : Int) ≤ a0)) (fun q1 => ?_) (fun q1 => ?_)
  · replace h0 := cT h0 q1
    refine AO.guardY rfl rfl rfl q1 (AOp.move rfl rfl (ltb rfl) rfl ?_)
    refine AO.guardY rfl rfl rfl q1 (AOp.ileq rfl rfl (ltb rfl) rfl rfl ?_)
    refine AO.op rfl (AOp.pick rfl rfl (ltb rfl) rfl q1 rfl ?_)
    refine AO.op rfl (AOp.move rfl rfl (ltb rfl) rfl ?_)
    refine AO.dec (decide (a0 ≤ (9 : Int))) (fun q2 => ?_) (fun q2 => ?_)
    · replace h0 := cT h0 q2
      refine AO.guardY rfl rfl rfl q2 (AOp.move rfl rfl (ltb rfl) rfl ?_)
      refine AO.guardY rfl rfl rfl q2 (AOp.lenDs (n := a1.length) (cells := (List.map keS0 a1)) rfl rfl (ltb rfl) rfl el22 (by decide) (len1 _ _) ?_)
      refine AO.guardY rfl rfl rfl q2 (AOp.move rfl rfl (ltb rfl) rfl ?_)
      obtain ⟨y3, q4, h0⟩ := bind_elim h0
      refine AO.guardY rfl rfl rfl q2 (AOp.callD rfl rfl (ltb rfl) rfl rfl (w_Stride a0 y3 q4) ?_)
      rintro _ rfl
      refine AO.guardY rfl rfl rfl q2 (AOp.ieql rfl rfl (ltb rfl) rfl rfl ?_)
      refine AO.op rfl (AOp.pick rfl rfl (ltb rfl) rfl q2 rfl ?_)
      refine AO.op rfl (AOp.assign rfl rfl (ltb rfl) rfl ?_)
      refine AO.nil ?_
      change AC _ _ _ _
      refine AC.ret ?_
      change RetQ _ _ _ .ret _
      obtain rfl := Option.some.inj h0
      refine retq rfl rfl
    · replace h0 := cF h0 q2
      refine AO.guardN rfl rfl rfl (ltb rfl) rfl q2 ?_
      refine AO.guardN rfl rfl rfl (ltb rfl) rfl q2 ?_
      refine AO.guardN rfl rfl rfl (ltb rfl) rfl q2 ?_
      refine AO.guardN rfl rfl rfl (ltb rfl) rfl q2 ?_
      refine AO.guardN rfl rfl rfl (ltb rfl) rfl q2 ?_
      refine AO.op rfl (AOp.pickN rfl rfl (ltb rfl) rfl q2 rfl ?_)
      refine AO.op rfl (AOp.assign rfl rfl (ltb rfl) rfl ?_)
      refine AO.nil ?_
      change AC _ _ _ _
      refine AC.ret ?_
      change RetQ _ _ _ .ret _
      obtain rfl := Option.some.inj h0
      refine retq rfl rfl
  · replace h0 := cF h0 q1
    refine AO.guardN rfl rfl rfl (ltb rfl) rfl q1 ?_
    refine AO.guardN rfl rfl rfl (ltb rfl) rfl q1 ?_
    refine AO.op rfl (AOp.pickN rfl rfl (ltb rfl) rfl q1 rfl ?_)
    refine AO.op rfl (AOp.move rfl rfl (ltb rfl) rfl ?_)
    refine AO.guardN rfl rfl rfl (ltb rfl) rfl rfl ?_
    refine AO.guardN rfl rfl rfl (ltb rfl) rfl rfl ?_
    refine AO.guardN rfl rfl rfl (ltb rfl) rfl rfl ?_
    refine AO.guardN rfl rfl rfl (ltb rfl) rfl rfl ?_
    refine AO.guardN rfl rfl rfl (ltb rfl) rfl rfl ?_
    refine AO.op rfl (AOp.pickN rfl rfl (ltb rfl) rfl rfl rfl ?_)
    refine AO.op rfl (AOp.assign rfl rfl (ltb rfl) rfl ?_)
    refine AO.nil ?_
    change AC _ _ _ _
    refine AC.ret ?_
    change RetQ _ _ _ .ret _
    obtain rfl := Option.some.inj h0
    refine retq rfl rfl

set_option maxRecDepth 100000 in
set_option maxHeartbeats 1000000 in
/-- pub-orthodrome/laws.gNumber -/
theorem w_gNumber (a0 : Nat) (r0 : Bool) (h0 : p_gNumber a0 = some r0) : FnD Try.prog 16 [dfl a0] (fun r => r = dbool r0) := by
  refine FnD.of (by kernel_rfl) Try.func16 rfl Try.ntmps16 rfl (leb rfl) fun W ok => ?_
  unfold p_gNumber at h0
  refine AC.seq ?_
  refine AC.region ?_
  refine AO.op rfl (AOp.assign rfl rfl (ltb rfl) rfl ?_)
  refine AO.nil ?_
  change AC _ _ _ _
  refine AC.seq ?_
  refine AC.region ?_
  refine AO.op rfl (AOp.move rfl rfl (ltb rfl) rfl ?_)
  refine AO.op rfl (AOp.move rfl rfl (ltb rfl) rfl ?_)
  refine AO.op rfl (AOp.feql rfl rfl (ltb rfl) rfl rfl ?_)
  refine AO.op rfl (AOp.assign rfl rfl (ltb rfl) rfl ?_)
  refine AO.nil ?_
  change AC _ _ _ _
  refine AC.ret ?_
  change RetQ _ _ _ .ret _
  obtain rfl := Option.some.inj h0
  refine retq rfl rfl

theorem callBits (x : Nat) (w : World) : (callFunc 28 #[.float .f64 x]).run Try.prog w = .ok (.value (.int .u64 x)) w := by
  rw [run_callFunc_extern Try.func28 (by kernel_rfl) (by kernel_rfl) (by kernel_rfl) (e := Extern.MathFloatBits.float64bits) (by kernel_rfl), run_f64bits Try.prog x]
  rfl

set_option maxRecDepth 100000 in
set_option maxHeartbeats 1000000 in
/-- pub-orthodrome/impl.floats -/
theorem w_floats (a0 : (List Nat)) (r0 : (List Nat)) (h0 : p_floats a0 = some r0) : FnD Try.prog 62 [eS0 a0] (fun r => r = eS0 r0) := by
  refine FnD.of (by kernel_rfl) Try.func62 rfl Try.ntmps62 rfl (leb rfl) fun W ok => ?_
  unfold p_floats at h0
  refine AC.seq ?_
  refine AC.region ?_
  refine AO.op rfl (AOp.assign rfl rfl (ltb rfl) rfl ?_)
  refine AO.nil ?_
  change AC _ _ _ _
  refine AC.seq ?_
  refine AC.region ?_
  refine AO.op rfl (AOp.move rfl rfl (ltb rfl) rfl ?_)
  obtain ⟨q1, h0⟩ := need_elim h0
  refine AO.op rfl (AOp.appendNil (m := a0.length) (news := (List.map keS0 a0)) rfl rfl (ltb rfl) rfl rfl el22 info40 rfl (by decide) (len1 _ _) (one1 _ (fun _ => rfl) _) (small63 q1) (small q1 (by decide)) ?_)
  refine AO.op rfl (AOp.assign rfl rfl (ltb rfl) rfl ?_)
  refine AO.nil ?_
  change AC _ _ _ _
  refine AC.ret ?_
  change RetQ _ _ _ .ret _
  obtain rfl := Option.some.inj h0
  refine retq rfl rfl

set_option maxRecDepth 100000 in
set_option maxHeartbeats 1000000 in
/-- (pub-orthodrome/pub/gogeom.Layout).Stride -/
theorem w_Layout_Stride (a0 : Int) (r0 : Int) (h0 : p_Layout_Stride a0 = some r0) : FnD Try.prog 72 [di .i64 a0] (fun r => r = di .i64 r0) := by
  refine FnD.of (by kernel_rfl) Try.func72 rfl Try.ntmps72 rfl (leb rfl) fun W ok => ?_
  unfold p_Layout_Stride at h0
  refine AC.seq ?_
  refine AC.region ?_
  refine AO.op rfl (AOp.assign rfl rfl (ltb rfl) rfl ?_)
  refine AO.nil ?_
  change AC _ _ _ _
  refine AC.seq ?_
  refine AC.region ?_
  refine AO.op rfl (AOp.move rfl rfl (ltb rfl) rfl ?_)
  refine AO.nil ?_
  change AC _ _ _ _
  refine AC.block ?_
  refine AC.seq ?_
  refine AC.region ?_
  refine AO.op rfl (AOp.ieql rfl rfl (ltb rfl) rfl rfl ?_)
  refine AO.op rfl (AOp.assign rfl rfl (ltb rfl) rfl ?_)
  refine AO.nil ?_
  change AC _ _ _ _
  refine AC.cond rfl (fun q1 => ?_) (fun q1 => ?_)
  · replace h0 := cT h0 q1
    refine AC.seq ?_
    refine AC.region ?_
    refine AO.op rfl (AOp.assign rfl rfl (ltb rfl) rfl ?_)
    refine AO.nil ?_
    change AC _ _ _ _
    refine AC.ret ?_
    change RetQ _ _ _ .ret _
    obtain rfl := Option.some.inj h0
    refine retq rfl rfl
  · replace h0 := cF h0 q1
    refine AC.seq ?_
    refine AC.region ?_
    refine AO.op rfl (AOp.ieql rfl rfl (ltb rfl) rfl rfl ?_)
    refine AO.op rfl (AOp.assign rfl rfl (ltb rfl) rfl ?_)
    refine AO.nil ?_
    change AC _ _ _ _
    refine AC.cond rfl (fun q2 => ?_) (fun q2 => ?_)
    · replace h0 := cT h0 q2
      refine AC.seq ?_
      refine AC.region ?_
      refine AO.op rfl (AOp.assign rfl rfl (ltb rfl) rfl ?_)
      refine AO.nil ?_
      change AC _ _ _ _
      refine AC.ret ?_
      change RetQ _ _ _ .ret _
      obtain rfl := Option.some.inj h0
      refine retq rfl rfl
    · replace h0 := cF h0 q2
      refine AC.seq ?_
      refine AC.region ?_
      refine AO.op rfl (AOp.ieql rfl rfl (ltb rfl) rfl rfl ?_)
      refine AO.op rfl (AOp.assign rfl rfl (ltb rfl) rfl ?_)
      refine AO.nil ?_
      change AC _ _ _ _
      refine AC.cond rfl (fun q3 => ?_) (fun q3 => ?_)
      · replace h0 := cT h0 q3
        refine AC.seq ?_
        refine AC.region ?_
        refine AO.op rfl (AOp.assign rfl rfl (ltb rfl) rfl ?_)
        refine AO.nil ?_
        change AC _ _ _ _
        refine AC.ret ?_
        change RetQ _ _ _ .ret _
        obtain rfl := Option.some.inj h0
        refine retq rfl rfl
      · replace h0 := cF h0 q3
        refine AC.seq ?_
        refine AC.region ?_
        refine AO.op rfl (AOp.ieql rfl rfl (ltb rfl) rfl rfl ?_)
        refine AO.op rfl (AOp.assign rfl rfl (ltb rfl) rfl ?_)
        refine AO.nil ?_
        change AC _ _ _ _
        refine AC.cond rfl (fun q4 => ?_) (fun q4 => ?_)
        · replace h0 := cT h0 q4
          refine AC.seq ?_
          refine AC.region ?_
          refine AO.op rfl (AOp.assign rfl rfl (ltb rfl) rfl ?_)
          refine AO.nil ?_
          change AC _ _ _ _
          refine AC.ret ?_
          change RetQ _ _ _ .ret _
          obtain rfl := Option.some.inj h0
          refine retq rfl rfl
        · replace h0 := cF h0 q4
          refine AC.seq ?_
          refine AC.region ?_
          refine AO.op rfl (AOp.ieql rfl rfl (ltb rfl) rfl rfl ?_)
          refine AO.op rfl (AOp.assign rfl rfl (ltb rfl) rfl ?_)
          refine AO.nil ?_
          change AC _ _ _ _
          refine AC.cond rfl (fun q5 => ?_) (fun q5 => ?_)
          · replace h0 := cT h0 q5
            refine AC.seq ?_
            refine AC.region ?_
            refine AO.op rfl (AOp.assign rfl rfl (ltb rfl) rfl ?_)
            refine AO.nil ?_
            change AC _ _ _ _
            refine AC.ret ?_
            change RetQ _ _ _ .ret _
            obtain rfl := Option.some.inj h0
            refine retq rfl rfl
          · replace h0 := cF h0 q5
            refine AC.seq ?_
            refine AC.region ?_
            refine AO.op rfl (AOp.move rfl rfl (ltb rfl) rfl ?_)
            refine AO.op rfl (AOp.assign rfl rfl (ltb rfl) rfl ?_)
            refine AO.nil ?_
            change AC _ _ _ _
            refine AC.ret ?_
            change RetQ _ _ _ .ret _
            obtain rfl := Option.some.inj h0
            refine retq rfl rfl

set_option maxRecDepth 100000 in
set_option maxHeartbeats 1000000 in
/-- pub-orthodrome/pub/gogeom.NewPointFlat -/
theorem w_NewPointFlat (a0 : Int) (a1 : (List Nat)) (r0 : TGeom_Point) (h0 : p_NewPointFlat a0 a1 = some r0) : FnD Try.prog 89 [di .i64 a0, eS0 a1] (fun r => r = .pt (c_TGeom_Point r0)) := by
  refine FnD.of (by kernel_rfl) Try.func89 rfl Try.ntmps89 rfl (leb rfl) fun W ok => ?_
  unfold p_NewPointFlat at h0
  refine AC.seq ?_
  refine AC.region ?_
  refine AO.op rfl (AOp.assign rfl rfl (ltb rfl) rfl ?_)
  refine AO.nil ?_
  change AC _ _ _ _
  refine AC.seq ?_
  refine AC.region ?_
  refine AO.op rfl (AOp.alloc rfl rfl (ltb rfl) zero155 rfl ?_)
  refine AO.op rfl (AOp.assign rfl rfl (ltb rfl) rfl ?_)
  refine AO.nil ?_
  change AC _ _ _ _
  refine AC.seq ?_
  refine AC.region ?_
  refine AO.op rfl (AOp.move rfl rfl (ltb rfl) rfl ?_)
  refine AO.op rfl (AOp.move rfl rfl (ltb rfl) rfl ?_)
  refine AO.op rfl (AOp.nilCheck rfl rfl (ltb rfl) rfl rfl ?_)
  refine AO.op rfl (AOp.fieldAddr rfl rfl (ltb rfl) rfl fo155_0 ?_)
  refine AO.op rfl (AOp.fieldAddr rfl rfl (ltb rfl) rfl fo153_0 ?_)
  refine AO.op rfl (AOp.store rfl rfl rfl rfl size79 rfl rfl rfl (leb rfl) ?_)
  refine AO.nil ?_
  change AC _ _ _ _
  refine AC.seq ?_
  refine AC.region ?_
  refine AO.op rfl (AOp.move rfl rfl (ltb rfl) rfl ?_)
  refine AO.op rfl (AOp.move rfl rfl (ltb rfl) rfl ?_)
  obtain ⟨y1, q2, h0⟩ := bind_elim h0
  refine AO.op rfl (AOp.callD rfl rfl (ltb rfl) rfl rfl (w_Layout_Stride a0 y1 q2) ?_)
  rintro _ rfl
  refine AO.op rfl (AOp.nilCheck rfl rfl (ltb rfl) rfl rfl ?_)
  refine AO.op rfl (AOp.fieldAddr rfl rfl (ltb rfl) rfl fo155_0 ?_)
  refine AO.op rfl (AOp.fieldAddr rfl rfl (ltb rfl) rfl fo153_1 ?_)
  refine AO.op rfl (AOp.store rfl rfl rfl rfl size3 rfl rfl rfl (leb rfl) ?_)
  refine AO.nil ?_
  change AC _ _ _ _
  refine AC.seq ?_
  refine AC.region ?_
  refine AO.op rfl (AOp.move rfl rfl (ltb rfl) rfl ?_)
  refine AO.op rfl (AOp.move rfl rfl (ltb rfl) rfl ?_)
  refine AO.op rfl (AOp.nilCheck rfl rfl (ltb rfl) rfl rfl ?_)
  refine AO.op rfl (AOp.fieldAddr rfl rfl (ltb rfl) rfl fo155_0 ?_)
  refine AO.op rfl (AOp.fieldAddr rfl rfl (ltb rfl) rfl fo153_2 ?_)
  refine AO.op rfl (AOp.store rfl rfl rfl rfl size22 rfl rfl rfl (leb rfl) ?_)
  refine AO.nil ?_
  change AC _ _ _ _
  refine AC.seq ?_
  refine AC.region ?_
  refine AO.op rfl (AOp.move rfl rfl (ltb rfl) rfl ?_)
  refine AO.op rfl (AOp.assign rfl rfl (ltb rfl) rfl ?_)
  refine AO.nil ?_
  change AC _ _ _ _
  refine AC.ret ?_
  change RetQ _ _ _ .ret _
  obtain rfl := Option.some.inj h0
  refine retq rfl rfl

set_option maxRecDepth 100000 in
set_option maxHeartbeats 1000000 in
/-- pub-orthodrome/pub/gogeom.NewPointEmpty -/
theorem w_NewPointEmpty (a0 : Int) (r0 : TGeom_Point) (h0 : p_NewPointEmpty a0 = some r0) : FnD Try.prog 88 [di .i64 a0] (fun r => r = .pt (c_TGeom_Point r0)) := by
  refine FnD.of (by kernel_rfl) Try.func88 rfl Try.ntmps88 rfl (leb rfl) fun W ok => ?_
  unfold p_NewPointEmpty at h0
  refine AC.seq ?_
  refine AC.region ?_
  refine AO.op rfl (AOp.assign rfl rfl (ltb rfl) rfl ?_)
  refine AO.nil ?_
  change AC _ _ _ _
  refine AC.seq ?_
  refine AC.region ?_
  refine AO.op rfl (AOp.move rfl rfl (ltb rfl) rfl ?_)
  obtain ⟨y1, q2, h0⟩ := bind_elim h0
  refine AO.op rfl (AOp.callD rfl rfl (ltb rfl) rfl rfl ((w_NewPointFlat a0 [] y1 q2).nils (.cons (.nils .nil))) ?_)
  rintro _ rfl
  refine AO.op rfl (AOp.assign rfl rfl (ltb rfl) rfl ?_)
  refine AO.nil ?_
  change AC _ _ _ _
  refine AC.ret ?_
  change RetQ _ _ _ .ret _
  obtain rfl := Option.some.inj h0
  refine retq rfl rfl

set_option maxRecDepth 100000 in
set_option maxHeartbeats 1000000 in
/-- pub-orthodrome/pub/gogeom.NewPointFlatMaybeEmpty -/
theorem w_NewPointFlatMaybeEmpty (F : Nat) (a0 : Int) (a1 : (List Nat)) (r0 : TGeom_Point) (h0 : p_NewPointFlatMaybeEmpty F a0 a1 = some r0) : FnD Try.prog 61 [di .i64 a0, eS0 a1] (fun r => r = .pt (c_TGeom_Point r0)) := by
  refine FnD.of (by kernel_rfl) Try.func61 rfl Try.ntmps61 rfl (leb rfl) fun W ok => ?_
  unfold p_NewPointFlatMaybeEmpty at h0
  refine AC.seq ?_
  refine AC.region ?_
  refine AO.op rfl (AOp.assign rfl rfl (ltb rfl) rfl ?_)
  refine AO.nil ?_
  change AC _ _ _ _
  refine AC.seq ?_
  refine AC.region ?_
  refine AO.op rfl (AOp.assign rfl rfl (ltb rfl) rfl ?_)
  refine AO.nil ?_
  change AC _ _ _ _
  refine AC.seq ?_
  refine AC.seq ?_
  refine AC.region ?_
  refine AO.op rfl (AOp.move rfl rfl (ltb rfl) rfl ?_)
  refine AO.op rfl (AOp.lenDs (n := a1.length) (cells := (List.map keS0 a1)) rfl rfl (ltb rfl) rfl el22 (by decide) (len1 _ _) ?_)
  refine AO.op rfl (AOp.move rfl rfl (ltb rfl) rfl ?_)
  refine AO.nil ?_
  change AC _ _ _ _
  obtain ⟨o1, l2, h0⟩ := bind_elim h0
  refine AC.joinE (V := Bool) [0, 1] [5] 0 (fun g3 => [(5, .d (dbool g3))]) (fun g3 => []) (fun g3 => (p_NewPointFlatMaybeEmpty_k1 a0 a1) g3 = some r0) rfl ?_ ?_
  · refine AC.block ?_
    refine AC.loopP (V := (Bool × Int)) (p_NewPointFlatMaybeEmpty_l2 a1) o1 [0, 1, 8, 9] [5, 10] 0 (fun g9 => [(5, .d (dbool g9.1)), (10, .d (di .i64 g9.2))]) (fun g9 => []) F (true, (0 : Int)) l2 rfl rfl (LeL.refl _) rfl rfl ?_
    intro n11 g9 h1
    unfold p_NewPointFlatMaybeEmpty_l2 at h1
    refine AC.seq ?_
    refine AC.region ?_
    refine AO.op rfl (AOp.ilss rfl rfl (ltb rfl) rfl rfl ?_)
    refine AO.nil ?_
    change AC _ _ _ _
    refine AC.seq ?_
    refine AC.cond rfl (fun q12 => ?_) (fun q12 => ?_)
    · replace h1 := cT h1 q12
      refine AC.skip ?_
      change AC _ _ _ _
      refine AC.seq ?_
      refine AC.block ?_
      refine AC.seq ?_
      refine AC.region ?_
      obtain ⟨x13, q14, h1⟩ := idx_elim h1
      refine AO.op rfl (AOp.indexDs (cells := (List.map keS0 a1)) rfl rfl (ltb rfl) rfl rfl el22 (by decide) q14.1 (lt1 q14.2) ?_)
      refine AO.op rfl (AOp.loadEp rfl rfl (ltb rfl) rfl agg40 (at1 q14.2) ?_)
      refine AO.op rfl (AOp.assign rfl rfl (ltb rfl) rfl ?_)
      refine AO.nil ?_
      change AC _ _ _ _
      refine AC.seq ?_
      refine AC.region ?_
      refine AO.op rfl (AOp.move rfl rfl (ltb rfl) rfl ?_)
      refine AO.op rfl (AOp.callX [.float .f64 x13] rfl rfl (ltb rfl) rfl (callBits x13) ?_)
      refine AO.op rfl (AOp.ineq rfl rfl (ltb rfl) rfl rfl ?_)
      refine AO.nil ?_
      change AC _ _ _ _
      refine AC.cond rfl (fun q15 => ?_) (fun q15 => ?_)
      · replace h1 := cT h1 q15
        refine AC.seq ?_
        refine AC.region ?_
        refine AO.op rfl (AOp.assign rfl rfl (ltb rfl) rfl ?_)
        refine AO.nil ?_
        change AC _ _ _ _
        refine AC.exit ?_
        obtain rfl := Option.some.inj h1
        exact ⟨false, _, rfl, (LeL.refl _), rfl, rfl, aftL h0⟩
      · replace h1 := cF h1 q15
        refine AC.skip ?_
        change AC _ _ _ _
        refine AC.region ?_
        obtain ⟨q16, h1⟩ := need_elim h1
        refine AO.op rfl (AOp.iadd rfl rfl (ltb rfl) rfl rfl rfl q16.1 q16.2 ?_)
        refine AO.op rfl (AOp.move rfl rfl (ltb rfl) rfl ?_)
        refine AO.nil ?_
        exact ⟨(g9.1, (g9.2 + (1 : Int))), _, rfl, (LeL.refl _), rfl, rfl, h1⟩
    · replace h1 := cF h1 q12
      refine AC.exit ?_
      obtain rfl := Option.some.inj h1
      exact ⟨g9.1, _, rfl, (LeL.refl _), rfl, rfl, aftL h0⟩
  · intro g3 h0
    unfold p_NewPointFlatMaybeEmpty_k1 at h0
    change AC _ _ _ _
    refine AC.seq ?_
    refine AC.seq ?_
    refine AC.region ?_
    refine AO.op rfl (AOp.move rfl rfl (ltb rfl) rfl ?_)
    refine AO.nil ?_
    change AC _ _ _ _
    refine AC.cond rfl (fun q4 => ?_) (fun q4 => ?_)
    · replace h0 := cT h0 q4
      refine AC.seq ?_
      refine AC.region ?_
      refine AO.op rfl (AOp.move rfl rfl (ltb rfl) rfl ?_)
      obtain ⟨y5, q6, h0⟩ := bind_elim h0
      refine AO.op rfl (AOp.callD rfl rfl (ltb rfl) rfl rfl (w_NewPointEmpty a0 y5 q6) ?_)
      rintro _ rfl
      refine AO.op rfl (AOp.assign rfl rfl (ltb rfl) rfl ?_)
      refine AO.nil ?_
      change AC _ _ _ _
      refine AC.ret ?_
      change RetQ _ _ _ .ret _
      obtain rfl := Option.some.inj h0
      refine retq rfl rfl
    · replace h0 := cF h0 q4
      refine AC.skip ?_
      change AC _ _ _ _
      refine AC.seq ?_
      refine AC.region ?_
      refine AO.op rfl (AOp.move rfl rfl (ltb rfl) rfl ?_)
      refine AO.op rfl (AOp.move rfl rfl (ltb rfl) rfl ?_)
      obtain ⟨y7, q8, h0⟩ := bind_elim h0
      refine AO.op rfl (AOp.callD rfl rfl (ltb rfl) rfl rfl (w_NewPointFlat a0 a1 y7 q8) ?_)
      rintro _ rfl
      refine AO.op rfl (AOp.assign rfl rfl (ltb rfl) rfl ?_)
      refine AO.nil ?_
      change AC _ _ _ _
      refine AC.ret ?_
      change RetQ _ _ _ .ret _
      obtain rfl := Option.some.inj h0
      refine retq rfl rfl

set_option maxRecDepth 100000 in
set_option maxHeartbeats 1000000 in
/-- pub-orthodrome/impl.ints -/
theorem w_ints (a0 : (List Int)) (r0 : (List Int)) (h0 : p_ints a0 = some r0) : FnD Try.prog 86 [eS2 a0] (fun r => r = eS2 r0) := by
  refine FnD.of (by kernel_rfl) Try.func86 rfl Try.ntmps86 rfl (leb rfl) fun W ok => ?_
  unfold p_ints at h0
  refine AC.seq ?_
  refine AC.region ?_
  refine AO.op rfl (AOp.assign rfl rfl (ltb rfl) rfl ?_)
  refine AO.nil ?_
  change AC _ _ _ _
  refine AC.seq ?_
  refine AC.region ?_
  refine AO.op rfl (AOp.move rfl rfl (ltb rfl) rfl ?_)
  obtain ⟨q1, h0⟩ := need_elim h0
  refine AO.op rfl (AOp.appendNil (m := a0.length) (news := (List.map keS2 a0)) rfl rfl (ltb rfl) rfl rfl el29 info3 rfl (by decide) (len1 _ _) (one1 _ (fun _ => rfl) _) (small63 q1) (small q1 (by decide)) ?_)
  refine AO.op rfl (AOp.assign rfl rfl (ltb rfl) rfl ?_)
  refine AO.nil ?_
  change AC _ _ _ _
  refine AC.ret ?_
  change RetQ _ _ _ .ret _
  obtain rfl := Option.some.inj h0
  refine retq rfl rfl

set_option maxRecDepth 100000 in
set_option maxHeartbeats 1000000 in
/-- pub-orthodrome/impl.intss -/
theorem w_intss (F : Nat) (a0 : (List (List Int))) (r0 : (List (List Int))) (h0 : p_intss F a0 = some r0) : FnD Try.prog 87 [eS3 a0] (fun r => r = eS3 r0) := by
  refine FnD.of (by kernel_rfl) Try.func87 rfl Try.ntmps87 rfl (leb rfl) fun W ok => ?_
  unfold p_intss at h0
  refine AC.seq ?_
  refine AC.region ?_
  refine AO.op rfl (AOp.assign rfl rfl (ltb rfl) rfl ?_)
  refine AO.nil ?_
  change AC _ _ _ _
  refine AC.seq ?_
  refine AC.region ?_
  refine AO.op rfl (AOp.assign rfl rfl (ltb rfl) rfl ?_)
  refine AO.nil ?_
  change AC _ _ _ _
  refine AC.seq ?_
  refine AC.seq ?_
  refine AC.region ?_
  refine AO.op rfl (AOp.move rfl rfl (ltb rfl) rfl ?_)
  refine AO.op rfl (AOp.lenDs (n := a0.length) (cells := (List.map keS3 a0)) rfl rfl (ltb rfl) rfl el30 (by decide) (len1 _ _) ?_)
  refine AO.op rfl (AOp.move rfl rfl (ltb rfl) rfl ?_)
  refine AO.nil ?_
  change AC _ _ _ _
  refine AC.adopt 3 29 1 rfl ?_
  obtain ⟨o1, l2, h0⟩ := bind_elim h0
  refine AC.joinE (V := (List (List Int))) [] [3] 1 (fun g3 => [(3, .own 0)]) (fun g3 => [.grow 29 1 (List.map keS3 g3)]) (fun g3 => p_intss_k1 g3 = some r0) rfl ?_ ?_
  · refine AC.block ?_
    refine AC.loopP (V := (Int × (List (List Int)))) (p_intss_l2 a0) o1 [6, 7] [3, 8] 1 (fun g4 => [(3, .own 0), (8, .d (di .i64 g4.1))]) (fun g4 => [.grow 29 1 (List.map keS3 g4.2)]) F ((0 : Int), []) l2 rfl rfl (LeL.refl _) rfl rfl ?_
    intro n6 g4 h1
    unfold p_intss_l2 at h1
    refine AC.seq ?_
    refine AC.region ?_
    refine AO.op rfl (AOp.ilss rfl rfl (ltb rfl) rfl rfl ?_)
    refine AO.nil ?_
    change AC _ _ _ _
    refine AC.seq ?_
    refine AC.cond rfl (fun q7 => ?_) (fun q7 => ?_)
    · replace h1 := cT h1 q7
      refine AC.skip ?_
      change AC _ _ _ _
      refine AC.seq ?_
      refine AC.block ?_
      refine AC.seq ?_
      refine AC.region ?_
      obtain ⟨x8, q9, h1⟩ := idx_elim h1
      refine AO.op rfl (AOp.indexDs (cells := (List.map keS3 a0)) rfl rfl (ltb rfl) rfl rfl el30 (by decide) q9.1 (lt1 q9.2) ?_)
      refine AO.op rfl (AOp.loadEp rfl rfl (ltb rfl) rfl agg29 (at1 q9.2) ?_)
      refine AO.op rfl (AOp.assign rfl rfl (ltb rfl) rfl ?_)
      refine AO.nil ?_
      change AC _ _ _ _
      refine AC.region ?_
      refine AO.op rfl (AOp.move rfl rfl (ltb rfl) rfl ?_)
      refine AO.op rfl (AOp.move rfl rfl (ltb rfl) rfl ?_)
      obtain ⟨y10, q11, h1⟩ := bind_elim h1
      refine AO.op rfl (AOp.callD rfl rfl (ltb rfl) rfl rfl (w_ints x8 y10 q11) ?_)
      rintro _ rfl
      refine AO.op rfl (AOp.buildSliceD rfl rfl (ltb rfl) el30 zero29 rfl (leb rfl) rfl rfl rfl rfl ?_)
      obtain ⟨q12, h1⟩ := need_elim h1
      refine AO.op rfl (AOp.appendOwn' (n := g4.2.length) (m := [y10].length) (news := (List.map keS3 [y10])) rfl rfl (ltb rfl) rfl rfl el30 info29 rfl (by decide) rfl (len1 _ _) (len1 _ _) (one1 _ (fun _ => rfl) _) q12 (by decide) rfl rfl (cat1 _ _ _) ?_)
      refine AO.op rfl (AOp.assign rfl rfl (ltb rfl) rfl ?_)
      refine AO.nil ?_
      change AC _ _ _ _
      refine AC.region ?_
      obtain ⟨q13, h1⟩ := need_elim h1
      refine AO.op rfl (AOp.iadd rfl rfl (ltb rfl) rfl rfl rfl q13.1 q13.2 ?_)
      refine AO.op rfl (AOp.move rfl rfl (ltb rfl) rfl ?_)
      refine AO.nil ?_
      exact ⟨((g4.1 + (1 : Int)), (g4.2 ++ [y10])), _, rfl, (LeL.refl _), rfl, rfl, h1⟩
    · replace h1 := cF h1 q7
      refine AC.exit ?_
      obtain rfl := Option.some.inj h1
      exact ⟨g4.2, _, rfl, (LeL.refl _), rfl, rfl, aftL h0⟩
  · intro g3 h0
    unfold p_intss_k1 at h0
    change AC _ _ _ _
    refine AC.seq ?_
    refine AC.region ?_
    refine AO.op rfl (AOp.move rfl rfl (ltb rfl) rfl ?_)
    refine AO.op rfl (AOp.assign rfl rfl (ltb rfl) rfl ?_)
    refine AO.nil ?_
    change AC _ _ _ _
    refine AC.ret ?_
    change RetQ _ _ _ .ret _
    obtain rfl := Option.some.inj h0
    refine retq rfl rfl

set_option maxRecDepth 100000 in
set_option maxHeartbeats 1000000 in
/-- pub-orthodrome/impl.MaybeEmpty -/
theorem w_MaybeEmpty (F : Nat) (a0 : Int) (a1 : (List Nat)) (r0 : (TImpl_Geom × Bool)) (h0 : p_MaybeEmpty F a0 a1 = some r0) : FnD Try.prog 29 [di .i64 a0, eS0 a1] (fun r => r = .tu [e_TImpl_Geom r0.1, dbool r0.2]) := by
  refine FnD.wrap (g := 59) (m := 2) (fun vs w h => idle59 vs w h) (by kernel_rfl) Try.func29 rfl Try.ntmps29 rfl (leb rfl) fun W ok => ?_
  unfold p_MaybeEmpty at h0
  refine AW.seq ?_
  refine AC.region ?_
  refine AO.op rfl (AOp.alloc rfl rfl (ltb rfl) zero33 rfl ?_)
  refine AO.op rfl (AOp.alloc rfl rfl (ltb rfl) zero4 rfl ?_)
  refine AO.nil ?_
  refine ⟨rfl, ?_⟩
  refine AW.defer (caps := [.tmp 4, .tmp 5]) rfl rfl rfl (ltb rfl) rfl rfl rfl rfl (by kernel_rfl) rfl fun df => ?_
  refine AC.seq ?_
  refine AC.region ?_
  refine AO.op rfl (AOp.move rfl rfl (ltb rfl) rfl ?_)
  refine AO.op rfl (AOp.move rfl rfl (ltb rfl) rfl ?_)
  obtain ⟨y1, q2, h0⟩ := bind_elim h0
  refine AO.op rfl (AOp.callD rfl rfl (ltb rfl) rfl rfl (w_floats a1 y1 q2) ?_)
  rintro _ rfl
  obtain ⟨y3, q4, h0⟩ := bind_elim h0
  refine AO.op rfl (AOp.callD rfl rfl (ltb rfl) rfl rfl (w_NewPointFlatMaybeEmpty F a0 y1 y3 q4) ?_)
  rintro _ rfl
  refine AO.op rfl (AOp.makeIfc rfl rfl (ltb rfl) rfl conc89 ?_)
  refine AO.op rfl (AOp.inl [4, 5] (by kernel_rfl) Try.func60 rfl Try.ntmps60 rfl rfl (ltb rfl) rfl (leb rfl) rfl ?_)
  intro fr5
  refine AC.seq ?_
  refine AC.region ?_
  refine AO.op rfl (AOp.alloc rfl rfl (ltb rfl) zero33 rfl ?_)
  refine AO.nil ?_
  change AC _ _ _ _
  refine AC.seq ?_
  refine AC.region ?_
  refine AO.op rfl (AOp.move rfl rfl (ltb rfl) rfl ?_)
  refine AO.op rfl (AOp.inlE [0, 2] (EntersS.meth (by kernel_rfl) rfl rfl rfl meth89_SRID rfl rfl) Try.func152 rfl Try.ntmps152 rfl (ltb rfl) (leb rfl) rfl ?_)
  intro fr6
  refine AC.seq ?_
  refine AC.region ?_
  refine AO.op rfl (AOp.assign rfl rfl (ltb rfl) rfl ?_)
  refine AO.nil ?_
  change AC _ _ _ _
  refine AC.seq ?_
  refine AC.region ?_
  refine AO.op rfl (AOp.move rfl rfl (ltb rfl) rfl ?_)
  refine AO.op rfl (AOp.nilCheck rfl rfl (ltb rfl) rfl rfl ?_)
  refine AO.op rfl (AOp.fieldAddrEp rfl rfl (ltb rfl) rfl fo153_3 ?_)
  refine AO.op rfl (AOp.loadEp rfl rfl (ltb rfl) rfl agg3 rfl ?_)
  refine AO.op rfl (AOp.assign rfl rfl (ltb rfl) rfl ?_)
  refine AO.nil ?_
  change AC _ _ _ _
  refine AC.ret ?_
  refine inlret (ob' := [.fix 33 [.d (di .i64 (0 : Int)), .d (di .i64 (0 : Int)), .d (di .i64 (0 : Int)), .d (.v (.slice none 0 0)), .d (.v (.slice none 0 0)), .d (.v (.slice none 0 0)), .d (.v (.slice none 0 0))], .fix 4 [.d (dbool false)], .frame fr5 [(4, .ptr 0 0), (5, .ptr 1 0)], .fix 33 [.d (di .i64 (0 : Int)), .d (di .i64 (0 : Int)), .d (di .i64 (0 : Int)), .d (.v (.slice none 0 0)), .d (.v (.slice none 0 0)), .d (.v (.slice none 0 0)), .d (.v (.slice none 0 0))], .dead]) (e' := [(0, .ifc 89 (.d (.pt (c_TGeom_Point y3)))), (2, .ptr 3 0)]) (r := .d (di .i64 y3.geom0.srid)) rfl rfl rfl ?_
  change AO _ _ _ _ _
  refine AO.op rfl (AOp.build rfl rfl (ltb rfl) zero33 rfl places33 rfl rfl ?_)
  refine AO.op rfl (AOp.alloc rfl rfl (ltb rfl) zero33 rfl ?_)
  refine AO.op rfl (AOp.store rfl rfl rfl rfl size33 rfl rfl rfl (leb rfl) ?_)
  refine AO.nil ?_
  change AC _ _ _ _
  refine AC.seq ?_
  refine AC.seq ?_
  refine AC.region ?_
  refine AO.op rfl (AOp.move rfl rfl (ltb rfl) rfl ?_)
  refine AO.nil ?_
  change AC _ _ _ _
  refine AC.block ?_
  refine AC.seq ?_
  refine AC.region ?_
  refine AO.op rfl (AOp.assertYes rfl rfl (ltb rfl) rfl rfl pass89_89 rfl ?_)
  first | refine AO.op rfl (AOp.extractD rfl rfl (ltb rfl) rfl rfl ?_) | refine AO.op rfl (AOp.extract rfl rfl (ltb rfl) rfl rfl ?_)
  first | refine AO.op rfl (AOp.extractD rfl rfl (ltb rfl) rfl rfl ?_) | refine AO.op rfl (AOp.extract rfl rfl (ltb rfl) rfl rfl ?_)
  refine AO.nil ?_
  change AC _ _ _ _
  refine AC.condT rfl rfl ?_
  refine AC.seq ?_
  refine AC.region ?_
  refine AO.op rfl (AOp.assign rfl rfl (ltb rfl) rfl ?_)
  refine AO.nil ?_
  change AC _ _ _ _
  refine AC.region ?_
  refine AO.op rfl (AOp.fieldAddr rfl rfl (ltb rfl) rfl fo33_0 ?_)
  refine AO.op rfl (AOp.store rfl rfl rfl rfl size3 rfl rfl rfl (leb rfl) ?_)
  refine AO.nil ?_
  change AC _ _ _ _
  refine AC.seq ?_
  refine AC.region ?_
  refine AO.op rfl (AOp.move rfl rfl (ltb rfl) rfl ?_)
  refine AO.op rfl (AOp.inlE [0, 2, 3] (EntersS.meth (by kernel_rfl) rfl rfl rfl meth89_Layout rfl rfl) Try.func151 rfl Try.ntmps151 rfl (ltb rfl) (leb rfl) rfl ?_)
  intro fr7
  refine AC.seq ?_
  refine AC.region ?_
  refine AO.op rfl (AOp.assign rfl rfl (ltb rfl) rfl ?_)
  refine AO.nil ?_
  change AC _ _ _ _
  refine AC.seq ?_
  refine AC.region ?_
  refine AO.op rfl (AOp.move rfl rfl (ltb rfl) rfl ?_)
  refine AO.op rfl (AOp.nilCheck rfl rfl (ltb rfl) rfl rfl ?_)
  refine AO.op rfl (AOp.fieldAddrEp rfl rfl (ltb rfl) rfl fo153_0 ?_)
  refine AO.op rfl (AOp.loadEp rfl rfl (ltb rfl) rfl agg79 rfl ?_)
  refine AO.op rfl (AOp.assign rfl rfl (ltb rfl) rfl ?_)
  refine AO.nil ?_
  change AC _ _ _ _
  refine AC.ret ?_
  refine inlret (ob' := [.fix 33 [.d (di .i64 (0 : Int)), .d (di .i64 (0 : Int)), .d (di .i64 (0 : Int)), .d (.v (.slice none 0 0)), .d (.v (.slice none 0 0)), .d (.v (.slice none 0 0)), .d (.v (.slice none 0 0))], .fix 4 [.d (dbool false)], .frame fr5 [(4, .ptr 0 0), (5, .ptr 1 0)], .fix 33 [.d (di .i64 (0 : Int)), .d (di .i64 (0 : Int)), .d (di .i64 (0 : Int)), .d (.v (.slice none 0 0)), .d (.v (.slice none 0 0)), .d (.v (.slice none 0 0)), .d (.v (.slice none 0 0))], .dead, .fix 33 [.d (di .i64 (1 : Int)), .d (di .i64 (0 : Int)), .d (di .i64 y3.geom0.srid), .d (.v (.slice none 0 0)), .d (.v (.slice none 0 0)), .d (.v (.slice none 0 0)), .d (.v (.slice none 0 0))], .dead]) (e' := [(0, .ifc 89 (.d (.pt (c_TGeom_Point y3)))), (2, .ptr 3 0), (3, .ptr 5 0)]) (r := .d (di .i64 y3.geom0.layout)) rfl rfl rfl ?_
  change AO _ _ _ _ _
  refine AO.op rfl (AOp.move rfl rfl (ltb rfl) rfl ?_)
  refine AO.op rfl (AOp.inlE [0, 2, 3, 70] (EntersS.meth (by kernel_rfl) rfl rfl rfl meth89_FlatCoords rfl rfl) Try.func150 rfl Try.ntmps150 rfl (ltb rfl) (leb rfl) rfl ?_)
  intro fr8
  refine AC.seq ?_
  refine AC.region ?_
  refine AO.op rfl (AOp.assign rfl rfl (ltb rfl) rfl ?_)
  refine AO.nil ?_
  change AC _ _ _ _
  refine AC.seq ?_
  refine AC.region ?_
  refine AO.op rfl (AOp.move rfl rfl (ltb rfl) rfl ?_)
  refine AO.op rfl (AOp.nilCheck rfl rfl (ltb rfl) rfl rfl ?_)
  refine AO.op rfl (AOp.fieldAddrEp rfl rfl (ltb rfl) rfl fo153_2 ?_)
  refine AO.op rfl (AOp.loadEp rfl rfl (ltb rfl) rfl agg22 rfl ?_)
  refine AO.op rfl (AOp.assign rfl rfl (ltb rfl) rfl ?_)
  refine AO.nil ?_
  change AC _ _ _ _
  refine AC.ret ?_
  refine inlret (ob' := [.fix 33 [.d (di .i64 (0 : Int)), .d (di .i64 (0 : Int)), .d (di .i64 (0 : Int)), .d (.v (.slice none 0 0)), .d (.v (.slice none 0 0)), .d (.v (.slice none 0 0)), .d (.v (.slice none 0 0))], .fix 4 [.d (dbool false)], .frame fr5 [(4, .ptr 0 0), (5, .ptr 1 0)], .fix 33 [.d (di .i64 (0 : Int)), .d (di .i64 (0 : Int)), .d (di .i64 (0 : Int)), .d (.v (.slice none 0 0)), .d (.v (.slice none 0 0)), .d (.v (.slice none 0 0)), .d (.v (.slice none 0 0))], .dead, .fix 33 [.d (di .i64 (1 : Int)), .d (di .i64 (0 : Int)), .d (di .i64 y3.geom0.srid), .d (.v (.slice none 0 0)), .d (.v (.slice none 0 0)), .d (.v (.slice none 0 0)), .d (.v (.slice none 0 0))], .dead, .dead]) (e' := [(0, .ifc 89 (.d (.pt (c_TGeom_Point y3)))), (2, .ptr 3 0), (3, .ptr 5 0), (70, .d (di .i64 y3.geom0.layout))]) (r := .d (eS0 y3.geom0.flatCoords)) rfl rfl rfl ?_
  change AO _ _ _ _ _
  obtain ⟨y9, q10, h0⟩ := bind_elim h0
  refine AO.op rfl (AOp.callD rfl rfl (ltb rfl) rfl rfl (w_floats y3.geom0.flatCoords y9 q10) ?_)
  rintro _ rfl
  refine AO.op rfl (AOp.move rfl rfl (ltb rfl) rfl ?_)
  refine AO.op rfl (AOp.inlE [0, 2, 3, 70, 73] (EntersS.meth (by kernel_rfl) rfl rfl rfl meth89_Ends rfl rfl) Try.func148 rfl Try.ntmps148 rfl (ltb rfl) (leb rfl) rfl ?_)
  intro fr11
  refine AC.seq ?_
  refine AC.region ?_
  refine AO.op rfl (AOp.assign rfl rfl (ltb rfl) rfl ?_)
  refine AO.nil ?_
  change AC _ _ _ _
  refine AC.seq ?_
  refine AC.region ?_
  refine AO.op rfl (AOp.assign rfl rfl (ltb rfl) rfl ?_)
  refine AO.nil ?_
  change AC _ _ _ _
  refine AC.ret ?_
  refine inlret (ob' := [.fix 33 [.d (di .i64 (0 : Int)), .d (di .i64 (0 : Int)), .d (di .i64 (0 : Int)), .d (.v (.slice none 0 0)), .d (.v (.slice none 0 0)), .d (.v (.slice none 0 0)), .d (.v (.slice none 0 0))], .fix 4 [.d (dbool false)], .frame fr5 [(4, .ptr 0 0), (5, .ptr 1 0)], .fix 33 [.d (di .i64 (0 : Int)), .d (di .i64 (0 : Int)), .d (di .i64 (0 : Int)), .d (.v (.slice none 0 0)), .d (.v (.slice none 0 0)), .d (.v (.slice none 0 0)), .d (.v (.slice none 0 0))], .dead, .fix 33 [.d (di .i64 (1 : Int)), .d (di .i64 (0 : Int)), .d (di .i64 y3.geom0.srid), .d (.v (.slice none 0 0)), .d (.v (.slice none 0 0)), .d (.v (.slice none 0 0)), .d (.v (.slice none 0 0))], .dead, .dead, .dead]) (e' := [(0, .ifc 89 (.d (.pt (c_TGeom_Point y3)))), (2, .ptr 3 0), (3, .ptr 5 0), (70, .d (di .i64 y3.geom0.layout)), (73, .d (eS0 y9))]) (r := .d (.v (.slice none 0 0))) rfl rfl rfl ?_
  change AO _ _ _ _ _
  refine AO.sub 75 rfl (SVLe.nil 1) ?_
  obtain ⟨y12, q13, h0⟩ := bind_elim h0
  refine AO.op rfl (AOp.callD rfl rfl (ltb rfl) rfl rfl (w_ints [] y12 q13) ?_)
  rintro _ rfl
  refine AO.op rfl (AOp.move rfl rfl (ltb rfl) rfl ?_)
  refine AO.op rfl (AOp.inlE [2, 3, 70, 73, 76] (EntersS.meth (by kernel_rfl) rfl rfl rfl meth89_Endss rfl rfl) Try.func149 rfl Try.ntmps149 rfl (ltb rfl) (leb rfl) rfl ?_)
  intro fr14
  refine AC.seq ?_
  refine AC.region ?_
  refine AO.op rfl (AOp.assign rfl rfl (ltb rfl) rfl ?_)
  refine AO.nil ?_
  change AC _ _ _ _
  refine AC.seq ?_
  refine AC.region ?_
  refine AO.op rfl (AOp.assign rfl rfl (ltb rfl) rfl ?_)
  refine AO.nil ?_
  change AC _ _ _ _
  refine AC.ret ?_
  refine inlret (ob' := [.fix 33 [.d (di .i64 (0 : Int)), .d (di .i64 (0 : Int)), .d (di .i64 (0 : Int)), .d (.v (.slice none 0 0)), .d (.v (.slice none 0 0)), .d (.v (.slice none 0 0)), .d (.v (.slice none 0 0))], .fix 4 [.d (dbool false)], .frame fr5 [(4, .ptr 0 0), (5, .ptr 1 0)], .fix 33 [.d (di .i64 (0 : Int)), .d (di .i64 (0 : Int)), .d (di .i64 (0 : Int)), .d (.v (.slice none 0 0)), .d (.v (.slice none 0 0)), .d (.v (.slice none 0 0)), .d (.v (.slice none 0 0))], .dead, .fix 33 [.d (di .i64 (1 : Int)), .d (di .i64 (0 : Int)), .d (di .i64 y3.geom0.srid), .d (.v (.slice none 0 0)), .d (.v (.slice none 0 0)), .d (.v (.slice none 0 0)), .d (.v (.slice none 0 0))], .dead, .dead, .dead, .dead]) (e' := [(2, .ptr 3 0), (3, .ptr 5 0), (70, .d (di .i64 y3.geom0.layout)), (73, .d (eS0 y9)), (76, .d (eS2 y12))]) (r := .d (.v (.slice none 0 0))) rfl rfl rfl ?_
  change AO _ _ _ _ _
  refine AO.sub 78 rfl (SVLe.nil 1) ?_
  obtain ⟨y15, q16, h0⟩ := bind_elim h0
  refine AO.op rfl (AOp.callD rfl rfl (ltb rfl) rfl rfl (w_intss F [] y15 q16) ?_)
  rintro _ rfl
  refine AO.op rfl (AOp.fieldAddr rfl rfl (ltb rfl) rfl fo33_1 ?_)
  refine AO.op rfl (AOp.store rfl rfl rfl rfl size3 rfl rfl rfl (leb rfl) ?_)
  refine AO.op rfl (AOp.fieldAddr rfl rfl (ltb rfl) rfl fo33_3 ?_)
  refine AO.op rfl (AOp.store rfl rfl rfl rfl size22 rfl rfl rfl (leb rfl) ?_)
  refine AO.op rfl (AOp.fieldAddr rfl rfl (ltb rfl) rfl fo33_4 ?_)
  refine AO.op rfl (AOp.store rfl rfl rfl rfl size29 rfl rfl rfl (leb rfl) ?_)
  refine AO.op rfl (AOp.fieldAddr rfl rfl (ltb rfl) rfl fo33_5 ?_)
  refine AO.op rfl (AOp.store rfl rfl rfl rfl size30 rfl rfl rfl (leb rfl) ?_)
  refine AO.nil ?_
  change AC _ _ _ _
  refine AC.seq ?_
  refine AC.region ?_
  refine AO.op rfl (AOp.loadN rfl rfl (ltb rfl) rfl agg33 size33 rfl (leb rfl) rfl ?_)
  refine AO.op rfl (AOp.store rfl rfl rfl rfl size33 rfl rfl rfl (leb rfl) ?_)
  refine AO.nil ?_
  change AC _ _ _ _
  refine AC.ret ?_
  refine inlret (ob' := [.fix 33 [.d (di .i64 (0 : Int)), .d (di .i64 (0 : Int)), .d (di .i64 (0 : Int)), .d (.v (.slice none 0 0)), .d (.v (.slice none 0 0)), .d (.v (.slice none 0 0)), .d (.v (.slice none 0 0))], .fix 4 [.d (dbool false)], .dead, .fix 33 [.d (di .i64 (1 : Int)), .d (di .i64 y3.geom0.layout), .d (di .i64 y3.geom0.srid), .d (eS0 y9), .d (eS2 y12), .d (eS3 y15), .d (.v (.slice none 0 0))], .dead, .fix 33 [.d (di .i64 (1 : Int)), .d (di .i64 y3.geom0.layout), .d (di .i64 y3.geom0.srid), .d (eS0 y9), .d (eS2 y12), .d (eS3 y15), .d (.v (.slice none 0 0))], .dead, .dead, .dead, .dead]) (e' := [(4, .ptr 0 0), (5, .ptr 1 0)]) (r := .ag [.d (di .i64 (1 : Int)), .d (di .i64 y3.geom0.layout), .d (di .i64 y3.geom0.srid), .d (eS0 y9), .d (eS2 y12), .d (eS3 y15), .d (.v (.slice none 0 0))]) rfl rfl rfl ?_
  change AO _ _ _ _ _
  refine AO.op rfl (AOp.store rfl rfl rfl rfl size33 rfl rfl rfl (leb rfl) ?_)
  refine AO.op rfl (AOp.store rfl rfl rfl rfl size4 rfl rfl rfl (leb rfl) ?_)
  refine AO.nil ?_
  change AC _ _ _ _
  refine AC.subO 0 rfl (.cons (SVLe.refl _) (.cons (SVLe.refl _) (.cons (SVLe.refl _) (.cons (SVLe.refl _) (.cons (SVLe.refl _) (.cons (SVLe.refl _) (.cons (SVLe.nil 7) .nil))))))) ?_
  refine AC.ret ?_
  change RetQ _ _ _ .ret _
  obtain rfl := Option.some.inj h0
  refine retq rfl rfl

set_option maxRecDepth 100000 in
set_option maxHeartbeats 1000000 in
/-- pub-orthodrome/spec.SameFloats -/
theorem w_SameFloats (F : Nat) (a0 : (List Nat)) (a1 : (List Nat)) (r0 : Bool) (h0 : p_SameFloats F a0 a1 = some r0) : FnD Try.prog 40 [eS0 a0, eS0 a1] (fun r => r = dbool r0) := by
  refine FnD.of (by kernel_rfl) Try.func40 rfl Try.ntmps40 rfl (leb rfl) fun W ok => ?_
  unfold p_SameFloats at h0
  refine AC.seq ?_
  refine AC.region ?_
  refine AO.op rfl (AOp.assign rfl rfl (ltb rfl) rfl ?_)
  refine AO.nil ?_
  change AC _ _ _ _
  refine AC.seq ?_
  refine AC.seq ?_
  refine AC.region ?_
  refine AO.op rfl (AOp.move rfl rfl (ltb rfl) rfl ?_)
  refine AO.op rfl (AOp.lenDs (n := a0.length) (cells := (List.map keS0 a0)) rfl rfl (ltb rfl) rfl el22 (by decide) (len1 _ _) ?_)
  refine AO.op rfl (AOp.move rfl rfl (ltb rfl) rfl ?_)
  refine AO.op rfl (AOp.lenDs (n := a1.length) (cells := (List.map keS0 a1)) rfl rfl (ltb rfl) rfl el22 (by decide) (len1 _ _) ?_)
  refine AO.op rfl (AOp.ineq rfl rfl (ltb rfl) rfl rfl ?_)
  refine AO.nil ?_
  change AC _ _ _ _
  refine AC.cond rfl (fun q1 => ?_) (fun q1 => ?_)
  · replace h0 := cT h0 q1
    refine AC.seq ?_
    refine AC.region ?_
    refine AO.op rfl (AOp.assign rfl rfl (ltb rfl) rfl ?_)
    refine AO.nil ?_
    change AC _ _ _ _
    refine AC.ret ?_
    change RetQ _ _ _ .ret _
    obtain rfl := Option.some.inj h0
    refine retq rfl rfl
  · replace h0 := cF h0 q1
    refine AC.skip ?_
    change AC _ _ _ _
    refine AC.seq ?_
    refine AC.seq ?_
    refine AC.region ?_
    refine AO.op rfl (AOp.move rfl rfl (ltb rfl) rfl ?_)
    refine AO.op rfl (AOp.lenDs (n := a0.length) (cells := (List.map keS0 a0)) rfl rfl (ltb rfl) rfl el22 (by decide) (len1 _ _) ?_)
    refine AO.op rfl (AOp.move rfl rfl (ltb rfl) rfl ?_)
    refine AO.nil ?_
    change AC _ _ _ _
    obtain ⟨o2, l3, h0⟩ := bind_elim h0
    refine AC.joinE (V := Unit) [] [] 0 (fun g4 => []) (fun g4 => []) (fun g4 => p_SameFloats_k1 g4 = some r0) rfl ?_ ?_
    · refine AC.block ?_
      refine AC.loopP (V := Int) (p_SameFloats_l2 a0 a1) o2 [1, 12, 13] [14] 0 (fun g5 => [(14, .d (di .i64 g5))]) (fun g5 => []) F (0 : Int) l3 rfl rfl (LeL.refl _) rfl rfl ?_
      intro n7 g5 h1
      unfold p_SameFloats_l2 at h1
      refine AC.seq ?_
      refine AC.region ?_
      refine AO.op rfl (AOp.ilss rfl rfl (ltb rfl) rfl rfl ?_)
      refine AO.nil ?_
      change AC _ _ _ _
      refine AC.seq ?_
      refine AC.cond rfl (fun q8 => ?_) (fun q8 => ?_)
      · replace h1 := cT h1 q8
        refine AC.skip ?_
        change AC _ _ _ _
        refine AC.seq ?_
        refine AC.block ?_
        refine AC.seq ?_
        refine AC.region ?_
        refine AO.op rfl (AOp.move rfl rfl (ltb rfl) rfl ?_)
        obtain ⟨x9, q10, h1⟩ := idx_elim h1
        refine AO.op rfl (AOp.indexDs (cells := (List.map keS0 a0)) rfl rfl (ltb rfl) rfl rfl el22 (by decide) q10.1 (lt1 q10.2) ?_)
        refine AO.op rfl (AOp.loadEp rfl rfl (ltb rfl) rfl agg40 (at1 q10.2) ?_)
        refine AO.op rfl (AOp.assign rfl rfl (ltb rfl) rfl ?_)
        refine AO.op rfl (AOp.assign rfl rfl (ltb rfl) rfl ?_)
        refine AO.nil ?_
        change AC _ _ _ _
        refine AC.seq ?_
        refine AC.draw 8 mixed (by kernel_rfl) ?_
        refine AD.op [6] rfl (by kernel_rfl) rfl rfl (fun _ _ h => AOp.move rfl rfl (ltb rfl) rfl h) ?_
        refine AD.op [19] rfl (by kernel_rfl) rfl rfl (fun _ _ h => AOp.callX [.float .f64 x9] rfl rfl (ltb rfl) rfl (callBits x9) h) ?_
        refine AD.op [1] rfl (by kernel_rfl) rfl rfl (fun _ _ h => AOp.move rfl rfl (ltb rfl) rfl h) ?_
        refine AD.op [5] rfl (by kernel_rfl) rfl rfl (fun _ _ h => AOp.move rfl rfl (ltb rfl) rfl h) ?_
        obtain ⟨x11, q12, h1⟩ := idx_elim h1
        refine AD.op [21, 22] rfl (by kernel_rfl) rfl rfl (fun _ _ h => AOp.indexDs (cells := (List.map keS0 a1)) rfl rfl (ltb rfl) rfl rfl el22 (by decide) q12.1 (lt1 q12.2) h) ?_
        refine AD.op [23] rfl (by kernel_rfl) rfl rfl (fun _ _ h => AOp.loadEp rfl rfl (ltb rfl) rfl agg40 (at1 q12.2) h) ?_
        refine AD.op [24] rfl (by kernel_rfl) rfl rfl (fun _ _ h => AOp.callX [.float .f64 x11] rfl rfl (ltb rfl) rfl (callBits x11) h) ?_
        refine AD.op [20, 25] rfl (by kernel_rfl) rfl rfl (fun _ _ h => AOp.ineq rfl rfl (ltb rfl) rfl rfl h) ?_
        refine AD.done ?_
        refine AO.nil ?_
        change AC _ _ _ _
        refine AC.cond rfl (fun q13 => ?_) (fun q13 => ?_)
        · replace h1 := cT h1 q13
          refine AC.seq ?_
          refine AC.region ?_
          refine AO.op rfl (AOp.assign rfl rfl (ltb rfl) rfl ?_)
          refine AO.nil ?_
          change AC _ _ _ _
          refine AC.ret ?_
          change RetQ _ _ _ .ret _
          obtain rfl := Option.some.inj h1
          replace h0 := aftR h0
          obtain rfl := Option.some.inj h0
          refine retq rfl rfl
        · replace h1 := cF h1 q13
          refine AC.skip ?_
          change AC _ _ _ _
          refine AC.region ?_
          obtain ⟨q14, h1⟩ := need_elim h1
          refine AO.op rfl (AOp.iadd rfl rfl (ltb rfl) rfl rfl rfl q14.1 q14.2 ?_)
          refine AO.op rfl (AOp.move rfl rfl (ltb rfl) rfl ?_)
          refine AO.nil ?_
          exact ⟨(g5 + (1 : Int)), _, rfl, (LeL.refl _), rfl, rfl, h1⟩
      · replace h1 := cF h1 q8
        refine AC.exit ?_
        obtain rfl := Option.some.inj h1
        exact ⟨(), _, rfl, (LeL.refl _), rfl, rfl, aftL h0⟩
    · intro g4 h0
      unfold p_SameFloats_k1 at h0
      change AC _ _ _ _
      refine AC.seq ?_
      refine AC.region ?_
      refine AO.op rfl (AOp.assign rfl rfl (ltb rfl) rfl ?_)
      refine AO.nil ?_
      change AC _ _ _ _
      refine AC.ret ?_
      change RetQ _ _ _ .ret _
      obtain rfl := Option.some.inj h0
      refine retq rfl rfl

set_option maxRecDepth 100000 in
set_option maxHeartbeats 1000000 in
/-- pub-orthodrome/spec.sameInts -/
theorem w_sameInts (F : Nat) (a0 : (List Int)) (a1 : (List Int)) (r0 : Bool) (h0 : p_sameInts F a0 a1 = some r0) : FnD Try.prog 63 [eS2 a0, eS2 a1] (fun r => r = dbool r0) := by
  refine FnD.of (by kernel_rfl) Try.func63 rfl Try.ntmps63 rfl (leb rfl) fun W ok => ?_
  unfold p_sameInts at h0
  refine AC.seq ?_
  refine AC.region ?_
  refine AO.op rfl (AOp.assign rfl rfl (ltb rfl) rfl ?_)
  refine AO.nil ?_
  change AC _ _ _ _
  refine AC.seq ?_
  refine AC.seq ?_
  refine AC.region ?_
  refine AO.op rfl (AOp.move rfl rfl (ltb rfl) rfl ?_)
  refine AO.op rfl (AOp.lenDs (n := a0.length) (cells := (List.map keS2 a0)) rfl rfl (ltb rfl) rfl el29 (by decide) (len1 _ _) ?_)
  refine AO.op rfl (AOp.move rfl rfl (ltb rfl) rfl ?_)
  refine AO.op rfl (AOp.lenDs (n := a1.length) (cells := (List.map keS2 a1)) rfl rfl (ltb rfl) rfl el29 (by decide) (len1 _ _) ?_)
  refine AO.op rfl (AOp.ineq rfl rfl (ltb rfl) rfl rfl ?_)
  refine AO.nil ?_
  change AC _ _ _ _
  refine AC.cond rfl (fun q1 => ?_) (fun q1 => ?_)
  · replace h0 := cT h0 q1
    refine AC.seq ?_
    refine AC.region ?_
    refine AO.op rfl (AOp.assign rfl rfl (ltb rfl) rfl ?_)
    refine AO.nil ?_
    change AC _ _ _ _
    refine AC.ret ?_
    change RetQ _ _ _ .ret _
    obtain rfl := Option.some.inj h0
    refine retq rfl rfl
  · replace h0 := cF h0 q1
    refine AC.skip ?_
    change AC _ _ _ _
    refine AC.seq ?_
    refine AC.seq ?_
    refine AC.region ?_
    refine AO.op rfl (AOp.move rfl rfl (ltb rfl) rfl ?_)
    refine AO.op rfl (AOp.lenDs (n := a0.length) (cells := (List.map keS2 a0)) rfl rfl (ltb rfl) rfl el29 (by decide) (len1 _ _) ?_)
    refine AO.op rfl (AOp.move rfl rfl (ltb rfl) rfl ?_)
    refine AO.nil ?_
    change AC _ _ _ _
    obtain ⟨o2, l3, h0⟩ := bind_elim h0
    refine AC.joinE (V := Unit) [] [] 0 (fun g4 => []) (fun g4 => []) (fun g4 => p_sameInts_k1 g4 = some r0) rfl ?_ ?_
    · refine AC.block ?_
      refine AC.loopP (V := Int) (p_sameInts_l2 a0 a1) o2 [1, 12, 13] [14] 0 (fun g5 => [(14, .d (di .i64 g5))]) (fun g5 => []) F (0 : Int) l3 rfl rfl (LeL.refl _) rfl rfl ?_
      intro n7 g5 h1
      unfold p_sameInts_l2 at h1
      refine AC.seq ?_
      refine AC.region ?_
      refine AO.op rfl (AOp.ilss rfl rfl (ltb rfl) rfl rfl ?_)
      refine AO.nil ?_
      change AC _ _ _ _
      refine AC.seq ?_
      refine AC.cond rfl (fun q8 => ?_) (fun q8 => ?_)
      · replace h1 := cT h1 q8
        refine AC.skip ?_
        change AC _ _ _ _
        refine AC.seq ?_
        refine AC.block ?_
        refine AC.seq ?_
        refine AC.region ?_
        refine AO.op rfl (AOp.move rfl rfl (ltb rfl) rfl ?_)
        obtain ⟨x9, q10, h1⟩ := idx_elim h1
        refine AO.op rfl (AOp.indexDs (cells := (List.map keS2 a0)) rfl rfl (ltb rfl) rfl rfl el29 (by decide) q10.1 (lt1 q10.2) ?_)
        refine AO.op rfl (AOp.loadEp rfl rfl (ltb rfl) rfl agg3 (at1 q10.2) ?_)
        refine AO.op rfl (AOp.assign rfl rfl (ltb rfl) rfl ?_)
        refine AO.op rfl (AOp.assign rfl rfl (ltb rfl) rfl ?_)
        refine AO.nil ?_
        change AC _ _ _ _
        refine AC.seq ?_
        refine AC.region ?_
        refine AO.op rfl (AOp.move rfl rfl (ltb rfl) rfl ?_)
        refine AO.op rfl (AOp.move rfl rfl (ltb rfl) rfl ?_)
        refine AO.op rfl (AOp.move rfl rfl (ltb rfl) rfl ?_)
        obtain ⟨x11, q12, h1⟩ := idx_elim h1
        refine AO.op rfl (AOp.indexDs (cells := (List.map keS2 a1)) rfl rfl (ltb rfl) rfl rfl el29 (by decide) q12.1 (lt1 q12.2) ?_)
        refine AO.op rfl (AOp.loadEp rfl rfl (ltb rfl) rfl agg3 (at1 q12.2) ?_)
        refine AO.op rfl (AOp.ineq rfl rfl (ltb rfl) rfl rfl ?_)
        refine AO.nil ?_
        change AC _ _ _ _
        refine AC.cond rfl (fun q13 => ?_) (fun q13 => ?_)
        · replace h1 := cT h1 q13
          refine AC.seq ?_
          refine AC.region ?_
          refine AO.op rfl (AOp.assign rfl rfl (ltb rfl) rfl ?_)
          refine AO.nil ?_
          change AC _ _ _ _
          refine AC.ret ?_
          change RetQ _ _ _ .ret _
          obtain rfl := Option.some.inj h1
          replace h0 := aftR h0
          obtain rfl := Option.some.inj h0
          refine retq rfl rfl
        · replace h1 := cF h1 q13
          refine AC.skip ?_
          change AC _ _ _ _
          refine AC.region ?_
          obtain ⟨q14, h1⟩ := need_elim h1
          refine AO.op rfl (AOp.iadd rfl rfl (ltb rfl) rfl rfl rfl q14.1 q14.2 ?_)
          refine AO.op rfl (AOp.move rfl rfl (ltb rfl) rfl ?_)
          refine AO.nil ?_
          exact ⟨(g5 + (1 : Int)), _, rfl, (LeL.refl _), rfl, rfl, h1⟩
      · replace h1 := cF h1 q8
        refine AC.exit ?_
        obtain rfl := Option.some.inj h1
        exact ⟨(), _, rfl, (LeL.refl _), rfl, rfl, aftL h0⟩
    · intro g4 h0
      unfold p_sameInts_k1 at h0
      change AC _ _ _ _
      refine AC.seq ?_
      refine AC.region ?_
      refine AO.op rfl (AOp.assign rfl rfl (ltb rfl) rfl ?_)
      refine AO.nil ?_
      change AC _ _ _ _
      refine AC.ret ?_
      change RetQ _ _ _ .ret _
      obtain rfl := Option.some.inj h0
      refine retq rfl rfl

set_option maxRecDepth 100000 in
set_option maxHeartbeats 1000000 in
/-- pub-orthodrome/spec.SameGeom -/
theorem w_SameGeom_b (Rec_ : TImpl_Geom → TImpl_Geom → Option Bool) (hR : ∀ (a0 : TImpl_Geom) (a1 : TImpl_Geom) (r0 : Bool), Rec_ a0 a1 = some r0 → FnD Try.prog 30 [e_TImpl_Geom a0, e_TImpl_Geom a1] (fun r => r = dbool r0)) (F : Nat) (a0 : TImpl_Geom) (a1 : TImpl_Geom) (r0 : Bool) (h0 : p_SameGeom_b Rec_ F a0 a1 = some r0) : FnD Try.prog 30 [e_TImpl_Geom a0, e_TImpl_Geom a1] (fun r => r = dbool r0) := by
  refine FnD.of (by kernel_rfl) Try.func30 rfl Try.ntmps30 rfl (leb rfl) fun W ok => ?_
  unfold p_SameGeom_b at h0
  refine AC.seq ?_
  refine AC.region ?_
  refine AO.op rfl (AOp.box rfl rfl (ltb rfl) rfl rfl ?_)
  refine AO.op rfl (AOp.box rfl rfl (ltb rfl) rfl rfl ?_)
  refine AO.op rfl (AOp.assign rfl rfl (ltb rfl) rfl ?_)
  refine AO.nil ?_
  change AC _ _ _ _
  refine AC.seq ?_
  refine AC.joinP (V := Bool) [2, 3] [61] 2 (fun g1 => [(61, .d (dbool g1))]) (fun g1 => [.fix 33 [.d (di .i64 a0.Kind), .d (di .i64 a0.Layout), .d (di .i64 a0.SRID), .d (eS0 a0.Flat), .d (eS2 a0.Ends), .d (eS3 a0.Endss), .d (eS1 a0.Kids)], .fix 33 [.d (di .i64 a1.Kind), .d (di .i64 a1.Layout), .d (di .i64 a1.SRID), .d (eS0 a1.Flat), .d (eS2 a1.Ends), .d (eS3 a1.Endss), .d (eS1 a1.Kids)]]) (fun g1 => (p_SameGeom_k1 a0 a1 F Rec_) g1 = some r0) rfl ?_ ?_
  · refine AC.region ?_
    refine AO.op rfl (AOp.fieldAddr rfl rfl (ltb rfl) rfl fo33_0 ?_)
    refine AO.op rfl (AOp.load1 rfl rfl (ltb rfl) rfl agg3 rfl rfl ?_)
    refine AO.op rfl (AOp.fieldAddr rfl rfl (ltb rfl) rfl fo33_0 ?_)
    refine AO.op rfl (AOp.load1 rfl rfl (ltb rfl) rfl agg3 rfl rfl ?_)
    refine AO.op rfl (AOp.ineq rfl rfl (ltb rfl) rfl rfl ?_)
    refine AO.op rfl (AOp.move rfl rfl (ltb rfl) rfl ?_)
    refine AO.dec (!decide (a0.Kind = a1.Kind)) (fun q33 => ?_) (fun q33 => ?_)
    · replace h0 := cT h0 q33
      refine AO.guardN rfl rfl rfl (ltb rfl) rfl q33 ?_
      refine AO.guardN rfl rfl rfl (ltb rfl) rfl q33 ?_
      refine AO.guardN rfl rfl rfl (ltb rfl) rfl q33 ?_
      refine AO.guardN rfl rfl rfl (ltb rfl) rfl q33 ?_
      refine AO.guardN rfl rfl rfl (ltb rfl) rfl q33 ?_
      refine AO.op rfl (AOp.pick rfl rfl (ltb rfl) rfl q33 rfl ?_)
      refine AO.op rfl (AOp.move rfl rfl (ltb rfl) rfl ?_)
      refine AO.guardN rfl rfl rfl (ltb rfl) rfl rfl ?_
      refine AO.guardN rfl rfl rfl (ltb rfl) rfl rfl ?_
      refine AO.guardN rfl rfl rfl (ltb rfl) rfl rfl ?_
      refine AO.guardN rfl rfl rfl (ltb rfl) rfl rfl ?_
      refine AO.guardN rfl rfl rfl (ltb rfl) rfl rfl ?_
      refine AO.op rfl (AOp.pick rfl rfl (ltb rfl) rfl rfl rfl ?_)
      refine AO.op rfl (AOp.move rfl rfl (ltb rfl) rfl ?_)
      refine AO.guardN rfl rfl rfl (ltb rfl) rfl rfl ?_
      refine AO.guardN rfl rfl rfl (ltb rfl) rfl rfl ?_
      refine AO.guardN rfl rfl rfl (ltb rfl) rfl rfl ?_
      refine AO.guardN rfl rfl rfl (ltb rfl) rfl rfl ?_
      refine AO.guardN rfl rfl rfl (ltb rfl) rfl rfl ?_
      refine AO.guardN rfl rfl rfl (ltb rfl) rfl rfl ?_
      refine AO.op rfl (AOp.pick rfl rfl (ltb rfl) rfl rfl rfl ?_)
      refine AO.op rfl (AOp.move rfl rfl (ltb rfl) rfl ?_)
      refine AO.guardN rfl rfl rfl (ltb rfl) rfl rfl ?_
      refine AO.guardN rfl rfl rfl (ltb rfl) rfl rfl ?_
      refine AO.guardN rfl rfl rfl (ltb rfl) rfl rfl ?_
      refine AO.guardN rfl rfl rfl (ltb rfl) rfl rfl ?_
      refine AO.guardN rfl rfl rfl (ltb rfl) rfl rfl ?_
      refine AO.guardN rfl rfl rfl (ltb rfl) rfl rfl ?_
      refine AO.op rfl (AOp.pick rfl rfl (ltb rfl) rfl rfl rfl ?_)
      refine AO.op rfl (AOp.move rfl rfl (ltb rfl) rfl ?_)
      refine AO.guardN rfl rfl rfl (ltb rfl) rfl rfl ?_
      refine AO.guardN rfl rfl rfl (ltb rfl) rfl rfl ?_
      refine AO.guardN rfl rfl rfl (ltb rfl) rfl rfl ?_
      refine AO.guardN rfl rfl rfl (ltb rfl) rfl rfl ?_
      refine AO.guardN rfl rfl rfl (ltb rfl) rfl rfl ?_
      refine AO.guardN rfl rfl rfl (ltb rfl) rfl rfl ?_
      refine AO.guardN rfl rfl rfl (ltb rfl) rfl rfl ?_
      refine AO.op rfl (AOp.pick rfl rfl (ltb rfl) rfl rfl rfl ?_)
      refine AO.op rfl (AOp.move rfl rfl (ltb rfl) rfl ?_)
      refine AO.guardN rfl rfl rfl (ltb rfl) rfl rfl ?_
      refine AO.guardN rfl rfl rfl (ltb rfl) rfl rfl ?_
      refine AO.guardN rfl rfl rfl (ltb rfl) rfl rfl ?_
      refine AO.guardN rfl rfl rfl (ltb rfl) rfl rfl ?_
      refine AO.guardN rfl rfl rfl (ltb rfl) rfl rfl ?_
      refine AO.guardN rfl rfl rfl (ltb rfl) rfl rfl ?_
      refine AO.guardN rfl rfl rfl (ltb rfl) rfl rfl ?_
      refine AO.op rfl (AOp.pick rfl rfl (ltb rfl) rfl rfl rfl ?_)
      refine AO.nil ?_
      exact ⟨true, _, rfl, (LeL.refl _), rfl, rfl, h0⟩
    · replace h0 := cF h0 q33
      refine AO.guardY rfl rfl rfl q33 (AOp.fieldAddr rfl rfl (ltb rfl) rfl fo33_1 ?_)
      refine AO.guardY rfl rfl rfl q33 (AOp.load1 rfl rfl (ltb rfl) rfl agg3 rfl rfl ?_)
      refine AO.guardY rfl rfl rfl q33 (AOp.fieldAddr rfl rfl (ltb rfl) rfl fo33_1 ?_)
      refine AO.guardY rfl rfl rfl q33 (AOp.load1 rfl rfl (ltb rfl) rfl agg3 rfl rfl ?_)
      refine AO.guardY rfl rfl rfl q33 (AOp.ineq rfl rfl (ltb rfl) rfl rfl ?_)
      refine AO.op rfl (AOp.pickN rfl rfl (ltb rfl) rfl q33 rfl ?_)
      refine AO.op rfl (AOp.move rfl rfl (ltb rfl) rfl ?_)
      refine AO.dec (!decide (a0.Layout = a1.Layout)) (fun q34 => ?_) (fun q34 => ?_)
      · replace h0 := cT h0 q34
        refine AO.guardN rfl rfl rfl (ltb rfl) rfl q34 ?_
        refine AO.guardN rfl rfl rfl (ltb rfl) rfl q34 ?_
        refine AO.guardN rfl rfl rfl (ltb rfl) rfl q34 ?_
        refine AO.guardN rfl rfl rfl (ltb rfl) rfl q34 ?_
        refine AO.guardN rfl rfl rfl (ltb rfl) rfl q34 ?_
        refine AO.op rfl (AOp.pick rfl rfl (ltb rfl) rfl q34 rfl ?_)
        refine AO.op rfl (AOp.move rfl rfl (ltb rfl) rfl ?_)
        refine AO.guardN rfl rfl rfl (ltb rfl) rfl rfl ?_
        refine AO.guardN rfl rfl rfl (ltb rfl) rfl rfl ?_
        refine AO.guardN rfl rfl rfl (ltb rfl) rfl rfl ?_
        refine AO.guardN rfl rfl rfl (ltb rfl) rfl rfl ?_
        refine AO.guardN rfl rfl rfl (ltb rfl) rfl rfl ?_
        refine AO.guardN rfl rfl rfl (ltb rfl) rfl rfl ?_
        refine AO.op rfl (AOp.pick rfl rfl (ltb rfl) rfl rfl rfl ?_)
        refine AO.op rfl (AOp.move rfl rfl (ltb rfl) rfl ?_)
        refine AO.guardN rfl rfl rfl (ltb rfl) rfl rfl ?_
        refine AO.guardN rfl rfl rfl (ltb rfl) rfl rfl ?_
        refine AO.guardN rfl rfl rfl (ltb rfl) rfl rfl ?_
        refine AO.guardN rfl rfl rfl (ltb rfl) rfl rfl ?_
        refine AO.guardN rfl rfl rfl (ltb rfl) rfl rfl ?_
        refine AO.guardN rfl rfl rfl (ltb rfl) rfl rfl ?_
        refine AO.op rfl (AOp.pick rfl rfl (ltb rfl) rfl rfl rfl ?_)
        refine AO.op rfl (AOp.move rfl rfl (ltb rfl) rfl ?_)
        refine AO.guardN rfl rfl rfl (ltb rfl) rfl rfl ?_
        refine AO.guardN rfl rfl rfl (ltb rfl) rfl rfl ?_
        refine AO.guardN rfl rfl rfl (ltb rfl) rfl rfl ?_
        refine AO.guardN rfl rfl rfl (ltb rfl) rfl rfl ?_
        refine AO.guardN rfl rfl rfl (ltb rfl) rfl rfl ?_
        refine AO.guardN rfl rfl rfl (ltb rfl) rfl rfl ?_
        refine AO.guardN rfl rfl rfl (ltb rfl) rfl rfl ?_
        refine AO.op rfl (AOp.pick rfl rfl (ltb rfl) rfl rfl rfl ?_)
        refine AO.op rfl (AOp.move rfl rfl (ltb rfl) rfl ?_)
        refine AO.guardN rfl rfl rfl (ltb rfl) rfl rfl ?_
        refine AO.guardN rfl rfl rfl (ltb rfl) rfl rfl ?_
        refine AO.guardN rfl rfl rfl (ltb rfl) rfl rfl ?_
        refine AO.guardN rfl rfl rfl (ltb rfl) rfl rfl ?_
        refine AO.guardN rfl rfl rfl (ltb rfl) rfl rfl ?_
        refine AO.guardN rfl rfl rfl (ltb rfl) rfl rfl ?_
        refine AO.guardN rfl rfl rfl (ltb rfl) rfl rfl ?_
        refine AO.op rfl (AOp.pick rfl rfl (ltb rfl) rfl rfl rfl ?_)
        refine AO.nil ?_
        exact ⟨true, _, rfl, (LeL.refl _), rfl, rfl, h0⟩
      · replace h0 := cF h0 q34
        refine AO.guardY rfl rfl rfl q34 (AOp.fieldAddr rfl rfl (ltb rfl) rfl fo33_2 ?_)
        refine AO.guardY rfl rfl rfl q34 (AOp.load1 rfl rfl (ltb rfl) rfl agg3 rfl rfl ?_)
        refine AO.guardY rfl rfl rfl q34 (AOp.fieldAddr rfl rfl (ltb rfl) rfl fo33_2 ?_)
        refine AO.guardY rfl rfl rfl q34 (AOp.load1 rfl rfl (ltb rfl) rfl agg3 rfl rfl ?_)
        refine AO.guardY rfl rfl rfl q34 (AOp.ineq rfl rfl (ltb rfl) rfl rfl ?_)
        refine AO.op rfl (AOp.pickN rfl rfl (ltb rfl) rfl q34 rfl ?_)
        refine AO.op rfl (AOp.move rfl rfl (ltb rfl) rfl ?_)
        refine AO.dec (!decide (a0.SRID = a1.SRID)) (fun q35 => ?_) (fun q35 => ?_)
        · replace h0 := cT h0 q35
          refine AO.guardN rfl rfl rfl (ltb rfl) rfl q35 ?_
          refine AO.guardN rfl rfl rfl (ltb rfl) rfl q35 ?_
          refine AO.guardN rfl rfl rfl (ltb rfl) rfl q35 ?_
          refine AO.guardN rfl rfl rfl (ltb rfl) rfl q35 ?_
          refine AO.guardN rfl rfl rfl (ltb rfl) rfl q35 ?_
          refine AO.guardN rfl rfl rfl (ltb rfl) rfl q35 ?_
          refine AO.op rfl (AOp.pick rfl rfl (ltb rfl) rfl q35 rfl ?_)
          refine AO.op rfl (AOp.move rfl rfl (ltb rfl) rfl ?_)
          refine AO.guardN rfl rfl rfl (ltb rfl) rfl rfl ?_
          refine AO.guardN rfl rfl rfl (ltb rfl) rfl rfl ?_
          refine AO.guardN rfl rfl rfl (ltb rfl) rfl rfl ?_
          refine AO.guardN rfl rfl rfl (ltb rfl) rfl rfl ?_
          refine AO.guardN rfl rfl rfl (ltb rfl) rfl rfl ?_
          refine AO.guardN rfl rfl rfl (ltb rfl) rfl rfl ?_
          refine AO.op rfl (AOp.pick rfl rfl (ltb rfl) rfl rfl rfl ?_)
          refine AO.op rfl (AOp.move rfl rfl (ltb rfl) rfl ?_)
          refine AO.guardN rfl rfl rfl (ltb rfl) rfl rfl ?_
          refine AO.guardN rfl rfl rfl (ltb rfl) rfl rfl ?_
          refine AO.guardN rfl rfl rfl (ltb rfl) rfl rfl ?_
          refine AO.guardN rfl rfl rfl (ltb rfl) rfl rfl ?_
          refine AO.guardN rfl rfl rfl (ltb rfl) rfl rfl ?_
          refine AO.guardN rfl rfl rfl (ltb rfl) rfl rfl ?_
          refine AO.guardN rfl rfl rfl (ltb rfl) rfl rfl ?_
          refine AO.op rfl (AOp.pick rfl rfl (ltb rfl) rfl rfl rfl ?_)
          refine AO.op rfl (AOp.move rfl rfl (ltb rfl) rfl ?_)
          refine AO.guardN rfl rfl rfl (ltb rfl) rfl rfl ?_
          refine AO.guardN rfl rfl rfl (ltb rfl) rfl rfl ?_
          refine AO.guardN rfl rfl rfl (ltb rfl) rfl rfl ?_
          refine AO.guardN rfl rfl rfl (ltb rfl) rfl rfl ?_
          refine AO.guardN rfl rfl rfl (ltb rfl) rfl rfl ?_
          refine AO.guardN rfl rfl rfl (ltb rfl) rfl rfl ?_
          refine AO.guardN rfl rfl rfl (ltb rfl) rfl rfl ?_
          refine AO.op rfl (AOp.pick rfl rfl (ltb rfl) rfl rfl rfl ?_)
          refine AO.nil ?_
          exact ⟨true, _, rfl, (LeL.refl _), rfl, rfl, h0⟩
        · replace h0 := cF h0 q35
          refine AO.guardY rfl rfl rfl q35 (AOp.fieldAddr rfl rfl (ltb rfl) rfl fo33_3 ?_)
          refine AO.guardY rfl rfl rfl q35 (AOp.load1 rfl rfl (ltb rfl) rfl agg22 rfl rfl ?_)
          refine AO.guardY rfl rfl rfl q35 (AOp.fieldAddr rfl rfl (ltb rfl) rfl fo33_3 ?_)
          refine AO.guardY rfl rfl rfl q35 (AOp.load1 rfl rfl (ltb rfl) rfl agg22 rfl rfl ?_)
          obtain ⟨y36, q37, h0⟩ := bind_elim h0
          refine AO.guardY rfl rfl rfl q35 (AOp.callD rfl rfl (ltb rfl) rfl rfl (w_SameFloats F a0.Flat a1.Flat y36 q37) ?_)
          rintro _ rfl
          refine AO.guardY rfl rfl rfl q35 (AOp.bnot rfl rfl (ltb rfl) rfl ?_)
          refine AO.op rfl (AOp.pickN rfl rfl (ltb rfl) rfl q35 rfl ?_)
          refine AO.op rfl (AOp.move rfl rfl (ltb rfl) rfl ?_)
          refine AO.dec (!y36) (fun q38 => ?_) (fun q38 => ?_)
          · replace h0 := cT h0 q38
            refine AO.guardN rfl rfl rfl (ltb rfl) rfl q38 ?_
            refine AO.guardN rfl rfl rfl (ltb rfl) rfl q38 ?_
            refine AO.guardN rfl rfl rfl (ltb rfl) rfl q38 ?_
            refine AO.guardN rfl rfl rfl (ltb rfl) rfl q38 ?_
            refine AO.guardN rfl rfl rfl (ltb rfl) rfl q38 ?_
            refine AO.guardN rfl rfl rfl (ltb rfl) rfl q38 ?_
            refine AO.op rfl (AOp.pick rfl rfl (ltb rfl) rfl q38 rfl ?_)
            refine AO.op rfl (AOp.move rfl rfl (ltb rfl) rfl ?_)
            refine AO.guardN rfl rfl rfl (ltb rfl) rfl rfl ?_
            refine AO.guardN rfl rfl rfl (ltb rfl) rfl rfl ?_
            refine AO.guardN rfl rfl rfl (ltb rfl) rfl rfl ?_
            refine AO.guardN rfl rfl rfl (ltb rfl) rfl rfl ?_
            refine AO.guardN rfl rfl rfl (ltb rfl) rfl rfl ?_
            refine AO.guardN rfl rfl rfl (ltb rfl) rfl rfl ?_
            refine AO.guardN rfl rfl rfl (ltb rfl) rfl rfl ?_
            refine AO.op rfl (AOp.pick rfl rfl (ltb rfl) rfl rfl rfl ?_)
            refine AO.op rfl (AOp.move rfl rfl (ltb rfl) rfl ?_)
            refine AO.guardN rfl rfl rfl (ltb rfl) rfl rfl ?_
            refine AO.guardN rfl rfl rfl (ltb rfl) rfl rfl ?_
            refine AO.guardN rfl rfl rfl (ltb rfl) rfl rfl ?_
            refine AO.guardN rfl rfl rfl (ltb rfl) rfl rfl ?_
            refine AO.guardN rfl rfl rfl (ltb rfl) rfl rfl ?_
            refine AO.guardN rfl rfl rfl (ltb rfl) rfl rfl ?_
            refine AO.guardN rfl rfl rfl (ltb rfl) rfl rfl ?_
            refine AO.op rfl (AOp.pick rfl rfl (ltb rfl) rfl rfl rfl ?_)
            refine AO.nil ?_
            exact ⟨true, _, rfl, (LeL.refl _), rfl, rfl, h0⟩
          · replace h0 := cF h0 q38
            refine AO.guardY rfl rfl rfl q38 (AOp.fieldAddr rfl rfl (ltb rfl) rfl fo33_4 ?_)
            refine AO.guardY rfl rfl rfl q38 (AOp.load1 rfl rfl (ltb rfl) rfl agg29 rfl rfl ?_)
            refine AO.guardY rfl rfl rfl q38 (AOp.fieldAddr rfl rfl (ltb rfl) rfl fo33_4 ?_)
            refine AO.guardY rfl rfl rfl q38 (AOp.load1 rfl rfl (ltb rfl) rfl agg29 rfl rfl ?_)
            obtain ⟨y39, q40, h0⟩ := bind_elim h0
            refine AO.guardY rfl rfl rfl q38 (AOp.callD rfl rfl (ltb rfl) rfl rfl (w_sameInts F a0.Ends a1.Ends y39 q40) ?_)
            rintro _ rfl
            refine AO.guardY rfl rfl rfl q38 (AOp.bnot rfl rfl (ltb rfl) rfl ?_)
            refine AO.op rfl (AOp.pickN rfl rfl (ltb rfl) rfl q38 rfl ?_)
            refine AO.op rfl (AOp.move rfl rfl (ltb rfl) rfl ?_)
            refine AO.dec (!y39) (fun q41 => ?_) (fun q41 => ?_)
            · replace h0 := cT h0 q41
              refine AO.guardN rfl rfl rfl (ltb rfl) rfl q41 ?_
              refine AO.guardN rfl rfl rfl (ltb rfl) rfl q41 ?_
              refine AO.guardN rfl rfl rfl (ltb rfl) rfl q41 ?_
              refine AO.guardN rfl rfl rfl (ltb rfl) rfl q41 ?_
              refine AO.guardN rfl rfl rfl (ltb rfl) rfl q41 ?_
              refine AO.guardN rfl rfl rfl (ltb rfl) rfl q41 ?_
              refine AO.guardN rfl rfl rfl (ltb rfl) rfl q41 ?_
              refine AO.op rfl (AOp.pick rfl rfl (ltb rfl) rfl q41 rfl ?_)
              refine AO.op rfl (AOp.move rfl rfl (ltb rfl) rfl ?_)
              refine AO.guardN rfl rfl rfl (ltb rfl) rfl rfl ?_
              refine AO.guardN rfl rfl rfl (ltb rfl) rfl rfl ?_
              refine AO.guardN rfl rfl rfl (ltb rfl) rfl rfl ?_
              refine AO.guardN rfl rfl rfl (ltb rfl) rfl rfl ?_
              refine AO.guardN rfl rfl rfl (ltb rfl) rfl rfl ?_
              refine AO.guardN rfl rfl rfl (ltb rfl) rfl rfl ?_
              refine AO.guardN rfl rfl rfl (ltb rfl) rfl rfl ?_
              refine AO.op rfl (AOp.pick rfl rfl (ltb rfl) rfl rfl rfl ?_)
              refine AO.nil ?_
              exact ⟨true, _, rfl, (LeL.refl _), rfl, rfl, h0⟩
            · replace h0 := cF h0 q41
              refine AO.guardY rfl rfl rfl q41 (AOp.fieldAddr rfl rfl (ltb rfl) rfl fo33_5 ?_)
              refine AO.guardY rfl rfl rfl q41 (AOp.load1 rfl rfl (ltb rfl) rfl agg30 rfl rfl ?_)
              refine AO.guardY rfl rfl rfl q41 (AOp.lenDs (n := a0.Endss.length) (cells := (List.map keS3 a0.Endss)) rfl rfl (ltb rfl) rfl el30 (by decide) (len1 _ _) ?_)
              refine AO.guardY rfl rfl rfl q41 (AOp.fieldAddr rfl rfl (ltb rfl) rfl fo33_5 ?_)
              refine AO.guardY rfl rfl rfl q41 (AOp.load1 rfl rfl (ltb rfl) rfl agg30 rfl rfl ?_)
              refine AO.guardY rfl rfl rfl q41 (AOp.lenDs (n := a1.Endss.length) (cells := (List.map keS3 a1.Endss)) rfl rfl (ltb rfl) rfl el30 (by decide) (len1 _ _) ?_)
              refine AO.guardY rfl rfl rfl q41 (AOp.ineq rfl rfl (ltb rfl) rfl rfl ?_)
              refine AO.op rfl (AOp.pickN rfl rfl (ltb rfl) rfl q41 rfl ?_)
              refine AO.op rfl (AOp.move rfl rfl (ltb rfl) rfl ?_)
              refine AO.dec (!decide (((a0.Endss.length : Nat) : Int) = ((a1.Endss.length : Nat) : Int))) (fun q42 => ?_) (fun q42 => ?_)
              · replace h0 := cT h0 q42
                refine AO.guardN rfl rfl rfl (ltb rfl) rfl q42 ?_
                refine AO.guardN rfl rfl rfl (ltb rfl) rfl q42 ?_
                refine AO.guardN rfl rfl rfl (ltb rfl) rfl q42 ?_
                refine AO.guardN rfl rfl rfl (ltb rfl) rfl q42 ?_
                refine AO.guardN rfl rfl rfl (ltb rfl) rfl q42 ?_
                refine AO.guardN rfl rfl rfl (ltb rfl) rfl q42 ?_
                refine AO.guardN rfl rfl rfl (ltb rfl) rfl q42 ?_
                refine AO.op rfl (AOp.pick rfl rfl (ltb rfl) rfl q42 rfl ?_)
                refine AO.nil ?_
                exact ⟨true, _, rfl, (LeL.refl _), rfl, rfl, h0⟩
              · replace h0 := cF h0 q42
                refine AO.guardY rfl rfl rfl q42 (AOp.fieldAddr rfl rfl (ltb rfl) rfl fo33_6 ?_)
                refine AO.guardY rfl rfl rfl q42 (AOp.load1 rfl rfl (ltb rfl) rfl agg31 rfl rfl ?_)
                refine AO.guardY rfl rfl rfl q42 (AOp.lenDs (n := a0.Kids.length) (cells := (List.flatMap c0_TImpl_Geom a0.Kids)) rfl rfl (ltb rfl) rfl el31 (by decide) (lenN _ 7 c0_TImpl_Geom_len _) ?_)
                refine AO.guardY rfl rfl rfl q42 (AOp.fieldAddr rfl rfl (ltb rfl) rfl fo33_6 ?_)
                refine AO.guardY rfl rfl rfl q42 (AOp.load1 rfl rfl (ltb rfl) rfl agg31 rfl rfl ?_)
                refine AO.guardY rfl rfl rfl q42 (AOp.lenDs (n := a1.Kids.length) (cells := (List.flatMap c0_TImpl_Geom a1.Kids)) rfl rfl (ltb rfl) rfl el31 (by decide) (lenN _ 7 c0_TImpl_Geom_len _) ?_)
                refine AO.guardY rfl rfl rfl q42 (AOp.ineq rfl rfl (ltb rfl) rfl rfl ?_)
                refine AO.op rfl (AOp.pickN rfl rfl (ltb rfl) rfl q42 rfl ?_)
                refine AO.nil ?_
                exact ⟨(!decide (((a0.Kids.length : Nat) : Int) = ((a1.Kids.length : Nat) : Int))), _, rfl, (LeL.refl _), rfl, rfl, h0⟩
  · intro g1 h0
    unfold p_SameGeom_k1 at h0
    refine AC.cond rfl (fun q2 => ?_) (fun q2 => ?_)
    · replace h0 := cT h0 q2
      refine AC.seq ?_
      refine AC.region ?_
      refine AO.op rfl (AOp.assign rfl rfl (ltb rfl) rfl ?_)
      refine AO.nil ?_
      change AC _ _ _ _
      refine AC.ret ?_
      change RetQ _ _ _ .ret _
      obtain rfl := Option.some.inj h0
      refine retq rfl rfl
    · replace h0 := cF h0 q2
      refine AC.skip ?_
      change AC _ _ _ _
      refine AC.seq ?_
      refine AC.seq ?_
      refine AC.region ?_
      refine AO.op rfl (AOp.fieldAddr rfl rfl (ltb rfl) rfl fo33_5 ?_)
      refine AO.op rfl (AOp.load1 rfl rfl (ltb rfl) rfl agg30 rfl rfl ?_)
      refine AO.op rfl (AOp.lenDs (n := a0.Endss.length) (cells := (List.map keS3 a0.Endss)) rfl rfl (ltb rfl) rfl el30 (by decide) (len1 _ _) ?_)
      refine AO.op rfl (AOp.move rfl rfl (ltb rfl) rfl ?_)
      refine AO.nil ?_
      change AC _ _ _ _
      obtain ⟨o3, l4, h0⟩ := bind_elim h0
      refine AC.joinE (V := Unit) [2, 3] [] 2 (fun g5 => []) (fun g5 => [.fix 33 [.d (di .i64 a0.Kind), .d (di .i64 a0.Layout), .d (di .i64 a0.SRID), .d (eS0 a0.Flat), .d (eS2 a0.Ends), .d (eS3 a0.Endss), .d (eS1 a0.Kids)], .fix 33 [.d (di .i64 a1.Kind), .d (di .i64 a1.Layout), .d (di .i64 a1.SRID), .d (eS0 a1.Flat), .d (eS2 a1.Ends), .d (eS3 a1.Endss), .d (eS1 a1.Kids)]]) (fun g5 => (p_SameGeom_k2 a0 a1 F Rec_) g5 = some r0) rfl ?_ ?_
      · refine AC.block ?_
        refine AC.loopP (V := Int) (p_SameGeom_l5 a0 a1 F) o3 [2, 3, 63, 64] [65] 2 (fun g21 => [(65, .d (di .i64 g21))]) (fun g21 => [.fix 33 [.d (di .i64 a0.Kind), .d (di .i64 a0.Layout), .d (di .i64 a0.SRID), .d (eS0 a0.Flat), .d (eS2 a0.Ends), .d (eS3 a0.Endss), .d (eS1 a0.Kids)], .fix 33 [.d (di .i64 a1.Kind), .d (di .i64 a1.Layout), .d (di .i64 a1.SRID), .d (eS0 a1.Flat), .d (eS2 a1.Ends), .d (eS3 a1.Endss), .d (eS1 a1.Kids)]]) F (0 : Int) l4 rfl rfl (LeL.refl _) rfl rfl ?_
        intro n23 g21 h1
        unfold p_SameGeom_l5 at h1
        refine AC.seq ?_
        refine AC.region ?_
        refine AO.op rfl (AOp.ilss rfl rfl (ltb rfl) rfl rfl ?_)
        refine AO.nil ?_
        change AC _ _ _ _
        refine AC.seq ?_
        refine AC.cond rfl (fun q24 => ?_) (fun q24 => ?_)
        · replace h1 := cT h1 q24
          refine AC.skip ?_
          change AC _ _ _ _
          refine AC.seq ?_
          refine AC.block ?_
          refine AC.seq ?_
          refine AC.region ?_
          refine AO.op rfl (AOp.move rfl rfl (ltb rfl) rfl ?_)
          obtain ⟨x25, q26, h1⟩ := idx_elim h1
          refine AO.op rfl (AOp.indexDs (cells := (List.map keS3 a0.Endss)) rfl rfl (ltb rfl) rfl rfl el30 (by decide) q26.1 (lt1 q26.2) ?_)
          refine AO.op rfl (AOp.loadEp rfl rfl (ltb rfl) rfl agg29 (at1 q26.2) ?_)
          refine AO.op rfl (AOp.assign rfl rfl (ltb rfl) rfl ?_)
          refine AO.op rfl (AOp.assign rfl rfl (ltb rfl) rfl ?_)
          refine AO.nil ?_
          change AC _ _ _ _
          refine AC.seq ?_
          refine AC.region ?_
          refine AO.op rfl (AOp.move rfl rfl (ltb rfl) rfl ?_)
          refine AO.op rfl (AOp.fieldAddr rfl rfl (ltb rfl) rfl fo33_5 ?_)
          refine AO.op rfl (AOp.load1 rfl rfl (ltb rfl) rfl agg30 rfl rfl ?_)
          refine AO.op rfl (AOp.move rfl rfl (ltb rfl) rfl ?_)
          obtain ⟨x27, q28, h1⟩ := idx_elim h1
          refine AO.op rfl (AOp.indexDs (cells := (List.map keS3 a1.Endss)) rfl rfl (ltb rfl) rfl rfl el30 (by decide) q28.1 (lt1 q28.2) ?_)
          refine AO.op rfl (AOp.loadEp rfl rfl (ltb rfl) rfl agg29 (at1 q28.2) ?_)
          obtain ⟨y29, q30, h1⟩ := bind_elim h1
          refine AO.op rfl (AOp.callD rfl rfl (ltb rfl) rfl rfl (w_sameInts F x25 x27 y29 q30) ?_)
          rintro _ rfl
          refine AO.op rfl (AOp.bnot rfl rfl (ltb rfl) rfl ?_)
          refine AO.nil ?_
          change AC _ _ _ _
          refine AC.cond rfl (fun q31 => ?_) (fun q31 => ?_)
          · replace h1 := cT h1 q31
            refine AC.seq ?_
            refine AC.region ?_
            refine AO.op rfl (AOp.assign rfl rfl (ltb rfl) rfl ?_)
            refine AO.nil ?_
            change AC _ _ _ _
            refine AC.ret ?_
            change RetQ _ _ _ .ret _
            obtain rfl := Option.some.inj h1
            replace h0 := aftR h0
            obtain rfl := Option.some.inj h0
            refine retq rfl rfl
          · replace h1 := cF h1 q31
            refine AC.skip ?_
            change AC _ _ _ _
            refine AC.region ?_
            obtain ⟨q32, h1⟩ := need_elim h1
            refine AO.op rfl (AOp.iadd rfl rfl (ltb rfl) rfl rfl rfl q32.1 q32.2 ?_)
            refine AO.op rfl (AOp.move rfl rfl (ltb rfl) rfl ?_)
            refine AO.nil ?_
            exact ⟨(g21 + (1 : Int)), _, rfl, (LeL.refl _), rfl, rfl, h1⟩
        · replace h1 := cF h1 q24
          refine AC.exit ?_
          obtain rfl := Option.some.inj h1
          exact ⟨(), _, rfl, (LeL.refl _), rfl, rfl, aftL h0⟩
      · intro g5 h0
        unfold p_SameGeom_k2 at h0
        change AC _ _ _ _
        refine AC.seq ?_
        refine AC.seq ?_
        refine AC.region ?_
        refine AO.op rfl (AOp.fieldAddr rfl rfl (ltb rfl) rfl fo33_6 ?_)
        refine AO.op rfl (AOp.load1 rfl rfl (ltb rfl) rfl agg31 rfl rfl ?_)
        refine AO.op rfl (AOp.lenDs (n := a0.Kids.length) (cells := (List.flatMap c0_TImpl_Geom a0.Kids)) rfl rfl (ltb rfl) rfl el31 (by decide) (lenN _ 7 c0_TImpl_Geom_len _) ?_)
        refine AO.op rfl (AOp.move rfl rfl (ltb rfl) rfl ?_)
        refine AO.nil ?_
        change AC _ _ _ _
        obtain ⟨o6, l7, h0⟩ := bind_elim h0
        refine AC.joinE (V := Unit) [] [] 2 (fun g8 => []) (fun g8 => [.fix 33 [.d (di .i64 a0.Kind), .d (di .i64 a0.Layout), .d (di .i64 a0.SRID), .d (eS0 a0.Flat), .d (eS2 a0.Ends), .d (eS3 a0.Endss), .d (eS1 a0.Kids)], .fix 33 [.d (di .i64 a1.Kind), .d (di .i64 a1.Layout), .d (di .i64 a1.SRID), .d (eS0 a1.Flat), .d (eS2 a1.Ends), .d (eS3 a1.Endss), .d (eS1 a1.Kids)]]) (fun g8 => p_SameGeom_k3 g8 = some r0) rfl ?_ ?_
        · refine AC.block ?_
          refine AC.loopP (V := Int) (p_SameGeom_l4 a0 a1 Rec_) o6 [3, 80, 81] [82] 2 (fun g9 => [(82, .d (di .i64 g9))]) (fun g9 => [.fix 33 [.d (di .i64 a0.Kind), .d (di .i64 a0.Layout), .d (di .i64 a0.SRID), .d (eS0 a0.Flat), .d (eS2 a0.Ends), .d (eS3 a0.Endss), .d (eS1 a0.Kids)], .fix 33 [.d (di .i64 a1.Kind), .d (di .i64 a1.Layout), .d (di .i64 a1.SRID), .d (eS0 a1.Flat), .d (eS2 a1.Ends), .d (eS3 a1.Endss), .d (eS1 a1.Kids)]]) F (0 : Int) l7 rfl rfl (LeL.refl _) rfl rfl ?_
          intro n11 g9 h1
          unfold p_SameGeom_l4 at h1
          refine AC.seq ?_
          refine AC.region ?_
          refine AO.op rfl (AOp.ilss rfl rfl (ltb rfl) rfl rfl ?_)
          refine AO.nil ?_
          change AC _ _ _ _
          refine AC.seq ?_
          refine AC.cond rfl (fun q12 => ?_) (fun q12 => ?_)
          · replace h1 := cT h1 q12
            refine AC.skip ?_
            change AC _ _ _ _
            refine AC.seq ?_
            refine AC.block ?_
            refine AC.seq ?_
            refine AC.region ?_
            refine AO.op rfl (AOp.move rfl rfl (ltb rfl) rfl ?_)
            obtain ⟨x13, q14, h1⟩ := idx_elim h1
            refine AO.op rfl (AOp.indexDs (cells := (List.flatMap c0_TImpl_Geom a0.Kids)) rfl rfl (ltb rfl) rfl rfl el31 (by decide) q14.1 (ltN 7 c0_TImpl_Geom_len (by decide) q14.2) ?_)
            refine AO.op rfl (AOp.loadEpN rfl rfl (ltb rfl) rfl agg33 size33 (leN 7 c0_TImpl_Geom_len q14.2) ((atN 7 c0_TImpl_Geom_len q14.2).trans (c0_TImpl_Geom_eq x13)) ?_)
            refine AO.op rfl (AOp.alloc rfl rfl (ltb rfl) zero33 rfl ?_)
            refine AO.op rfl (AOp.assign rfl rfl (ltb rfl) rfl ?_)
            refine AO.op rfl (AOp.store rfl rfl rfl rfl size33 rfl rfl rfl (leb rfl) ?_)
            refine AO.nil ?_
            change AC _ _ _ _
            refine AC.seq ?_
            refine AC.draw 8 mixed (by kernel_rfl) ?_
            refine AD.op [8] rfl (by kernel_rfl) rfl rfl (fun _ _ h => AOp.loadN rfl rfl (ltb rfl) rfl agg33 size33 rfl (leb rfl) rfl h) ?_
            refine AD.op [3] rfl (by kernel_rfl) rfl rfl (fun _ _ h => AOp.fieldAddr rfl rfl (ltb rfl) rfl fo33_6 h) ?_
            refine AD.op [88] rfl (by kernel_rfl) rfl rfl (fun _ _ h => AOp.load1 rfl rfl (ltb rfl) rfl agg31 rfl rfl h) ?_
            refine AD.op [7] rfl (by kernel_rfl) rfl rfl (fun _ _ h => AOp.move rfl rfl (ltb rfl) rfl h) ?_
            obtain ⟨x15, q16, h1⟩ := idx_elim h1
            refine AD.op [89, 90] rfl (by kernel_rfl) rfl rfl (fun _ _ h => AOp.indexDs (cells := (List.flatMap c0_TImpl_Geom a1.Kids)) rfl rfl (ltb rfl) rfl rfl el31 (by decide) q16.1 (ltN 7 c0_TImpl_Geom_len (by decide) q16.2) h) ?_
            refine AD.op [91] rfl (by kernel_rfl) rfl rfl (fun _ _ h => AOp.loadEpN rfl rfl (ltb rfl) rfl agg33 size33 (leN 7 c0_TImpl_Geom_len q16.2) ((atN 7 c0_TImpl_Geom_len q16.2).trans (c0_TImpl_Geom_eq x15)) h) ?_
            obtain ⟨y17, q18, h1⟩ := bind_elim h1
            refine AD.op [87, 92] rfl (by kernel_rfl) rfl rfl (fun _ _ h => AOp.callD rfl rfl (ltb rfl) rfl rfl (hR x13 x15 y17 q18) (by rintro _ rfl; exact h)) ?_
            refine AD.op [93] rfl (by kernel_rfl) rfl rfl (fun _ _ h => AOp.bnot rfl rfl (ltb rfl) rfl h) ?_
            refine AD.done ?_
            refine AO.nil ?_
            change AC _ _ _ _
            refine AC.cond rfl (fun q19 => ?_) (fun q19 => ?_)
            · replace h1 := cT h1 q19
              refine AC.seq ?_
              refine AC.region ?_
              refine AO.op rfl (AOp.assign rfl rfl (ltb rfl) rfl ?_)
              refine AO.nil ?_
              change AC _ _ _ _
              refine AC.ret ?_
              change RetQ _ _ _ .ret _
              obtain rfl := Option.some.inj h1
              replace h0 := aftR h0
              obtain rfl := Option.some.inj h0
              refine retq rfl rfl
            · replace h1 := cF h1 q19
              refine AC.skip ?_
              change AC _ _ _ _
              refine AC.region ?_
              obtain ⟨q20, h1⟩ := need_elim h1
              refine AO.op rfl (AOp.iadd rfl rfl (ltb rfl) rfl rfl rfl q20.1 q20.2 ?_)
              refine AO.op rfl (AOp.move rfl rfl (ltb rfl) rfl ?_)
              refine AO.nil ?_
              exact ⟨(g9 + (1 : Int)), _, rfl, (LeL.refl _), rfl, rfl, h1⟩
          · replace h1 := cF h1 q12
            refine AC.exit ?_
            obtain rfl := Option.some.inj h1
            exact ⟨(), _, rfl, (LeL.refl _), rfl, rfl, aftL h0⟩
        · intro g8 h0
          unfold p_SameGeom_k3 at h0
          change AC _ _ _ _
          refine AC.seq ?_
          refine AC.region ?_
          refine AO.op rfl (AOp.assign rfl rfl (ltb rfl) rfl ?_)
          refine AO.nil ?_
          change AC _ _ _ _
          refine AC.ret ?_
          change RetQ _ _ _ .ret _
          obtain rfl := Option.some.inj h0
          refine retq rfl rfl
theorem w_SameGeom : ∀ (F : Nat) (a0 : TImpl_Geom) (a1 : TImpl_Geom) (r0 : Bool), p_SameGeom F a0 a1 = some r0 → FnD Try.prog 30 [e_TImpl_Geom a0, e_TImpl_Geom a1] (fun r => r = dbool r0)
  | 0, _, _, _, h => by cases h
  | F + 1, a0, a1, r0, h => w_SameGeom_b _ (fun a0 a1 r0 h => w_SameGeom F a0 a1 r0 h) F a0 a1 r0 h

set_option maxRecDepth 100000 in
set_option maxHeartbeats 1000000 in
/-- pub-orthodrome/laws.FnMaybeEmpty -/
theorem w_FnMaybeEmpty (F : Nat) (a0 : Int) (a1 : (List Nat)) (r0 : Bool) (h0 : p_FnMaybeEmpty F a0 a1 = some r0) : FnD Try.prog 8 [di .i64 a0, eS0 a1] (fun r => r = dbool r0) := by
  refine FnD.of (by kernel_rfl) Try.func8 rfl Try.ntmps8 rfl (leb rfl) fun W ok => ?_
  unfold p_FnMaybeEmpty at h0
  refine AC.seq ?_
  refine AC.region ?_
  refine AO.op rfl (AOp.assign rfl rfl (ltb rfl) rfl ?_)
  refine AO.nil ?_
  change AC _ _ _ _
  refine AC.seq ?_
  refine AC.seq ?_
  refine AC.region ?_
  refine AO.op rfl (AOp.move rfl rfl (ltb rfl) rfl ?_)
  refine AO.op rfl (AOp.lenDs (n := a1.length) (cells := (List.map keS0 a1)) rfl rfl (ltb rfl) rfl el22 (by decide) (len1 _ _) ?_)
  refine AO.op rfl (AOp.igtr rfl rfl (ltb rfl) rfl rfl ?_)
  refine AO.nil ?_
  change AC _ _ _ _
  refine AC.cond rfl (fun q1 => ?_) (fun q1 => ?_)
  · replace h0 := cT h0 q1
    refine AC.seq ?_
    refine AC.region ?_
    refine AO.op rfl (AOp.assign rfl rfl (ltb rfl) rfl ?_)
    refine AO.nil ?_
    change AC _ _ _ _
    refine AC.ret ?_
    change RetQ _ _ _ .ret _
    obtain rfl := Option.some.inj h0
    refine retq rfl rfl
  · replace h0 := cF h0 q1
    refine AC.skip ?_
    change AC _ _ _ _
    refine AC.seq ?_
    refine AC.seq ?_
    refine AC.region ?_
    refine AO.op rfl (AOp.move rfl rfl (ltb rfl) rfl ?_)
    refine AO.op rfl (AOp.move rfl rfl (ltb rfl) rfl ?_)
    obtain ⟨y2, q3, h0⟩ := bind_elim h0
    refine AO.op rfl (AOp.callD rfl rfl (ltb rfl) rfl rfl (w_gCoord a0 a1 y2 q3) ?_)
    rintro _ rfl
    refine AO.op rfl (AOp.bnot rfl rfl (ltb rfl) rfl ?_)
    refine AO.nil ?_
    change AC _ _ _ _
    refine AC.cond rfl (fun q4 => ?_) (fun q4 => ?_)
    · replace h0 := cT h0 q4
      refine AC.seq ?_
      refine AC.region ?_
      refine AO.op rfl (AOp.assign rfl rfl (ltb rfl) rfl ?_)
      refine AO.nil ?_
      change AC _ _ _ _
      refine AC.ret ?_
      change RetQ _ _ _ .ret _
      obtain rfl := Option.some.inj h0
      refine retq rfl rfl
    · replace h0 := cF h0 q4
      refine AC.skip ?_
      change AC _ _ _ _
      refine AC.seq ?_
      refine AC.region ?_
      refine AO.op rfl (AOp.move rfl rfl (ltb rfl) rfl ?_)
      refine AO.op rfl (AOp.build rfl rfl (ltb rfl) zero33 rfl places33 rfl rfl ?_)
      refine AO.op rfl (AOp.alloc rfl rfl (ltb rfl) zero33 rfl ?_)
      refine AO.op rfl (AOp.store rfl rfl rfl rfl size33 rfl rfl rfl (leb rfl) ?_)
      refine AO.nil ?_
      change AC _ _ _ _
      refine AC.seq ?_
      refine AC.seq ?_
      refine AC.region ?_
      refine AO.op rfl (AOp.move rfl rfl (ltb rfl) rfl ?_)
      refine AO.op rfl (AOp.lenDs (n := a1.length) (cells := (List.map keS0 a1)) rfl rfl (ltb rfl) rfl el22 (by decide) (len1 _ _) ?_)
      refine AO.op rfl (AOp.move rfl rfl (ltb rfl) rfl ?_)
      refine AO.nil ?_
      change AC _ _ _ _
      refine AC.subO 0 rfl (.cons (SVLe.refl _) (.cons (SVLe.refl _) (.cons (SVLe.refl _) (.cons (SVLe.nil 1) (.cons (SVLe.refl _) (.cons (SVLe.refl _) (.cons (SVLe.refl _) .nil))))))) ?_
      obtain ⟨o5, l6, h0⟩ := bind_elim h0
      refine AC.joinE (V := (List Nat)) [0, 1, 5] [] 1 (fun g7 => []) (fun g7 => [.fix 33 [.d (di .i64 (1 : Int)), .d (di .i64 a0), .d (di .i64 (0 : Int)), .d (eS0 g7), .d (.v (.slice none 0 0)), .d (.v (.slice none 0 0)), .d (.v (.slice none 0 0))]]) (fun g7 => (p_FnMaybeEmpty_k1 a0 a1 F) g7 = some r0) rfl ?_ ?_
      · refine AC.block ?_
        refine AC.loopP (V := (Int × (List Nat))) (p_FnMaybeEmpty_l2 a1) o5 [0, 1, 5, 19, 20] [21] 1 (fun g13 => [(21, .d (di .i64 g13.1))]) (fun g13 => [.fix 33 [.d (di .i64 (1 : Int)), .d (di .i64 a0), .d (di .i64 (0 : Int)), .d (eS0 g13.2), .d (.v (.slice none 0 0)), .d (.v (.slice none 0 0)), .d (.v (.slice none 0 0))]]) F ((0 : Int), []) l6 rfl rfl (LeL.refl _) rfl rfl ?_
        intro n15 g13 h1
        unfold p_FnMaybeEmpty_l2 at h1
        refine AC.seq ?_
        refine AC.region ?_
        refine AO.op rfl (AOp.ilss rfl rfl (ltb rfl) rfl rfl ?_)
        refine AO.nil ?_
        change AC _ _ _ _
        refine AC.seq ?_
        refine AC.cond rfl (fun q16 => ?_) (fun q16 => ?_)
        · replace h1 := cT h1 q16
          refine AC.skip ?_
          change AC _ _ _ _
          refine AC.seq ?_
          refine AC.block ?_
          refine AC.seq ?_
          refine AC.region ?_
          obtain ⟨x17, q18, h1⟩ := idx_elim h1
          refine AO.op rfl (AOp.indexDs (cells := (List.map keS0 a1)) rfl rfl (ltb rfl) rfl rfl el22 (by decide) q18.1 (lt1 q18.2) ?_)
          refine AO.op rfl (AOp.loadEp rfl rfl (ltb rfl) rfl agg40 (at1 q18.2) ?_)
          refine AO.op rfl (AOp.assign rfl rfl (ltb rfl) rfl ?_)
          refine AO.nil ?_
          change AC _ _ _ _
          refine AC.seq ?_
          refine AC.region ?_
          refine AO.op rfl (AOp.move rfl rfl (ltb rfl) rfl ?_)
          obtain ⟨y19, q20, h1⟩ := bind_elim h1
          refine AO.op rfl (AOp.callD rfl rfl (ltb rfl) rfl rfl (w_gNumber x17 y19 q20) ?_)
          rintro _ rfl
          refine AO.nil ?_
          change AC _ _ _ _
          refine AC.cond rfl (fun q21 => ?_) (fun q21 => ?_)
          · replace h1 := cT h1 q21
            refine AC.region ?_
            refine AO.op rfl (AOp.move rfl rfl (ltb rfl) rfl ?_)
            refine AO.op rfl (AOp.fieldAddr rfl rfl (ltb rfl) rfl fo33_3 ?_)
            refine AO.op rfl (AOp.store rfl rfl rfl rfl size22 rfl rfl rfl (leb rfl) ?_)
            refine AO.nil ?_
            change AC _ _ _ _
            refine AC.region ?_
            obtain ⟨q22, h1⟩ := need_elim h1
            refine AO.op rfl (AOp.iadd rfl rfl (ltb rfl) rfl rfl rfl q22.1 q22.2 ?_)
            refine AO.op rfl (AOp.move rfl rfl (ltb rfl) rfl ?_)
            refine AO.nil ?_
            exact ⟨((g13.1 + (1 : Int)), a1), _, rfl, (LeL.refl _), rfl, rfl, h1⟩
          · replace h1 := cF h1 q21
            refine AC.seq ?_
            refine AC.region ?_
            refine AO.op rfl (AOp.move rfl rfl (ltb rfl) rfl ?_)
            refine AO.op rfl (AOp.callX [.float .f64 x17] rfl rfl (ltb rfl) rfl (callBits x17) ?_)
            refine AO.op rfl (AOp.ineq rfl rfl (ltb rfl) rfl rfl ?_)
            refine AO.nil ?_
            change AC _ _ _ _
            refine AC.cond rfl (fun q23 => ?_) (fun q23 => ?_)
            · replace h1 := cT h1 q23
              refine AC.seq ?_
              refine AC.region ?_
              refine AO.op rfl (AOp.assign rfl rfl (ltb rfl) rfl ?_)
              refine AO.nil ?_
              change AC _ _ _ _
              refine AC.ret ?_
              change RetQ _ _ _ .ret _
              obtain rfl := Option.some.inj h1
              replace h0 := aftR h0
              obtain rfl := Option.some.inj h0
              refine retq rfl rfl
            · replace h1 := cF h1 q23
              refine AC.skip ?_
              change AC _ _ _ _
              refine AC.region ?_
              obtain ⟨q24, h1⟩ := need_elim h1
              refine AO.op rfl (AOp.iadd rfl rfl (ltb rfl) rfl rfl rfl q24.1 q24.2 ?_)
              refine AO.op rfl (AOp.move rfl rfl (ltb rfl) rfl ?_)
              refine AO.nil ?_
              exact ⟨((g13.1 + (1 : Int)), g13.2), _, rfl, (LeL.refl _), rfl, rfl, h1⟩
        · replace h1 := cF h1 q16
          refine AC.exit ?_
          obtain rfl := Option.some.inj h1
          exact ⟨g13.2, _, rfl, (LeL.refl _), rfl, rfl, aftL h0⟩
      · intro g7 h0
        unfold p_FnMaybeEmpty_k1 at h0
        change AC _ _ _ _
        refine AC.seq ?_
        refine AC.region ?_
        refine AO.op rfl (AOp.move rfl rfl (ltb rfl) rfl ?_)
        refine AO.op rfl (AOp.move rfl rfl (ltb rfl) rfl ?_)
        obtain ⟨y8, q9, h0⟩ := bind_elim h0
        refine AO.op rfl (AOp.callD rfl rfl (ltb rfl) rfl rfl (w_MaybeEmpty F a0 a1 y8 q9) ?_)
        rintro _ rfl
        refine AO.op rfl (AOp.move rfl rfl (ltb rfl) rfl ?_)
        first | refine AO.op rfl (AOp.extractD rfl rfl (ltb rfl) rfl rfl ?_) | refine AO.op rfl (AOp.extract rfl rfl (ltb rfl) rfl rfl ?_)
        first | refine AO.op rfl (AOp.extractD rfl rfl (ltb rfl) rfl rfl ?_) | refine AO.op rfl (AOp.extract rfl rfl (ltb rfl) rfl rfl ?_)
        refine AO.op rfl (AOp.alloc rfl rfl (ltb rfl) zero33 rfl ?_)
        refine AO.op rfl (AOp.store rfl rfl rfl rfl size33 rfl rfl rfl (leb rfl) ?_)
        refine AO.op rfl (AOp.assign rfl rfl (ltb rfl) rfl ?_)
        refine AO.nil ?_
        change AC _ _ _ _
        refine AC.seq ?_
        refine AC.region ?_
        refine AO.op rfl (AOp.move rfl rfl (ltb rfl) rfl ?_)
        refine AO.op rfl (AOp.move rfl rfl (ltb rfl) rfl ?_)
        refine AO.dec y8.2 (fun q10 => ?_) (fun q10 => ?_)
        · replace h0 := cT h0 q10
          refine AO.guardY rfl rfl rfl q10 (AOp.loadN rfl rfl (ltb rfl) rfl agg33 size33 rfl (leb rfl) rfl ?_)
          refine AO.guardY rfl rfl rfl q10 (AOp.loadN rfl rfl (ltb rfl) rfl agg33 size33 rfl (leb rfl) rfl ?_)
          refine AO.sub 42 rfl (SVLe.ag (.cons (SVLe.refl _) (.cons (SVLe.refl _) (.cons (SVLe.refl _) (.cons (SVLe.refl _) (.cons (SVLe.nil 1) (.cons (SVLe.nil 1) (.cons (SVLe.nil 7) .nil)))))))) ?_
          obtain ⟨y11, q12, h0⟩ := bind_elim h0
          refine AO.guardY rfl rfl rfl q10 (AOp.callD rfl rfl (ltb rfl) rfl rfl (w_SameGeom F y8.1 (TImpl_Geom.mk (1 : Int) a0 (0 : Int) g7 [] [] []) y11 q12) ?_)
          rintro _ rfl
          refine AO.op rfl (AOp.pick rfl rfl (ltb rfl) rfl q10 rfl ?_)
          refine AO.op rfl (AOp.assign rfl rfl (ltb rfl) rfl ?_)
          refine AO.nil ?_
          change AC _ _ _ _
          refine AC.ret ?_
          change RetQ _ _ _ .ret _
          obtain rfl := Option.some.inj h0
          refine retq rfl rfl
        · replace h0 := cF h0 q10
          refine AO.guardN rfl rfl rfl (ltb rfl) rfl q10 ?_
          refine AO.guardN rfl rfl rfl (ltb rfl) rfl q10 ?_
          refine AO.guardN rfl rfl rfl (ltb rfl) rfl q10 ?_
          refine AO.op rfl (AOp.pickN rfl rfl (ltb rfl) rfl q10 rfl ?_)
          refine AO.op rfl (AOp.assign rfl rfl (ltb rfl) rfl ?_)
          refine AO.nil ?_
          change AC _ _ _ _
          refine AC.ret ?_
          change RetQ _ _ _ .ret _
          obtain rfl := Option.some.inj h0
          refine retq rfl rfl

end Go.Proofs.Ythijpgkejnnjeaa.Wk
