/- Proved: functions of the program compute what the printed functions say, wherever these say something. -/
import Derived.Test.YthijpgkejnnjeaaPXl
import Derived.Test.YthijpgkejnnjeaaVmDraw4
import Derived.Test.YthijpgkejnnjeaaVmIfc
import Derived.Test.YthijpgkejnnjeaaVmNew
import Derived.Test.YthijpgkejnnjeaaVmNaN
import Derived.Test.YthijpgkejnnjeaaFltDy
import Derived.Test.YthijpgkejnnjeaaFltMin
import Derived.Test.YthijpgkejnnjeaaVmFin
import Derived.Test.YthijpgkejnnjeaaProg
namespace Go.Proofs.Ythijpgkejnnjeaa.Wk
open Go.Vm
set_option linter.unusedVariables false
set_option linter.unusedSimpArgs false
theorem agg22 : aggT Try.prog 22 = some false := by kernel_rfl
theorem agg24 : aggT Try.prog 24 = some true := by kernel_rfl
theorem agg3 : aggT Try.prog 3 = some false := by kernel_rfl
theorem agg40 : aggT Try.prog 40 = some false := by kernel_rfl
theorem agg79 : aggT Try.prog 79 = some false := by kernel_rfl
theorem agg80 : aggT Try.prog 80 = some false := by kernel_rfl
theorem el22 : elemT Try.prog 22 = some (40, 1) := by kernel_rfl
theorem el75 : elemT Try.prog 75 = some (24, 3) := by kernel_rfl
theorem el80 : elemT Try.prog 80 = some (40, 1) := by kernel_rfl
theorem fo110_0 : fieldOff Try.prog 110 0 = some 0 := by kernel_rfl
theorem fo110_1 : fieldOff Try.prog 110 1 = some 1 := by kernel_rfl
theorem fo110_2 : fieldOff Try.prog 110 2 = some 2 := by kernel_rfl
theorem fo24_0 : fieldOff Try.prog 24 0 = some 0 := by kernel_rfl
theorem fo24_1 : fieldOff Try.prog 24 1 = some 1 := by kernel_rfl
theorem fo24_2 : fieldOff Try.prog 24 2 = some 2 := by kernel_rfl
theorem fo33_1 : fieldOff Try.prog 33 1 = some 1 := by kernel_rfl
theorem fo33_3 : fieldOff Try.prog 33 3 = some 3 := by kernel_rfl
theorem idle55 (vs : Array Value) (w : World) (h : vs.size = 2) : CallsD Try.prog 55 vs .returning w fun e u' w' => e = .returned (.tuple #[]) ∧ u' = .returning ∧ w' = w := by
  obtain ⟨x0, x1, rfl⟩ : ∃ x0 x1, vs = #[x0, x1] := by
    obtain ⟨l⟩ := vs
    match l, h with
    | [x0, x1], _ => exact ⟨x0, x1, rfl⟩
  refine callsD_of_wpS Try.func55 rfl fun c₀ cs hu => ?_
  apply wpS_seq
  apply wpS_region
  simp [wpOpsS, go_sem, recoverD, hu, Try.ntmps55, Exit.thenS]
  refine wpS_cond (t := false) (by simp [Act.eval, Array.replicate]) ?_
  simp only [Bool.false_eq_true, if_false]
  refine wpS_of_wp (wp_skip ?_)
  cases c₀
  simp_all [bodyPostS, results, Try.results55]
theorem info40 : (Try.prog.info? 40).map (fun i => (i.zero, i.size, i.bytes)) = some (some (.float .f64 0), 1, 8) := by kernel_rfl
theorem mixed : Try.prog.follows .mixedOrders = true := by kernel_rfl
def pl110 : Nat → Option (Nat × Nat) := fun i => ([(0, 1), (1, 1), (2, 1)] : List (Nat × Nat))[i]?
theorem places110 : placesT Try.prog 110 = some pl110 := by kernel_rfl
def pl24 : Nat → Option (Nat × Nat) := fun i => ([(0, 1), (1, 1), (2, 1)] : List (Nat × Nat))[i]?
theorem places24 : placesT Try.prog 24 = some pl24 := by kernel_rfl
def pl33 : Nat → Option (Nat × Nat) := fun i => ([(0, 1), (1, 1), (2, 1), (3, 1), (4, 1), (5, 1), (6, 1)] : List (Nat × Nat))[i]?
theorem places33 : placesT Try.prog 33 = some pl33 := by kernel_rfl
theorem size22 : sizeT Try.prog 22 = some 1 := by kernel_rfl
theorem size24 : sizeT Try.prog 24 = some 3 := by kernel_rfl
theorem size4 : sizeT Try.prog 4 = some 1 := by kernel_rfl
theorem size40 : sizeT Try.prog 40 = some 1 := by kernel_rfl
theorem size79 : sizeT Try.prog 79 = some 1 := by kernel_rfl
theorem size80 : sizeT Try.prog 80 = some 1 := by kernel_rfl
theorem zero110 : (Try.prog.info? 110).map (·.zero) = some (some (.agg #[.int .i64 0, .slice none 0 0, .slice none 0 0])) := by kernel_rfl
theorem zero24 : (Try.prog.info? 24).map (·.zero) = some (some (.agg #[.int .i64 0, .slice none 0 0, .slice none 0 0])) := by kernel_rfl
theorem zero33 : (Try.prog.info? 33).map (·.zero) = some (some (.agg #[.int .i64 0, .int .i64 0, .int .i64 0, .slice none 0 0, .slice none 0 0, .slice none 0 0, .slice none 0 0])) := by kernel_rfl
theorem zero4 : (Try.prog.info? 4).map (·.zero) = some (some (.bool false)) := by kernel_rfl
theorem zero40 : (Try.prog.info? 40).map (·.zero) = some (some (.float .f64 0)) := by kernel_rfl
set_option maxRecDepth 100000 in
set_option maxHeartbeats 1000000 in
/-- pub-orthodrome/laws.zzFits1 -/
theorem w_zzFits1 (a0 : TImpl_Box) (r0 : Bool) (h0 : p_zzFits1 a0 = some r0) : FnD Try.prog 12 [e_TImpl_Box a0] (fun r => r = dbool r0) := by
  refine FnD.of (by kernel_rfl) Try.func12 rfl Try.ntmps12 rfl (leb rfl) fun W ok => ?_
  unfold p_zzFits1 at h0
  refine AC.seq ?_
  refine AC.region ?_
  refine AO.op rfl (AOp.box rfl rfl (ltb rfl) rfl rfl ?_)
  refine AO.op rfl (AOp.assign rfl rfl (ltb rfl) rfl ?_)
  refine AO.nil ?_
  change AC _ _ _ _
  refine AC.seq ?_
  refine AC.seq ?_
  refine AC.region ?_
  refine AO.op rfl (AOp.fieldAddr rfl rfl (ltb rfl) rfl fo24_1 ?_)
  refine AO.op rfl (AOp.load1 rfl rfl (ltb rfl) rfl agg22 rfl rfl ?_)
  refine AO.op rfl (AOp.lenDs (n := a0.Min.length) (cells := (List.map keS0 a0.Min)) rfl rfl (ltb rfl) rfl el22 (by decide) (len1 _ _) ?_)
  refine AO.op rfl (AOp.igtr rfl rfl (ltb rfl) rfl rfl ?_)
  refine AO.nil ?_
  change AC _ _ _ _
  refine AC.cond rfl (fun q1 => ?_) (fun q1 => ?_)
  · replace h0 := cT h0 q1
    refine AC.seq ?_
    refine AC.region ?_
    refine AO.op rfl (AOp.assign rfl rfl (ltb rfl) rfl ?_)
    refine AO.nil ?_
    change AC _ _ _ _
    refine AC.ret ?_
    change RetQ _ _ _ .ret _
    obtain rfl := Option.some.inj h0
    refine retq rfl rfl
  replace h0 := cF h0 q1
  refine AC.skip ?_
  change AC _ _ _ _
  refine AC.seq ?_
  refine AC.seq ?_
  refine AC.region ?_
  refine AO.op rfl (AOp.fieldAddr rfl rfl (ltb rfl) rfl fo24_2 ?_)
  refine AO.op rfl (AOp.load1 rfl rfl (ltb rfl) rfl agg22 rfl rfl ?_)
  refine AO.op rfl (AOp.lenDs (n := a0.Max.length) (cells := (List.map keS0 a0.Max)) rfl rfl (ltb rfl) rfl el22 (by decide) (len1 _ _) ?_)
  refine AO.op rfl (AOp.igtr rfl rfl (ltb rfl) rfl rfl ?_)
  refine AO.nil ?_
  change AC _ _ _ _
  refine AC.cond rfl (fun q2 => ?_) (fun q2 => ?_)
  · replace h0 := cT h0 q2
    refine AC.seq ?_
    refine AC.region ?_
    refine AO.op rfl (AOp.assign rfl rfl (ltb rfl) rfl ?_)
    refine AO.nil ?_
    change AC _ _ _ _
    refine AC.ret ?_
    change RetQ _ _ _ .ret _
    obtain rfl := Option.some.inj h0
    refine retq rfl rfl
  replace h0 := cF h0 q2
  refine AC.skip ?_
  change AC _ _ _ _
  refine AC.seq ?_
  refine AC.region ?_
  refine AO.op rfl (AOp.assign rfl rfl (ltb rfl) rfl ?_)
  refine AO.nil ?_
  change AC _ _ _ _
  refine AC.ret ?_
  change RetQ _ _ _ .ret _
  obtain rfl := Option.some.inj h0
  refine retq rfl rfl

set_option maxRecDepth 100000 in
set_option maxHeartbeats 1000000 in
/-- pub-orthodrome/spec.Stride -/
theorem w_Stride (a0 : Int) (r0 : Int) (h0 : p_Stride a0 = some r0) : FnD Try.prog 14 [di .i64 a0] (fun r => r = di .i64 r0) := by
  refine FnD.of (by kernel_rfl) Try.func14 rfl Try.ntmps14 rfl (leb rfl) fun W ok => ?_
  unfold p_Stride at h0
  refine AC.seq ?_
  refine AC.region ?_
  refine AO.op rfl (AOp.assign rfl rfl (ltb rfl) rfl ?_)
  refine AO.nil ?_
  change AC _ _ _ _
  refine AC.seq ?_
  refine AC.block ?_
  refine AC.seq ?_
  refine AC.region ?_
  refine AO.op rfl (AOp.move rfl rfl (ltb rfl) rfl ?_)
  refine AO.op rfl (AOp.ilss rfl rfl (ltb rfl) rfl rfl ?_)
  refine AO.op rfl (AOp.assign rfl rfl (ltb rfl) rfl ?_)
  refine AO.nil ?_
  change AC _ _ _ _
  refine AC.cond rfl (fun q1 => ?_) (fun q1 => ?_)
  · replace h0 := cT h0 q1
    refine AC.seq ?_
    refine AC.region ?_
    refine AO.op rfl (AOp.assign rfl rfl (ltb rfl) rfl ?_)
    refine AO.nil ?_
    change AC _ _ _ _
    refine AC.ret ?_
    change RetQ _ _ _ .ret _
    obtain rfl := Option.some.inj h0
    refine retq rfl rfl
  replace h0 := cF h0 q1
  refine AC.seq ?_
  refine AC.region ?_
  refine AO.op rfl (AOp.move rfl rfl (ltb rfl) rfl ?_)
  refine AO.op rfl (AOp.ieql rfl rfl (ltb rfl) rfl rfl ?_)
  refine AO.op rfl (AOp.assign rfl rfl (ltb rfl) rfl ?_)
  refine AO.nil ?_
  change AC _ _ _ _
  refine AC.cond rfl (fun q2 => ?_) (fun q2 => ?_)
  · replace h0 := cT h0 q2
    refine AC.seq ?_
    refine AC.region ?_
    refine AO.op rfl (AOp.assign rfl rfl (ltb rfl) rfl ?_)
    refine AO.nil ?_
    change AC _ _ _ _
    refine AC.ret ?_
    change RetQ _ _ _ .ret _
    obtain rfl := Option.some.inj h0
    refine retq rfl rfl
  replace h0 := cF h0 q2
  refine AC.seq ?_
  refine AC.region ?_
  refine AO.op rfl (AOp.move rfl rfl (ltb rfl) rfl ?_)
  refine AO.op rfl (AOp.ieql rfl rfl (ltb rfl) rfl rfl ?_)
  refine AO.op rfl (AOp.move rfl rfl (ltb rfl) rfl ?_)
  refine AO.dec (decide (a0 = (2 : Int))) (fun q3 => ?_) (fun q3 => ?_)
  · replace h0 := cT h0 q3
    refine AO.guardN rfl rfl rfl (ltb rfl) rfl q3 ?_
    refine AO.guardN rfl rfl rfl (ltb rfl) rfl q3 ?_
    refine AO.op rfl (AOp.pick rfl rfl (ltb rfl) rfl q3 rfl ?_)
    refine AO.op rfl (AOp.assign rfl rfl (ltb rfl) rfl ?_)
    refine AO.nil ?_
    change AC _ _ _ _
    refine AC.condT rfl rfl ?_
    refine AC.seq ?_
    refine AC.region ?_
    refine AO.op rfl (AOp.assign rfl rfl (ltb rfl) rfl ?_)
    refine AO.nil ?_
    change AC _ _ _ _
    refine AC.ret ?_
    change RetQ _ _ _ .ret _
    obtain rfl := Option.some.inj h0
    refine retq rfl rfl
  replace h0 := cF h0 q3
  refine AO.guardY rfl rfl rfl q3 (AOp.move rfl rfl (ltb rfl) rfl ?_)
  refine AO.guardY rfl rfl rfl q3 (AOp.ieql rfl rfl (ltb rfl) rfl rfl ?_)
  refine AO.op rfl (AOp.pickN rfl rfl (ltb rfl) rfl q3 rfl ?_)
  refine AO.op rfl (AOp.assign rfl rfl (ltb rfl) rfl ?_)
  refine AO.nil ?_
  change AC _ _ _ _
  refine AC.cond rfl (fun q4 => ?_) (fun q4 => ?_)
  · replace h0 := cT h0 q4
    refine AC.seq ?_
    refine AC.region ?_
    refine AO.op rfl (AOp.assign rfl rfl (ltb rfl) rfl ?_)
    refine AO.nil ?_
    change AC _ _ _ _
    refine AC.ret ?_
    change RetQ _ _ _ .ret _
    obtain rfl := Option.some.inj h0
    refine retq rfl rfl
  replace h0 := cF h0 q4
  refine AC.skip ?_
  change AC _ _ _ _
  refine AC.seq ?_
  refine AC.region ?_
  refine AO.op rfl (AOp.move rfl rfl (ltb rfl) rfl ?_)
  refine AO.op rfl (AOp.assign rfl rfl (ltb rfl) rfl ?_)
  refine AO.nil ?_
  change AC _ _ _ _
  refine AC.ret ?_
  change RetQ _ _ _ .ret _
  obtain rfl := Option.some.inj h0
  refine retq rfl rfl

set_option maxRecDepth 100000 in
set_option maxHeartbeats 1000000 in
/-- pub-orthodrome/laws.gNumber -/
theorem w_gNumber (a0 : Nat) (r0 : Bool) (h0 : p_gNumber a0 = some r0) : FnD Try.prog 16 [dfl a0] (fun r => r = dbool r0) := by
  refine FnD.of (by kernel_rfl) Try.func16 rfl Try.ntmps16 rfl (leb rfl) fun W ok => ?_
  unfold p_gNumber at h0
  refine AC.seq ?_
  refine AC.region ?_
  refine AO.op rfl (AOp.assign rfl rfl (ltb rfl) rfl ?_)
  refine AO.nil ?_
  change AC _ _ _ _
  refine AC.seq ?_
  refine AC.region ?_
  refine AO.op rfl (AOp.move rfl rfl (ltb rfl) rfl ?_)
  refine AO.op rfl (AOp.move rfl rfl (ltb rfl) rfl ?_)
  refine AO.op rfl (AOp.feql rfl rfl (ltb rfl) rfl rfl ?_)
  refine AO.op rfl (AOp.assign rfl rfl (ltb rfl) rfl ?_)
  refine AO.nil ?_
  change AC _ _ _ _
  refine AC.ret ?_
  change RetQ _ _ _ .ret _
  obtain rfl := Option.some.inj h0
  refine retq rfl rfl

set_option maxRecDepth 100000 in
set_option maxHeartbeats 1000000 in
/-- pub-orthodrome/laws.bBox -/
theorem w_bBox (F : Nat) (a0 : (List TImpl_Box)) (r0 : Bool) (h0 : p_bBox F a0 = some r0) : FnD Try.prog 13 [eS1 a0] (fun r => r = dbool r0) := by
  refine FnD.of (by kernel_rfl) Try.func13 rfl Try.ntmps13 rfl (leb rfl) fun W ok => ?_
  unfold p_bBox at h0
  refine AC.seq ?_
  refine AC.region ?_
  refine AO.op rfl (AOp.assign rfl rfl (ltb rfl) rfl ?_)
  refine AO.nil ?_
  change AC _ _ _ _
  refine AC.seq ?_
  refine AC.seq ?_
  refine AC.region ?_
  refine AO.op rfl (AOp.move rfl rfl (ltb rfl) rfl ?_)
  refine AO.op rfl (AOp.lenDs (n := a0.length) (cells := (List.flatMap c_TImpl_Box a0)) rfl rfl (ltb rfl) rfl el75 (by decide) (lenN _ 3 (fun _ => rfl) _) ?_)
  refine AO.op rfl (AOp.move rfl rfl (ltb rfl) rfl ?_)
  refine AO.nil ?_
  change AC _ _ _ _
  obtain ⟨o1, l2, h0⟩ := bind_elim h0
  refine AC.joinE (V := Unit) [] [] 0 (fun g3 => []) (fun g3 => []) (fun g3 => p_bBox_k1 g3 = some r0) rfl ?_ ?_
  · refine AC.block ?_
    refine AC.loopP (V := Int) (p_bBox_l2 a0 F) o1 [6, 7] [8] 0 (fun g4 => [(8, .d (di .i64 g4))]) (fun g4 => []) F (0 : Int) l2 rfl rfl (LeL.refl _) rfl rfl ?_
    intro n6 g4 h1
    unfold p_bBox_l2 at h1
    refine AC.seq ?_
    refine AC.region ?_
    refine AO.op rfl (AOp.ilss rfl rfl (ltb rfl) rfl rfl ?_)
    refine AO.nil ?_
    change AC _ _ _ _
    refine AC.seq ?_
    refine AC.cond rfl (fun q7 => ?_) (fun q7 => ?_)
    · replace h1 := cT h1 q7
      refine AC.skip ?_
      change AC _ _ _ _
      refine AC.seq ?_
      refine AC.block ?_
      refine AC.seq ?_
      refine AC.region ?_
      obtain ⟨x8, q9, h1⟩ := idx_elim h1
      refine AO.op rfl (AOp.indexDs (cells := (List.flatMap c_TImpl_Box a0)) rfl rfl (ltb rfl) rfl rfl el75 (by decide) q9.1 (ltN 3 (fun _ => rfl) (by decide) q9.2) ?_)
      refine AO.op rfl (AOp.loadEpN rfl rfl (ltb rfl) rfl agg24 size24 (leN 3 (fun _ => rfl) q9.2) (atN 3 (fun _ => rfl) q9.2) ?_)
      refine AO.op rfl (AOp.alloc rfl rfl (ltb rfl) zero24 rfl ?_)
      refine AO.op rfl (AOp.store rfl rfl rfl rfl size24 rfl rfl rfl (leb rfl) ?_)
      refine AO.nil ?_
      change AC _ _ _ _
      refine AC.seq ?_
      refine AC.joinP (V := Bool) [4, 6, 7, 8] [37] 1 (fun g10 => [(37, .d (dbool g10))]) (fun g10 => [.fix 24 [.d (di .i64 x8.Layout), .d (eS0 x8.Min), .d (eS0 x8.Max)]]) (fun g10 => (p_bBox_k3 F g4 (iter (p_bBox_l2 a0 F) n6) x8) g10 = some o1) rfl ?_ ?_
      · refine AC.draw 26 mixed (by kernel_rfl) ?_
        refine AD.op [4] rfl (by kernel_rfl) rfl rfl (fun _ _ h => AOp.fieldAddr rfl rfl (ltb rfl) rfl fo24_0 h) ?_
        refine AD.op [12] rfl (by kernel_rfl) rfl rfl (fun _ _ h => AOp.load1 rfl rfl (ltb rfl) rfl agg3 rfl rfl h) ?_
        refine AD.op [13] rfl (by kernel_rfl) rfl rfl (fun _ _ h => AOp.ilss rfl rfl (ltb rfl) rfl rfl h) ?_
        refine AD.op [14] rfl (by kernel_rfl) rfl rfl (fun _ _ h => AOp.move rfl rfl (ltb rfl) rfl h) ?_
        refine AD.dec (decide (x8.Layout < (0 : Int))) (fun q31 => ?_) (fun q31 => ?_)
        · replace h1 := cT h1 q31
          refine AD.opN rfl rfl rfl (ltb rfl) rfl q31 ?_
          refine AD.opN rfl rfl rfl (ltb rfl) rfl q31 ?_
          refine AD.opN rfl rfl rfl (ltb rfl) rfl q31 ?_
          refine AD.op [15, 18] rfl (by kernel_rfl) rfl rfl (fun _ _ h => AOp.pick rfl rfl (ltb rfl) rfl q31 rfl h) ?_
          refine AD.op [19] rfl (by kernel_rfl) rfl rfl (fun _ _ h => AOp.move rfl rfl (ltb rfl) rfl h) ?_
          refine AD.opN rfl rfl rfl (ltb rfl) rfl rfl ?_
          refine AD.opN rfl rfl rfl (ltb rfl) rfl rfl ?_
          refine AD.opN rfl rfl rfl (ltb rfl) rfl rfl ?_
          refine AD.opN rfl rfl rfl (ltb rfl) rfl rfl ?_
          refine AD.opN rfl rfl rfl (ltb rfl) rfl rfl ?_
          refine AD.opN rfl rfl rfl (ltb rfl) rfl rfl ?_
          refine AD.opN rfl rfl rfl (ltb rfl) rfl rfl ?_
          refine AD.op [20, 27] rfl (by kernel_rfl) rfl rfl (fun _ _ h => AOp.pick rfl rfl (ltb rfl) rfl rfl rfl h) ?_
          refine AD.op [28] rfl (by kernel_rfl) rfl rfl (fun _ _ h => AOp.move rfl rfl (ltb rfl) rfl h) ?_
          refine AD.opN rfl rfl rfl (ltb rfl) rfl rfl ?_
          refine AD.opN rfl rfl rfl (ltb rfl) rfl rfl ?_
          refine AD.opN rfl rfl rfl (ltb rfl) rfl rfl ?_
          refine AD.opN rfl rfl rfl (ltb rfl) rfl rfl ?_
          refine AD.opN rfl rfl rfl (ltb rfl) rfl rfl ?_
          refine AD.opN rfl rfl rfl (ltb rfl) rfl rfl ?_
          refine AD.opN rfl rfl rfl (ltb rfl) rfl rfl ?_
          refine AD.op [29, 36] rfl (by kernel_rfl) rfl rfl (fun _ _ h => AOp.pick rfl rfl (ltb rfl) rfl rfl rfl h) ?_
          refine AD.done ?_
          refine AO.nil ?_
          exact ⟨true, _, rfl, (LeL.refl _), rfl, rfl, h1⟩
        replace h1 := cF h1 q31
        refine AD.opY [4, 15] rfl rfl rfl q31 (by kernel_rfl) rfl rfl (fun _ _ h => AOp.fieldAddr rfl rfl (ltb rfl) rfl fo24_0 h) ?_
        refine AD.opY [15, 16] rfl rfl rfl q31 (by kernel_rfl) rfl rfl (fun _ _ h => AOp.load1 rfl rfl (ltb rfl) rfl agg3 rfl rfl h) ?_
        refine AD.opY [15, 17] rfl rfl rfl q31 (by kernel_rfl) rfl rfl (fun _ _ h => AOp.igtr rfl rfl (ltb rfl) rfl rfl h) ?_
        refine AD.op [15, 18] rfl (by kernel_rfl) rfl rfl (fun _ _ h => AOp.pickN rfl rfl (ltb rfl) rfl q31 rfl h) ?_
        refine AD.op [19] rfl (by kernel_rfl) rfl rfl (fun _ _ h => AOp.move rfl rfl (ltb rfl) rfl h) ?_
        refine AD.dec (decide ((9 : Int) < x8.Layout)) (fun q32 => ?_) (fun q32 => ?_)
        · replace h1 := cT h1 q32
          refine AD.opN rfl rfl rfl (ltb rfl) rfl q32 ?_
          refine AD.opN rfl rfl rfl (ltb rfl) rfl q32 ?_
          refine AD.opN rfl rfl rfl (ltb rfl) rfl q32 ?_
          refine AD.opN rfl rfl rfl (ltb rfl) rfl q32 ?_
          refine AD.opN rfl rfl rfl (ltb rfl) rfl q32 ?_
          refine AD.opN rfl rfl rfl (ltb rfl) rfl q32 ?_
          refine AD.opN rfl rfl rfl (ltb rfl) rfl q32 ?_
          refine AD.op [20, 27] rfl (by kernel_rfl) rfl rfl (fun _ _ h => AOp.pick rfl rfl (ltb rfl) rfl q32 rfl h) ?_
          refine AD.op [28] rfl (by kernel_rfl) rfl rfl (fun _ _ h => AOp.move rfl rfl (ltb rfl) rfl h) ?_
          refine AD.opN rfl rfl rfl (ltb rfl) rfl rfl ?_
          refine AD.opN rfl rfl rfl (ltb rfl) rfl rfl ?_
          refine AD.opN rfl rfl rfl (ltb rfl) rfl rfl ?_
          refine AD.opN rfl rfl rfl (ltb rfl) rfl rfl ?_
          refine AD.opN rfl rfl rfl (ltb rfl) rfl rfl ?_
          refine AD.opN rfl rfl rfl (ltb rfl) rfl rfl ?_
          refine AD.opN rfl rfl rfl (ltb rfl) rfl rfl ?_
          refine AD.op [29, 36] rfl (by kernel_rfl) rfl rfl (fun _ _ h => AOp.pick rfl rfl (ltb rfl) rfl rfl rfl h) ?_
          refine AD.done ?_
          refine AO.nil ?_
          exact ⟨true, _, rfl, (LeL.refl _), rfl, rfl, h1⟩
        replace h1 := cF h1 q32
        refine AD.opY [4, 20] rfl rfl rfl q32 (by kernel_rfl) rfl rfl (fun _ _ h => AOp.fieldAddr rfl rfl (ltb rfl) rfl fo24_1 h) ?_
        refine AD.opY [20, 21] rfl rfl rfl q32 (by kernel_rfl) rfl rfl (fun _ _ h => AOp.load1 rfl rfl (ltb rfl) rfl agg22 rfl rfl h) ?_
        refine AD.opY [20, 22] rfl rfl rfl q32 (by kernel_rfl) rfl rfl (fun _ _ h => AOp.lenDs (n := x8.Min.length) (cells := (List.map keS0 x8.Min)) rfl rfl (ltb rfl) rfl el22 (by decide) (len1 _ _) h) ?_
        refine AD.opY [4, 20] rfl rfl rfl q32 (by kernel_rfl) rfl rfl (fun _ _ h => AOp.fieldAddr rfl rfl (ltb rfl) rfl fo24_0 h) ?_
        refine AD.opY [20, 24] rfl rfl rfl q32 (by kernel_rfl) rfl rfl (fun _ _ h => AOp.load1 rfl rfl (ltb rfl) rfl agg3 rfl rfl h) ?_
        obtain ⟨y33, q34, h1⟩ := bind_elim h1
        refine AD.opY [20, 25] rfl rfl rfl q32 (by kernel_rfl) rfl rfl (fun _ _ h => AOp.callD rfl rfl (ltb rfl) rfl rfl (w_Stride x8.Layout y33 q34) (by rintro _ rfl; exact h)) ?_
        refine AD.opY [20, 23, 26] rfl rfl rfl q32 (by kernel_rfl) rfl rfl (fun _ _ h => AOp.ineq rfl rfl (ltb rfl) rfl rfl h) ?_
        refine AD.op [20, 27] rfl (by kernel_rfl) rfl rfl (fun _ _ h => AOp.pickN rfl rfl (ltb rfl) rfl q32 rfl h) ?_
        refine AD.op [28] rfl (by kernel_rfl) rfl rfl (fun _ _ h => AOp.move rfl rfl (ltb rfl) rfl h) ?_
        refine AD.dec (!decide (((x8.Min.length : Nat) : Int) = y33)) (fun q35 => ?_) (fun q35 => ?_)
        · replace h1 := cT h1 q35
          refine AD.opN rfl rfl rfl (ltb rfl) rfl q35 ?_
          refine AD.opN rfl rfl rfl (ltb rfl) rfl q35 ?_
          refine AD.opN rfl rfl rfl (ltb rfl) rfl q35 ?_
          refine AD.opN rfl rfl rfl (ltb rfl) rfl q35 ?_
          refine AD.opN rfl rfl rfl (ltb rfl) rfl q35 ?_
          refine AD.opN rfl rfl rfl (ltb rfl) rfl q35 ?_
          refine AD.opN rfl rfl rfl (ltb rfl) rfl q35 ?_
          refine AD.op [29, 36] rfl (by kernel_rfl) rfl rfl (fun _ _ h => AOp.pick rfl rfl (ltb rfl) rfl q35 rfl h) ?_
          refine AD.done ?_
          refine AO.nil ?_
          exact ⟨true, _, rfl, (LeL.refl _), rfl, rfl, h1⟩
        replace h1 := cF h1 q35
        refine AD.opY [4, 29] rfl rfl rfl q35 (by kernel_rfl) rfl rfl (fun _ _ h => AOp.fieldAddr rfl rfl (ltb rfl) rfl fo24_2 h) ?_
        refine AD.opY [29, 30] rfl rfl rfl q35 (by kernel_rfl) rfl rfl (fun _ _ h => AOp.load1 rfl rfl (ltb rfl) rfl agg22 rfl rfl h) ?_
        refine AD.opY [29, 31] rfl rfl rfl q35 (by kernel_rfl) rfl rfl (fun _ _ h => AOp.lenDs (n := x8.Max.length) (cells := (List.map keS0 x8.Max)) rfl rfl (ltb rfl) rfl el22 (by decide) (len1 _ _) h) ?_
        refine AD.opY [4, 29] rfl rfl rfl q35 (by kernel_rfl) rfl rfl (fun _ _ h => AOp.fieldAddr rfl rfl (ltb rfl) rfl fo24_1 h) ?_
        refine AD.opY [29, 33] rfl rfl rfl q35 (by kernel_rfl) rfl rfl (fun _ _ h => AOp.load1 rfl rfl (ltb rfl) rfl agg22 rfl rfl h) ?_
        refine AD.opY [29, 34] rfl rfl rfl q35 (by kernel_rfl) rfl rfl (fun _ _ h => AOp.lenDs (n := x8.Min.length) (cells := (List.map keS0 x8.Min)) rfl rfl (ltb rfl) rfl el22 (by decide) (len1 _ _) h) ?_
        refine AD.opY [29, 32, 35] rfl rfl rfl q35 (by kernel_rfl) rfl rfl (fun _ _ h => AOp.ineq rfl rfl (ltb rfl) rfl rfl h) ?_
        refine AD.op [29, 36] rfl (by kernel_rfl) rfl rfl (fun _ _ h => AOp.pickN rfl rfl (ltb rfl) rfl q35 rfl h) ?_
        refine AD.done ?_
        refine AO.nil ?_
        exact ⟨(!decide (((x8.Max.length : Nat) : Int) = ((x8.Min.length : Nat) : Int))), _, rfl, (LeL.refl _), rfl, rfl, h1⟩
      intro g10 h1
      unfold p_bBox_k3 at h1
      refine AC.cond rfl (fun q11 => ?_) (fun q11 => ?_)
      · replace h1 := cT h1 q11
        refine AC.seq ?_
        refine AC.region ?_
        refine AO.op rfl (AOp.assign rfl rfl (ltb rfl) rfl ?_)
        refine AO.nil ?_
        change AC _ _ _ _
        refine AC.ret ?_
        change RetQ _ _ _ .ret _
        obtain rfl := Option.some.inj h1
        replace h0 := aftR h0
        obtain rfl := Option.some.inj h0
        refine retq rfl rfl
      replace h1 := cF h1 q11
      refine AC.skip ?_
      change AC _ _ _ _
      refine AC.seq ?_
      refine AC.region ?_
      refine AO.op rfl (AOp.fieldAddr rfl rfl (ltb rfl) rfl fo24_1 ?_)
      refine AO.op rfl (AOp.load1 rfl rfl (ltb rfl) rfl agg22 rfl rfl ?_)
      refine AO.op rfl (AOp.lenDs (n := x8.Min.length) (cells := (List.map keS0 x8.Min)) rfl rfl (ltb rfl) rfl el22 (by decide) (len1 _ _) ?_)
      refine AO.op rfl (AOp.move rfl rfl (ltb rfl) rfl ?_)
      refine AO.nil ?_
      change AC _ _ _ _
      obtain ⟨o12, l13, h1⟩ := bind_elim h1
      refine AC.joinE (V := Unit) [6, 7, 8] [] 1 (fun g14 => []) (fun g14 => [.fix 24 [.d (di .i64 x8.Layout), .d (eS0 x8.Min), .d (eS0 x8.Max)]]) (fun g14 => (p_bBox_k4 g4 (iter (p_bBox_l2 a0 F) n6)) g14 = some o1) rfl ?_ ?_
      · refine AC.block ?_
        refine AC.loopP (V := Int) (p_bBox_l5 x8) o12 [4, 6, 7, 8, 40] [41] 1 (fun g16 => [(41, .d (di .i64 g16))]) (fun g16 => [.fix 24 [.d (di .i64 x8.Layout), .d (eS0 x8.Min), .d (eS0 x8.Max)]]) F (0 : Int) l13 rfl rfl (LeL.refl _) rfl rfl ?_
        intro n18 g16 h2
        unfold p_bBox_l5 at h2
        refine AC.seq ?_
        refine AC.region ?_
        refine AO.op rfl (AOp.ilss rfl rfl (ltb rfl) rfl rfl ?_)
        refine AO.nil ?_
        change AC _ _ _ _
        refine AC.seq ?_
        refine AC.cond rfl (fun q19 => ?_) (fun q19 => ?_)
        · replace h2 := cT h2 q19
          refine AC.skip ?_
          change AC _ _ _ _
          refine AC.seq ?_
          refine AC.block ?_
          refine AC.seq ?_
          refine AC.region ?_
          refine AO.op rfl (AOp.move rfl rfl (ltb rfl) rfl ?_)
          refine AO.op rfl (AOp.assign rfl rfl (ltb rfl) rfl ?_)
          refine AO.nil ?_
          change AC _ _ _ _
          refine AC.seq ?_
          refine AC.region ?_
          refine AO.op rfl (AOp.fieldAddr rfl rfl (ltb rfl) rfl fo24_1 ?_)
          refine AO.op rfl (AOp.load1 rfl rfl (ltb rfl) rfl agg22 rfl rfl ?_)
          refine AO.op rfl (AOp.move rfl rfl (ltb rfl) rfl ?_)
          obtain ⟨x20, q21, h2⟩ := idx_elim h2
          refine AO.op rfl (AOp.indexDs (cells := (List.map keS0 x8.Min)) rfl rfl (ltb rfl) rfl rfl el22 (by decide) q21.1 (lt1 q21.2) ?_)
          refine AO.op rfl (AOp.loadEp rfl rfl (ltb rfl) rfl agg40 (at1 q21.2) ?_)
          obtain ⟨y22, q23, h2⟩ := bind_elim h2
          refine AO.op rfl (AOp.callD rfl rfl (ltb rfl) rfl rfl (w_gNumber x20 y22 q23) ?_)
          rintro _ rfl
          refine AO.op rfl (AOp.bnot rfl rfl (ltb rfl) rfl ?_)
          refine AO.op rfl (AOp.move rfl rfl (ltb rfl) rfl ?_)
          refine AO.dec (!y22) (fun q24 => ?_) (fun q24 => ?_)
          · replace h2 := cT h2 q24
            refine AO.guardN rfl rfl rfl (ltb rfl) rfl q24 ?_
            refine AO.guardN rfl rfl rfl (ltb rfl) rfl q24 ?_
            refine AO.guardN rfl rfl rfl (ltb rfl) rfl q24 ?_
            refine AO.guardN rfl rfl rfl (ltb rfl) rfl q24 ?_
            refine AO.guardN rfl rfl rfl (ltb rfl) rfl q24 ?_
            refine AO.guardN rfl rfl rfl (ltb rfl) rfl q24 ?_
            refine AO.guardN rfl rfl rfl (ltb rfl) rfl q24 ?_
            refine AO.op rfl (AOp.pick rfl rfl (ltb rfl) rfl q24 rfl ?_)
            refine AO.nil ?_
            change AC _ _ _ _
            refine AC.condT rfl rfl ?_
            refine AC.seq ?_
            refine AC.region ?_
            refine AO.op rfl (AOp.assign rfl rfl (ltb rfl) rfl ?_)
            refine AO.nil ?_
            change AC _ _ _ _
            refine AC.ret ?_
            change RetQ _ _ _ .ret _
            obtain rfl := Option.some.inj h2
            replace h1 := aftR h1
            obtain rfl := Option.some.inj h1
            replace h0 := aftR h0
            obtain rfl := Option.some.inj h0
            refine retq rfl rfl
          replace h2 := cF h2 q24
          refine AO.guardY rfl rfl rfl q24 (AOp.fieldAddr rfl rfl (ltb rfl) rfl fo24_2 ?_)
          refine AO.guardY rfl rfl rfl q24 (AOp.load1 rfl rfl (ltb rfl) rfl agg22 rfl rfl ?_)
          refine AO.guardY rfl rfl rfl q24 (AOp.move rfl rfl (ltb rfl) rfl ?_)
          obtain ⟨x25, q26, h2⟩ := idx_elim h2
          refine AO.guardY rfl rfl rfl q24 (AOp.indexDs (cells := (List.map keS0 x8.Max)) rfl rfl (ltb rfl) rfl rfl el22 (by decide) q26.1 (lt1 q26.2) ?_)
          refine AO.guardY rfl rfl rfl q24 (AOp.loadEp rfl rfl (ltb rfl) rfl agg40 (at1 q26.2) ?_)
          obtain ⟨y27, q28, h2⟩ := bind_elim h2
          refine AO.guardY rfl rfl rfl q24 (AOp.callD rfl rfl (ltb rfl) rfl rfl (w_gNumber x25 y27 q28) ?_)
          rintro _ rfl
          refine AO.guardY rfl rfl rfl q24 (AOp.bnot rfl rfl (ltb rfl) rfl ?_)
          refine AO.op rfl (AOp.pickN rfl rfl (ltb rfl) rfl q24 rfl ?_)
          refine AO.nil ?_
          change AC _ _ _ _
          refine AC.cond rfl (fun q29 => ?_) (fun q29 => ?_)
          · replace h2 := cT h2 q29
            refine AC.seq ?_
            refine AC.region ?_
            refine AO.op rfl (AOp.assign rfl rfl (ltb rfl) rfl ?_)
            refine AO.nil ?_
            change AC _ _ _ _
            refine AC.ret ?_
            change RetQ _ _ _ .ret _
            obtain rfl := Option.some.inj h2
            replace h1 := aftR h1
            obtain rfl := Option.some.inj h1
            replace h0 := aftR h0
            obtain rfl := Option.some.inj h0
            refine retq rfl rfl
          replace h2 := cF h2 q29
          refine AC.skip ?_
          change AC _ _ _ _
          refine AC.region ?_
          obtain ⟨q30, h2⟩ := need_elim h2
          refine AO.op rfl (AOp.iadd rfl rfl (ltb rfl) rfl rfl rfl q30.1 q30.2 ?_)
          refine AO.op rfl (AOp.move rfl rfl (ltb rfl) rfl ?_)
          refine AO.nil ?_
          exact ⟨(g16 + (1 : Int)), _, rfl, (LeL.refl _), rfl, rfl, h2⟩
        replace h2 := cF h2 q19
        refine AC.exit ?_
        obtain rfl := Option.some.inj h2
        exact ⟨(), _, rfl, (LeL.refl _), rfl, rfl, aftL h1⟩
      intro g14 h1
      unfold p_bBox_k4 at h1
      change AC _ _ _ _
      refine AC.region ?_
      obtain ⟨q15, h1⟩ := need_elim h1
      refine AO.op rfl (AOp.iadd rfl rfl (ltb rfl) rfl rfl rfl q15.1 q15.2 ?_)
      refine AO.op rfl (AOp.move rfl rfl (ltb rfl) rfl ?_)
      refine AO.nil ?_
      exact ⟨(g4 + (1 : Int)), _, rfl, (LeL.refl _), rfl, rfl, h1⟩
    replace h1 := cF h1 q7
    refine AC.exit ?_
    obtain rfl := Option.some.inj h1
    exact ⟨(), _, rfl, (LeL.refl _), rfl, rfl, aftL h0⟩
  intro g3 h0
  unfold p_bBox_k1 at h0
  change AC _ _ _ _
  refine AC.seq ?_
  refine AC.region ?_
  refine AO.op rfl (AOp.assign rfl rfl (ltb rfl) rfl ?_)
  refine AO.nil ?_
  change AC _ _ _ _
  refine AC.ret ?_
  change RetQ _ _ _ .ret _
  obtain rfl := Option.some.inj h0
  refine retq rfl rfl

set_option maxRecDepth 100000 in
set_option maxHeartbeats 1000000 in
/-- pub-orthodrome/impl.floats -/
theorem w_floats (a0 : (List Nat)) (r0 : (List Nat)) (h0 : p_floats a0 = some r0) : FnD Try.prog 62 [eS0 a0] (fun r => r = eS0 r0) := by
  refine FnD.of (by kernel_rfl) Try.func62 rfl Try.ntmps62 rfl (leb rfl) fun W ok => ?_
  unfold p_floats at h0
  refine AC.seq ?_
  refine AC.region ?_
  refine AO.op rfl (AOp.assign rfl rfl (ltb rfl) rfl ?_)
  refine AO.nil ?_
  change AC _ _ _ _
  refine AC.seq ?_
  refine AC.region ?_
  refine AO.op rfl (AOp.move rfl rfl (ltb rfl) rfl ?_)
  obtain ⟨q1, h0⟩ := need_elim h0
  refine AO.op rfl (AOp.appendNil (m := a0.length) (news := (List.map keS0 a0)) rfl rfl (ltb rfl) rfl rfl el22 info40 rfl (by decide) (len1 _ _) (one1 _ (fun _ => rfl) _) (small63 q1) (small q1 (by decide)) ?_)
  refine AO.op rfl (AOp.assign rfl rfl (ltb rfl) rfl ?_)
  refine AO.nil ?_
  change AC _ _ _ _
  refine AC.ret ?_
  change RetQ _ _ _ .ret _
  obtain rfl := Option.some.inj h0
  refine retq rfl rfl

set_option maxRecDepth 100000 in
/-- pub-orthodrome/impl.floats: a new slice -/
theorem wn_floats (a0 : (List Nat)) (r0 : (List Nat)) (h0 : p_floats a0 = some r0) : FnN Try.prog 62 [eS0 a0] 40 1 (fun r => r = (List.map keS0 r0)) := by
  refine FnN.of (by kernel_rfl) Try.func62 rfl Try.ntmps62 rfl (leb rfl) fun W ok => ?_
  unfold p_floats at h0
  refine AC.seq ?_
  refine AC.region ?_
  refine AO.op rfl (AOp.assign rfl rfl (ltb rfl) rfl ?_)
  refine AO.nil ?_
  change AC _ _ _ _
  refine AC.seq ?_
  refine AC.region ?_
  refine AO.op rfl (AOp.move rfl rfl (ltb rfl) rfl ?_)
  obtain ⟨q1, h0⟩ := need_elim h0
  refine AO.op rfl (AOp.appendNew (m := a0.length) (news := (List.map keS0 a0)) rfl rfl (ltb rfl) rfl rfl el22 info40 rfl (by decide) (len1 _ _) (one1 _ (fun _ => rfl) _) (small63 q1) (small q1 (by decide)) ?_)
  refine AO.op rfl (AOp.assign rfl rfl (ltb rfl) rfl ?_)
  refine AO.nil ?_
  change AC _ _ _ _
  refine AC.ret ?_
  change RetN _ _ _ _ .ret _
  obtain rfl := Option.some.inj h0
  exact ⟨_, _, _, rfl, rfl, rfl, isV_map (fun _ => rfl) _, rfl⟩

theorem callFromBits (x : Nat) (w : World) : (callFunc 81 #[.int .u64 x]).run Try.prog w = .ok (.value (.float .f64 x)) w := by
  rw [run_callFunc_extern Try.func81 (by kernel_rfl) (by kernel_rfl) (by kernel_rfl) (e := Extern.MathFloatBits.float64frombits) (by kernel_rfl), run_f64frombits Try.prog x]
  rfl

set_option maxRecDepth 100000 in
set_option maxHeartbeats 1000000 in
/-- math.Inf -/
theorem w_Inf (a0 : Int) (r0 : Nat) (h0 : p_Inf a0 = some r0) : FnD Try.prog 54 [di .i64 a0] (fun r => r = dfl r0) := by
  refine FnD.of (by kernel_rfl) Try.func54 rfl Try.ntmps54 rfl (leb rfl) fun W ok => ?_
  unfold p_Inf at h0
  refine AC.seq ?_
  refine AC.region ?_
  refine AO.op rfl (AOp.assign rfl rfl (ltb rfl) rfl ?_)
  refine AO.nil ?_
  change AC _ _ _ _
  refine AC.seq ?_
  refine AC.region ?_
  refine AO.op rfl (AOp.assign rfl rfl (ltb rfl) rfl ?_)
  refine AO.nil ?_
  change AC _ _ _ _
  refine AC.seq ?_
  refine AC.seq ?_
  refine AC.region ?_
  refine AO.op rfl (AOp.move rfl rfl (ltb rfl) rfl ?_)
  refine AO.op rfl (AOp.igeq rfl rfl (ltb rfl) rfl rfl ?_)
  refine AO.nil ?_
  change AC _ _ _ _
  refine AC.cond rfl (fun q1 => ?_) (fun q1 => ?_)
  · replace h0 := cT h0 q1
    refine AC.region ?_
    refine AO.op rfl (AOp.assign rfl rfl (ltb rfl) rfl ?_)
    refine AO.nil ?_
    change AC _ _ _ _
    refine AC.seq ?_
    refine AC.region ?_
    refine AO.op rfl (AOp.move rfl rfl (ltb rfl) rfl ?_)
    obtain ⟨q2, h0⟩ := need_elim h0
    refine AO.op rfl (AOp.callX [.int .u64 ((((9218868437227405312 : Int)).toNat : Nat) : Int)] rfl rfl (ltb rfl) (by rw [q2]; rfl) (callFromBits (((9218868437227405312 : Int)).toNat)) ?_)
    refine AO.op rfl (AOp.assign rfl rfl (ltb rfl) rfl ?_)
    refine AO.nil ?_
    change AC _ _ _ _
    refine AC.ret ?_
    change RetQ _ _ _ .ret _
    obtain rfl := Option.some.inj h0
    refine retq rfl rfl
  replace h0 := cF h0 q1
  refine AC.region ?_
  refine AO.op rfl (AOp.assign rfl rfl (ltb rfl) rfl ?_)
  refine AO.nil ?_
  change AC _ _ _ _
  refine AC.seq ?_
  refine AC.region ?_
  refine AO.op rfl (AOp.move rfl rfl (ltb rfl) rfl ?_)
  obtain ⟨q3, h0⟩ := need_elim h0
  refine AO.op rfl (AOp.callX [.int .u64 ((((18442240474082181120 : Int)).toNat : Nat) : Int)] rfl rfl (ltb rfl) (by rw [q3]; rfl) (callFromBits (((18442240474082181120 : Int)).toNat)) ?_)
  refine AO.op rfl (AOp.assign rfl rfl (ltb rfl) rfl ?_)
  refine AO.nil ?_
  change AC _ _ _ _
  refine AC.ret ?_
  change RetQ _ _ _ .ret _
  obtain rfl := Option.some.inj h0
  refine retq rfl rfl

set_option maxRecDepth 100000 in
set_option maxHeartbeats 1000000 in
/-- (pub-orthodrome/pub/gogeom.Layout).Stride -/
theorem w_Layout_Stride (a0 : Int) (r0 : Int) (h0 : p_Layout_Stride a0 = some r0) : FnD Try.prog 72 [di .i64 a0] (fun r => r = di .i64 r0) := by
  refine FnD.of (by kernel_rfl) Try.func72 rfl Try.ntmps72 rfl (leb rfl) fun W ok => ?_
  unfold p_Layout_Stride at h0
  refine AC.seq ?_
  refine AC.region ?_
  refine AO.op rfl (AOp.assign rfl rfl (ltb rfl) rfl ?_)
  refine AO.nil ?_
  change AC _ _ _ _
  refine AC.seq ?_
  refine AC.region ?_
  refine AO.op rfl (AOp.move rfl rfl (ltb rfl) rfl ?_)
  refine AO.nil ?_
  change AC _ _ _ _
  refine AC.block ?_
  refine AC.seq ?_
  refine AC.region ?_
  refine AO.op rfl (AOp.ieql rfl rfl (ltb rfl) rfl rfl ?_)
  refine AO.op rfl (AOp.assign rfl rfl (ltb rfl) rfl ?_)
  refine AO.nil ?_
  change AC _ _ _ _
  refine AC.cond rfl (fun q1 => ?_) (fun q1 => ?_)
  · replace h0 := cT h0 q1
    refine AC.seq ?_
    refine AC.region ?_
    refine AO.op rfl (AOp.assign rfl rfl (ltb rfl) rfl ?_)
    refine AO.nil ?_
    change AC _ _ _ _
    refine AC.ret ?_
    change RetQ _ _ _ .ret _
    obtain rfl := Option.some.inj h0
    refine retq rfl rfl
  replace h0 := cF h0 q1
  refine AC.seq ?_
  refine AC.region ?_
  refine AO.op rfl (AOp.ieql rfl rfl (ltb rfl) rfl rfl ?_)
  refine AO.op rfl (AOp.assign rfl rfl (ltb rfl) rfl ?_)
  refine AO.nil ?_
  change AC _ _ _ _
  refine AC.cond rfl (fun q2 => ?_) (fun q2 => ?_)
  · replace h0 := cT h0 q2
    refine AC.seq ?_
    refine AC.region ?_
    refine AO.op rfl (AOp.assign rfl rfl (ltb rfl) rfl ?_)
    refine AO.nil ?_
    change AC _ _ _ _
    refine AC.ret ?_
    change RetQ _ _ _ .ret _
    obtain rfl := Option.some.inj h0
    refine retq rfl rfl
  replace h0 := cF h0 q2
  refine AC.seq ?_
  refine AC.region ?_
  refine AO.op rfl (AOp.ieql rfl rfl (ltb rfl) rfl rfl ?_)
  refine AO.op rfl (AOp.assign rfl rfl (ltb rfl) rfl ?_)
  refine AO.nil ?_
  change AC _ _ _ _
  refine AC.cond rfl (fun q3 => ?_) (fun q3 => ?_)
  · replace h0 := cT h0 q3
    refine AC.seq ?_
    refine AC.region ?_
    refine AO.op rfl (AOp.assign rfl rfl (ltb rfl) rfl ?_)
    refine AO.nil ?_
    change AC _ _ _ _
    refine AC.ret ?_
    change RetQ _ _ _ .ret _
    obtain rfl := Option.some.inj h0
    refine retq rfl rfl
  replace h0 := cF h0 q3
  refine AC.seq ?_
  refine AC.region ?_
  refine AO.op rfl (AOp.ieql rfl rfl (ltb rfl) rfl rfl ?_)
  refine AO.op rfl (AOp.assign rfl rfl (ltb rfl) rfl ?_)
  refine AO.nil ?_
  change AC _ _ _ _
  refine AC.cond rfl (fun q4 => ?_) (fun q4 => ?_)
  · replace h0 := cT h0 q4
    refine AC.seq ?_
    refine AC.region ?_
    refine AO.op rfl (AOp.assign rfl rfl (ltb rfl) rfl ?_)
    refine AO.nil ?_
    change AC _ _ _ _
    refine AC.ret ?_
    change RetQ _ _ _ .ret _
    obtain rfl := Option.some.inj h0
    refine retq rfl rfl
  replace h0 := cF h0 q4
  refine AC.seq ?_
  refine AC.region ?_
  refine AO.op rfl (AOp.ieql rfl rfl (ltb rfl) rfl rfl ?_)
  refine AO.op rfl (AOp.assign rfl rfl (ltb rfl) rfl ?_)
  refine AO.nil ?_
  change AC _ _ _ _
  refine AC.cond rfl (fun q5 => ?_) (fun q5 => ?_)
  · replace h0 := cT h0 q5
    refine AC.seq ?_
    refine AC.region ?_
    refine AO.op rfl (AOp.assign rfl rfl (ltb rfl) rfl ?_)
    refine AO.nil ?_
    change AC _ _ _ _
    refine AC.ret ?_
    change RetQ _ _ _ .ret _
    obtain rfl := Option.some.inj h0
    refine retq rfl rfl
  replace h0 := cF h0 q5
  refine AC.seq ?_
  refine AC.region ?_
  refine AO.op rfl (AOp.move rfl rfl (ltb rfl) rfl ?_)
  refine AO.op rfl (AOp.assign rfl rfl (ltb rfl) rfl ?_)
  refine AO.nil ?_
  change AC _ _ _ _
  refine AC.ret ?_
  change RetQ _ _ _ .ret _
  obtain rfl := Option.some.inj h0
  refine retq rfl rfl

set_option maxRecDepth 100000 in
set_option maxHeartbeats 1000000 in
/-- pub-orthodrome/impl.BoxExtendLayout -/
theorem w_BoxExtendLayout (F : Nat) (a0 : TImpl_Box) (a1 : Int) (r0 : (TImpl_Box × Bool)) (h0 : p_BoxExtendLayout F a0 a1 = some r0) : FnD Try.prog 26 [e_TImpl_Box a0, di .i64 a1] (fun r => r = .tu [e_TImpl_Box r0.1, dbool r0.2]) := by
  refine FnD.wrap (g := 55) (m := 2) (fun vs w h => idle55 vs w h) (by kernel_rfl) Try.func26 rfl Try.ntmps26 rfl (leb rfl) fun W ok => ?_
  unfold p_BoxExtendLayout at h0
  refine AW.seq ?_
  refine AC.region ?_
  refine AO.op rfl (AOp.box rfl rfl (ltb rfl) rfl rfl ?_)
  refine AO.op rfl (AOp.alloc rfl rfl (ltb rfl) zero24 rfl ?_)
  refine AO.op rfl (AOp.alloc rfl rfl (ltb rfl) zero4 rfl ?_)
  refine AO.nil ?_
  refine ⟨rfl, ?_⟩
  refine AW.defer (caps := [.tmp 4, .tmp 5]) rfl rfl rfl (ltb rfl) rfl rfl rfl rfl (by kernel_rfl) rfl fun df => ?_
  refine AC.seq ?_
  refine AC.region ?_
  refine AO.op rfl (AOp.loadN rfl rfl (ltb rfl) rfl agg24 size24 rfl (leb rfl) rfl ?_)
  refine AO.op rfl (AOp.inl [1, 4, 5] (by kernel_rfl) Try.func45 rfl Try.ntmps45 rfl rfl (ltb rfl) rfl (leb rfl) rfl ?_)
  intro fr1
  refine AC.seq ?_
  refine AC.region ?_
  refine AO.op rfl (AOp.box rfl rfl (ltb rfl) rfl rfl ?_)
  refine AO.op rfl (AOp.assign rfl rfl (ltb rfl) rfl ?_)
  refine AO.nil ?_
  change AC _ _ _ _
  refine AC.seq ?_
  refine AC.room ?_
  refine AC.room ?_
  obtain ⟨y2, q3, h0⟩ := bind_elim h0
  obtain ⟨y4, q5, h0⟩ := bind_elim h0
  refine AC.drawS [0, 1, 2, 3, 4, 5, 6, 7] [4, 7] [8, 9] (fun L => [.fix 24 [.d (di .i64 a0.Layout), .d (eS0 a0.Min), .d (eS0 a0.Max)], .fix 24 [.d (di .i64 (0 : Int)), .d (.v (.slice none 0 0)), .d (.v (.slice none 0 0))], .fix 4 [.d (dbool false)], .frame fr1 [(1, .d (di .i64 a1)), (4, .ptr 1 0), (5, .ptr 2 0)], .fix 24 [.d (di .i64 a0.Layout), .d (eS0 a0.Min), .d (eS0 a0.Max)], bif L 4 then .grow 40 1 (List.map keS0 y2) else .dead, bif L 7 then .grow 40 1 (List.map keS0 y4) else .dead]) [(4, SV.noO2 5 7), (7, SV.noO2 6 7)] mixed (by kernel_rfl) (fun L L' h => by simp only [h 4 (by decide), h 7 (by decide)]) rfl ?_
  refine AS.op [1] [] [] [4, 7] rfl rfl rfl (by kernel_rfl) (by kernel_rfl) rfl rfl (fun _ _ _ h => AOp.fieldAddr rfl rfl (ltb rfl) rfl fo24_0 h) (by kernel_rfl) ?_
  refine AS.op [3] [] [] [4, 7] rfl rfl rfl (by kernel_rfl) (by kernel_rfl) rfl rfl (fun _ _ _ h => AOp.load1 rfl rfl (ltb rfl) rfl agg3 rfl rfl h) (by kernel_rfl) ?_
  refine AS.op [1] [] [4, 7] [] rfl rfl rfl (by kernel_rfl) (by kernel_rfl) rfl rfl (fun _ _ _ h => AOp.fieldAddr rfl rfl (ltb rfl) rfl fo24_1 h) (by kernel_rfl) ?_
  refine AS.op [5] [] [4, 7] [] rfl rfl rfl (by kernel_rfl) (by kernel_rfl) rfl rfl (fun _ _ _ h => AOp.load1 rfl rfl (ltb rfl) rfl agg22 rfl rfl h) (by kernel_rfl) ?_
  refine AS.mid [6] [] [7, 4] [] rfl rfl rfl rfl (by kernel_rfl) (by kernel_rfl) rfl rfl (fun _ _ _ h => AOp.callNew rfl rfl (ltb rfl) rfl rfl (wn_floats a0.Min y2 q3) (AO.sink 5 7 rfl rfl rfl (.cons rfl (.cons rfl (.cons rfl (.cons rfl (.cons rfl (.cons (noO2_cond rfl rfl) (.cons (noO2_cond rfl rfl) .nil))))))) rfl h)) (by kernel_rfl) rfl ?_
  refine AS.op [1] [] [7] [4] rfl rfl rfl (by kernel_rfl) (by kernel_rfl) rfl rfl (fun _ _ _ h => AOp.fieldAddr rfl rfl (ltb rfl) rfl fo24_2 h) (by kernel_rfl) ?_
  refine AS.op [8] [] [7] [4] rfl rfl rfl (by kernel_rfl) (by kernel_rfl) rfl rfl (fun _ _ _ h => AOp.load1 rfl rfl (ltb rfl) rfl agg22 rfl rfl h) (by kernel_rfl) ?_
  refine AS.mid [9] [4] [7] [] rfl rfl rfl rfl (by kernel_rfl) (by kernel_rfl) rfl rfl (fun _ _ _ h => AOp.callNew rfl rfl (ltb rfl) rfl rfl (wn_floats a0.Max y4 q5) (AO.sink 6 7 rfl rfl rfl (.cons rfl (.cons rfl (.cons rfl (.cons rfl (.cons rfl (.cons (noO2_cond rfl rfl) (.cons (noO2_cond rfl rfl) .nil))))))) rfl h)) (by kernel_rfl) rfl ?_
  refine AS.done ?_
  refine AO.objs (obs' := [.fix 24 [.d (di .i64 a0.Layout), .d (eS0 a0.Min), .d (eS0 a0.Max)], .fix 24 [.d (di .i64 (0 : Int)), .d (.v (.slice none 0 0)), .d (.v (.slice none 0 0))], .fix 4 [.d (dbool false)], .frame fr1 [(1, .d (di .i64 a1)), (4, .ptr 1 0), (5, .ptr 2 0)], .fix 24 [.d (di .i64 a0.Layout), .d (eS0 a0.Min), .d (eS0 a0.Max)], .grow 40 1 (List.map keS0 y2), .grow 40 1 (List.map keS0 y4)]) rfl ?_
  refine AO.op rfl (AOp.inl [2] (by kernel_rfl) Try.func78 rfl Try.ntmps78 rfl rfl (ltb rfl) rfl (leb rfl) rfl ?_)
  intro fr6
  refine AC.seq ?_
  refine AC.region ?_
  refine AO.op rfl (AOp.assign rfl rfl (ltb rfl) rfl ?_)
  refine AO.nil ?_
  change AC _ _ _ _
  refine AC.seq ?_
  refine AC.region ?_
  refine AO.op rfl (AOp.move rfl rfl (ltb rfl) rfl ?_)
  refine AO.op rfl (AOp.move rfl rfl (ltb rfl) rfl ?_)
  refine AO.op rfl (AOp.move rfl rfl (ltb rfl) rfl ?_)
  refine AO.op rfl (AOp.build rfl rfl (ltb rfl) zero110 rfl places110 rfl rfl ?_)
  refine AO.op rfl (AOp.box rfl rfl (ltb rfl) rfl rfl ?_)
  refine AO.op rfl (AOp.assign rfl rfl (ltb rfl) rfl ?_)
  refine AO.nil ?_
  change AC _ _ _ _
  refine AC.ret ?_
  refine inlret (ob' := [.fix 24 [.d (di .i64 a0.Layout), .d (eS0 a0.Min), .d (eS0 a0.Max)], .fix 24 [.d (di .i64 (0 : Int)), .d (.v (.slice none 0 0)), .d (.v (.slice none 0 0))], .fix 4 [.d (dbool false)], .frame fr1 [(1, .d (di .i64 a1)), (4, .ptr 1 0), (5, .ptr 2 0)], .fix 24 [.d (di .i64 a0.Layout), .d (eS0 a0.Min), .d (eS0 a0.Max)], .grow 40 1 (List.map keS0 y2), .grow 40 1 (List.map keS0 y4), .dead, .fix 110 [.d (di .i64 a0.Layout), .own 5, .own 6]]) (e' := [(2, .d (.v (.pointer none)))]) (r := .ptr 8 0) rfl rfl rfl ?_
  change AO _ _ _ _ _
  refine AO.op rfl (AOp.assign rfl rfl (ltb rfl) rfl ?_)
  refine AO.nil ?_
  change AC _ _ _ _
  refine AC.ret ?_
  refine inlret (ob' := [.fix 24 [.d (di .i64 a0.Layout), .d (eS0 a0.Min), .d (eS0 a0.Max)], .fix 24 [.d (di .i64 (0 : Int)), .d (.v (.slice none 0 0)), .d (.v (.slice none 0 0))], .fix 4 [.d (dbool false)], .dead, .fix 24 [.d (di .i64 a0.Layout), .d (eS0 a0.Min), .d (eS0 a0.Max)], .grow 40 1 (List.map keS0 y2), .grow 40 1 (List.map keS0 y4), .dead, .fix 110 [.d (di .i64 a0.Layout), .own 5, .own 6]]) (e' := [(1, .d (di .i64 a1)), (4, .ptr 1 0), (5, .ptr 2 0)]) (r := .ptr 8 0) rfl rfl rfl ?_
  change AO _ _ _ _ _
  refine AO.op rfl (AOp.assign rfl rfl (ltb rfl) rfl ?_)
  refine AO.nil ?_
  change AC _ _ _ _
  refine AC.seq ?_
  refine AC.region ?_
  refine AO.op rfl (AOp.move rfl rfl (ltb rfl) rfl ?_)
  refine AO.op rfl (AOp.move rfl rfl (ltb rfl) rfl ?_)
  refine AO.op rfl (AOp.inl [4, 5, 6] (by kernel_rfl) Try.func56 rfl Try.ntmps56 rfl rfl (ltb rfl) rfl (leb rfl) rfl ?_)
  intro fr7
  refine AC.region ?_
  refine AO.op rfl (AOp.move rfl rfl (ltb rfl) rfl ?_)
  refine AO.op rfl (AOp.move rfl rfl (ltb rfl) rfl ?_)
  refine AO.op rfl (AOp.inl [] (by kernel_rfl) Try.func82 rfl Try.ntmps82 rfl rfl (ltb rfl) rfl (leb rfl) rfl ?_)
  intro fr8
  refine AC.block ?_
  refine AC.joinP (V := Bool) [0, 1] [4] 11 (fun g9 => [(4, .d (dbool g9))]) (fun g9 => [.fix 24 [.d (di .i64 a0.Layout), .d (eS0 a0.Min), .d (eS0 a0.Max)], .fix 24 [.d (di .i64 (0 : Int)), .d (.v (.slice none 0 0)), .d (.v (.slice none 0 0))], .fix 4 [.d (dbool false)], .dead, .fix 24 [.d (di .i64 a0.Layout), .d (eS0 a0.Min), .d (eS0 a0.Max)], .grow 40 1 (List.map keS0 y2), .grow 40 1 (List.map keS0 y4), .dead, .fix 110 [.d (di .i64 a0.Layout), .own 5, .own 6], .frame fr7 [(4, .ptr 1 0), (5, .ptr 2 0), (6, .ptr 8 0)], .frame fr8 []]) (fun g9 => (p_BoxExtendLayout_k1 a0 a1 F y2 y4) g9 = some r0) rfl ?_ ?_
  · refine AC.region ?_
    refine AO.op rfl (AOp.move rfl rfl (ltb rfl) rfl ?_)
    refine AO.op rfl (AOp.nilCheck rfl rfl (ltb rfl) rfl rfl ?_)
    refine AO.op rfl (AOp.fieldAddr rfl rfl (ltb rfl) rfl fo110_0 ?_)
    refine AO.op rfl (AOp.load1 rfl rfl (ltb rfl) rfl agg79 rfl rfl ?_)
    refine AO.op rfl (AOp.ieql rfl rfl (ltb rfl) rfl rfl ?_)
    refine AO.op rfl (AOp.move rfl rfl (ltb rfl) rfl ?_)
    refine AO.dec (decide (a0.Layout = (2 : Int))) (fun q79 => ?_) (fun q79 => ?_)
    · replace h0 := cT h0 q79
      refine AO.guardY rfl rfl rfl q79 (AOp.move rfl rfl (ltb rfl) rfl ?_)
      refine AO.guardY rfl rfl rfl q79 (AOp.ieql rfl rfl (ltb rfl) rfl rfl ?_)
      refine AO.op rfl (AOp.pick rfl rfl (ltb rfl) rfl q79 rfl ?_)
      refine AO.op rfl (AOp.assign rfl rfl (ltb rfl) rfl ?_)
      refine AO.nil ?_
      exact ⟨(decide (a1 = (3 : Int))), _, rfl, (LeL.refl _), rfl, rfl, h0⟩
    replace h0 := cF h0 q79
    refine AO.guardN rfl rfl rfl (ltb rfl) rfl q79 ?_
    refine AO.guardN rfl rfl rfl (ltb rfl) rfl q79 ?_
    refine AO.op rfl (AOp.pickN rfl rfl (ltb rfl) rfl q79 rfl ?_)
    refine AO.op rfl (AOp.assign rfl rfl (ltb rfl) rfl ?_)
    refine AO.nil ?_
    exact ⟨false, _, rfl, (LeL.refl _), rfl, rfl, h0⟩
  intro g9 h0
  unfold p_BoxExtendLayout_k1 at h0
  refine AC.cond rfl (fun q10 => ?_) (fun q10 => ?_)
  · replace h0 := cT h0 q10
    refine AC.seq ?_
    obtain ⟨y11, q12, h0⟩ := bind_elim h0
    obtain ⟨q13, h0⟩ := need_elim h0
    refine AC.drawS [0, 1, 2, 3, 4, 5, 6, 7] [7] [8, 9, 10] (fun L => [.fix 24 [.d (di .i64 a0.Layout), .d (eS0 a0.Min), .d (eS0 a0.Max)], .fix 24 [.d (di .i64 (0 : Int)), .d (.v (.slice none 0 0)), .d (.v (.slice none 0 0))], .fix 4 [.d (dbool false)], .dead, .fix 24 [.d (di .i64 a0.Layout), .d (eS0 a0.Min), .d (eS0 a0.Max)], bif L 7 then .grow 40 1 (List.map keS0 (y2 ++ [y11])) else .grow 40 1 (List.map keS0 y2), .grow 40 1 (List.map keS0 y4), .dead, bif L 7 then .fix 110 [.d (di .i64 a0.Layout), .any, .own 6] else .fix 110 [.d (di .i64 a0.Layout), .own 5, .own 6], .frame fr7 [(4, .ptr 1 0), (5, .ptr 2 0), (6, .ptr 8 0)], .frame fr8 []]) [(7, SV.noO 5)] mixed (by kernel_rfl) (fun L L' h => by simp only [h 7 (by decide), h 7 (by decide)]) rfl ?_
    refine AS.op [0] [] [] [7] rfl rfl rfl (by kernel_rfl) (by kernel_rfl) rfl rfl (fun _ _ _ h => AOp.move rfl rfl (ltb rfl) rfl h) (by kernel_rfl) ?_
    refine AS.op [0] [] [7] [] rfl rfl rfl (by kernel_rfl) (by kernel_rfl) rfl rfl (fun _ _ _ h => AOp.move rfl rfl (ltb rfl) rfl h) (by kernel_rfl) ?_
    refine AS.op [15] [] [7] [] rfl rfl rfl (by kernel_rfl) (by kernel_rfl) rfl rfl (fun _ _ _ h => AOp.nilCheck rfl rfl (ltb rfl) rfl rfl h) (by kernel_rfl) ?_
    refine AS.op [16] [] [7] [] rfl rfl rfl (by kernel_rfl) (by kernel_rfl) rfl rfl (fun _ _ _ h => AOp.fieldAddr rfl rfl (ltb rfl) rfl fo110_1 h) (by kernel_rfl) ?_
    refine AS.op [17] [] [7] [] rfl rfl rfl (by kernel_rfl) (by kernel_rfl) rfl rfl (fun _ _ _ h => AOp.load1 rfl rfl (ltb rfl) rfl agg80 rfl rfl h) (by kernel_rfl) ?_
    refine AS.op [] [] [7] [] rfl rfl rfl (by kernel_rfl) (by kernel_rfl) rfl rfl (fun _ _ _ h => AOp.callD rfl rfl (ltb rfl) rfl rfl (w_Inf (1 : Int) y11 q12) (by rintro _ rfl; exact h)) (by kernel_rfl) ?_
    refine AS.op [19] [] [7] [] rfl rfl rfl (by kernel_rfl) (by kernel_rfl) rfl rfl (fun _ _ _ h => AOp.buildSliceD rfl rfl (ltb rfl) el80 zero40 rfl (leb rfl) rfl rfl rfl rfl h) (by kernel_rfl) ?_
    refine AS.mid [18, 20] [] [7] [] rfl rfl rfl rfl (by kernel_rfl) (by kernel_rfl) rfl rfl (fun _ _ _ h => AOp.subO 8 rfl (.cons (SVLe.refl _) (.cons (SVLe.any _) (.cons (SVLe.refl _) .nil))) (AOp.appendOwn' (n := y2.length) (m := [y11].length) (news := (List.map keS0 [y11])) rfl rfl (ltb rfl) rfl rfl el80 info40 rfl (by decide) rfl (len1 _ _) (len1 _ _) (one1 _ (fun _ => rfl) _) q13 (by decide) (allNo (.cons rfl (.cons rfl (.cons rfl (.cons rfl (.cons rfl (.cons rfl (.cons rfl (.cons rfl (.cons rfl (.cons rfl (.cons rfl .nil)))))))))))) rfl (cat1 _ _ _) (AO.dropped h))) (by kernel_rfl) rfl ?_
    refine AS.done ?_
    refine AO.objs (obs' := [.fix 24 [.d (di .i64 a0.Layout), .d (eS0 a0.Min), .d (eS0 a0.Max)], .fix 24 [.d (di .i64 (0 : Int)), .d (.v (.slice none 0 0)), .d (.v (.slice none 0 0))], .fix 4 [.d (dbool false)], .dead, .fix 24 [.d (di .i64 a0.Layout), .d (eS0 a0.Min), .d (eS0 a0.Max)], .grow 40 1 (List.map keS0 (y2 ++ [y11])), .grow 40 1 (List.map keS0 y4), .dead, .fix 110 [.d (di .i64 a0.Layout), .any, .own 6], .frame fr7 [(4, .ptr 1 0), (5, .ptr 2 0), (6, .ptr 8 0)], .frame fr8 []]) rfl ?_
    refine AO.op rfl (AOp.nilCheck rfl rfl (ltb rfl) rfl rfl ?_)
    refine AO.op rfl (AOp.fieldAddr rfl rfl (ltb rfl) rfl fo110_1 ?_)
    refine AO.op rfl (AOp.storeOwn rfl rfl rfl rfl rfl rfl size80 rfl rfl (leb rfl) ?_)
    refine AO.nil ?_
    change AC _ _ _ _
    refine AC.seq ?_
    obtain ⟨y14, q15, h0⟩ := bind_elim h0
    obtain ⟨q16, h0⟩ := need_elim h0
    refine AC.drawS [0, 1, 2, 3, 4, 5, 6, 7] [7] [8, 9, 10] (fun L => [.fix 24 [.d (di .i64 a0.Layout), .d (eS0 a0.Min), .d (eS0 a0.Max)], .fix 24 [.d (di .i64 (0 : Int)), .d (.v (.slice none 0 0)), .d (.v (.slice none 0 0))], .fix 4 [.d (dbool false)], .dead, .fix 24 [.d (di .i64 a0.Layout), .d (eS0 a0.Min), .d (eS0 a0.Max)], .grow 40 1 (List.map keS0 (y2 ++ [y11])), bif L 7 then .grow 40 1 (List.map keS0 (y4 ++ [y14])) else .grow 40 1 (List.map keS0 y4), .dead, bif L 7 then .fix 110 [.d (di .i64 a0.Layout), .own 5, .any] else .fix 110 [.d (di .i64 a0.Layout), .own 5, .own 6], .frame fr7 [(4, .ptr 1 0), (5, .ptr 2 0), (6, .ptr 8 0)], .frame fr8 []]) [(7, SV.noO 6)] mixed (by kernel_rfl) (fun L L' h => by simp only [h 7 (by decide), h 7 (by decide)]) rfl ?_
    refine AS.op [0] [] [] [7] rfl rfl rfl (by kernel_rfl) (by kernel_rfl) rfl rfl (fun _ _ _ h => AOp.move rfl rfl (ltb rfl) rfl h) (by kernel_rfl) ?_
    refine AS.op [0] [] [7] [] rfl rfl rfl (by kernel_rfl) (by kernel_rfl) rfl rfl (fun _ _ _ h => AOp.move rfl rfl (ltb rfl) rfl h) (by kernel_rfl) ?_
    refine AS.op [25] [] [7] [] rfl rfl rfl (by kernel_rfl) (by kernel_rfl) rfl rfl (fun _ _ _ h => AOp.nilCheck rfl rfl (ltb rfl) rfl rfl h) (by kernel_rfl) ?_
    refine AS.op [26] [] [7] [] rfl rfl rfl (by kernel_rfl) (by kernel_rfl) rfl rfl (fun _ _ _ h => AOp.fieldAddr rfl rfl (ltb rfl) rfl fo110_2 h) (by kernel_rfl) ?_
    refine AS.op [27] [] [7] [] rfl rfl rfl (by kernel_rfl) (by kernel_rfl) rfl rfl (fun _ _ _ h => AOp.load1 rfl rfl (ltb rfl) rfl agg80 rfl rfl h) (by kernel_rfl) ?_
    refine AS.op [] [] [7] [] rfl rfl rfl (by kernel_rfl) (by kernel_rfl) rfl rfl (fun _ _ _ h => AOp.callD rfl rfl (ltb rfl) rfl rfl (w_Inf (-1 : Int) y14 q15) (by rintro _ rfl; exact h)) (by kernel_rfl) ?_
    refine AS.op [29] [] [7] [] rfl rfl rfl (by kernel_rfl) (by kernel_rfl) rfl rfl (fun _ _ _ h => AOp.buildSliceD rfl rfl (ltb rfl) el80 zero40 rfl (leb rfl) rfl rfl rfl rfl h) (by kernel_rfl) ?_
    refine AS.mid [28, 30] [] [7] [] rfl rfl rfl rfl (by kernel_rfl) (by kernel_rfl) rfl rfl (fun _ _ _ h => AOp.subO 8 rfl (.cons (SVLe.refl _) (.cons (SVLe.refl _) (.cons (SVLe.any _) .nil))) (AOp.appendOwn' (n := y4.length) (m := [y14].length) (news := (List.map keS0 [y14])) rfl rfl (ltb rfl) rfl rfl el80 info40 rfl (by decide) rfl (len1 _ _) (len1 _ _) (one1 _ (fun _ => rfl) _) q16 (by decide) (allNo (.cons rfl (.cons rfl (.cons rfl (.cons rfl (.cons rfl (.cons rfl (.cons rfl (.cons rfl (.cons rfl (.cons rfl (.cons rfl .nil)))))))))))) rfl (cat1 _ _ _) (AO.dropped h))) (by kernel_rfl) rfl ?_
    refine AS.done ?_
    refine AO.objs (obs' := [.fix 24 [.d (di .i64 a0.Layout), .d (eS0 a0.Min), .d (eS0 a0.Max)], .fix 24 [.d (di .i64 (0 : Int)), .d (.v (.slice none 0 0)), .d (.v (.slice none 0 0))], .fix 4 [.d (dbool false)], .dead, .fix 24 [.d (di .i64 a0.Layout), .d (eS0 a0.Min), .d (eS0 a0.Max)], .grow 40 1 (List.map keS0 (y2 ++ [y11])), .grow 40 1 (List.map keS0 (y4 ++ [y14])), .dead, .fix 110 [.d (di .i64 a0.Layout), .own 5, .any], .frame fr7 [(4, .ptr 1 0), (5, .ptr 2 0), (6, .ptr 8 0)], .frame fr8 []]) rfl ?_
    refine AO.op rfl (AOp.nilCheck rfl rfl (ltb rfl) rfl rfl ?_)
    refine AO.op rfl (AOp.fieldAddr rfl rfl (ltb rfl) rfl fo110_2 ?_)
    refine AO.op rfl (AOp.storeOwn rfl rfl rfl rfl rfl rfl size80 rfl rfl (leb rfl) ?_)
    refine AO.nil ?_
    change AC _ _ _ _
    refine AC.region ?_
    refine AO.op rfl (AOp.move rfl rfl (ltb rfl) rfl ?_)
    refine AO.op rfl (AOp.nilCheck rfl rfl (ltb rfl) rfl rfl ?_)
    refine AO.op rfl (AOp.fieldAddr rfl rfl (ltb rfl) rfl fo110_0 ?_)
    refine AO.op rfl (AOp.store rfl rfl rfl rfl size79 rfl rfl rfl (leb rfl) ?_)
    refine AO.nil ?_
    refine inlend (ob' := [.fix 24 [.d (di .i64 a0.Layout), .d (eS0 a0.Min), .d (eS0 a0.Max)], .fix 24 [.d (di .i64 (0 : Int)), .d (.v (.slice none 0 0)), .d (.v (.slice none 0 0))], .fix 4 [.d (dbool false)], .dead, .fix 24 [.d (di .i64 a0.Layout), .d (eS0 a0.Min), .d (eS0 a0.Max)], .grow 40 1 (List.map keS0 (y2 ++ [y11])), .grow 40 1 (List.map keS0 (y4 ++ [y14])), .dead, .fix 110 [.d (di .i64 (4 : Int)), .own 5, .own 6], .frame fr7 [(4, .ptr 1 0), (5, .ptr 2 0), (6, .ptr 8 0)], .dead]) (e' := []) (r := .tu []) rfl rfl rfl ?_
    change AO _ _ _ _ _
    refine AO.nil ?_
    refine inlend (ob' := [.fix 24 [.d (di .i64 a0.Layout), .d (eS0 a0.Min), .d (eS0 a0.Max)], .fix 24 [.d (di .i64 (0 : Int)), .d (.v (.slice none 0 0)), .d (.v (.slice none 0 0))], .fix 4 [.d (dbool false)], .dead, .fix 24 [.d (di .i64 a0.Layout), .d (eS0 a0.Min), .d (eS0 a0.Max)], .grow 40 1 (List.map keS0 (y2 ++ [y11])), .grow 40 1 (List.map keS0 (y4 ++ [y14])), .dead, .fix 110 [.d (di .i64 (4 : Int)), .own 5, .own 6], .dead, .dead]) (e' := [(4, .ptr 1 0), (5, .ptr 2 0), (6, .ptr 8 0)]) (r := .tu []) rfl rfl rfl ?_
    change AO _ _ _ _ _
    refine AO.nil ?_
    change AC _ _ _ _
    refine AC.seq ?_
    refine AC.region ?_
    refine AO.op rfl (AOp.move rfl rfl (ltb rfl) rfl ?_)
    refine AO.op rfl (AOp.inl [4, 5] (by kernel_rfl) Try.func52 rfl Try.ntmps52 rfl rfl (ltb rfl) rfl (leb rfl) rfl ?_)
    intro fr17
    refine AC.seq ?_
    refine AC.region ?_
    refine AO.op rfl (AOp.alloc rfl rfl (ltb rfl) zero24 rfl ?_)
    refine AO.nil ?_
    change AC _ _ _ _
    refine AC.seq ?_
    refine AC.region ?_
    refine AO.op rfl (AOp.move rfl rfl (ltb rfl) rfl ?_)
    refine AO.op rfl (AOp.inl [2] (by kernel_rfl) Try.func80 rfl Try.ntmps80 rfl rfl (ltb rfl) rfl (leb rfl) rfl ?_)
    intro fr18
    refine AC.seq ?_
    refine AC.region ?_
    refine AO.op rfl (AOp.assign rfl rfl (ltb rfl) rfl ?_)
    refine AO.op rfl (AOp.assign rfl rfl (ltb rfl) rfl ?_)
    refine AO.op rfl (AOp.assign rfl rfl (ltb rfl) rfl ?_)
    refine AO.nil ?_
    change AC _ _ _ _
    refine AC.seq ?_
    refine AC.draw 15 mixed (by kernel_rfl) ?_
    refine AD.op [0] rfl (by kernel_rfl) rfl rfl (fun _ _ h => AOp.move rfl rfl (ltb rfl) rfl h) ?_
    refine AD.op [5] rfl (by kernel_rfl) rfl rfl (fun _ _ h => AOp.nilCheck rfl rfl (ltb rfl) rfl rfl h) ?_
    refine AD.op [6] rfl (by kernel_rfl) rfl rfl (fun _ _ h => AOp.fieldAddr rfl rfl (ltb rfl) rfl fo110_0 h) ?_
    refine AD.op [7] rfl (by kernel_rfl) rfl rfl (fun _ _ h => AOp.load1 rfl rfl (ltb rfl) rfl agg79 rfl rfl h) ?_
    refine AD.op [0] rfl (by kernel_rfl) rfl rfl (fun _ _ h => AOp.move rfl rfl (ltb rfl) rfl h) ?_
    refine AD.op [9] rfl (by kernel_rfl) rfl rfl (fun _ _ h => AOp.nilCheck rfl rfl (ltb rfl) rfl rfl h) ?_
    refine AD.op [10] rfl (by kernel_rfl) rfl rfl (fun _ _ h => AOp.fieldAddr rfl rfl (ltb rfl) rfl fo110_1 h) ?_
    refine AD.op [11] rfl (by kernel_rfl) rfl rfl (fun _ _ h => AOp.load1 rfl rfl (ltb rfl) rfl agg80 rfl rfl h) ?_
    refine AD.op [0] rfl (by kernel_rfl) rfl rfl (fun _ _ h => AOp.move rfl rfl (ltb rfl) rfl h) ?_
    refine AD.op [13] rfl (by kernel_rfl) rfl rfl (fun _ _ h => AOp.nilCheck rfl rfl (ltb rfl) rfl rfl h) ?_
    refine AD.op [14] rfl (by kernel_rfl) rfl rfl (fun _ _ h => AOp.fieldAddr rfl rfl (ltb rfl) rfl fo110_2 h) ?_
    refine AD.op [15] rfl (by kernel_rfl) rfl rfl (fun _ _ h => AOp.load1 rfl rfl (ltb rfl) rfl agg80 rfl rfl h) ?_
    refine AD.op [8] rfl (by kernel_rfl) rfl rfl (fun _ _ h => AOp.assign rfl rfl (ltb rfl) rfl h) ?_
    refine AD.op [12] rfl (by kernel_rfl) rfl rfl (fun _ _ h => AOp.assign rfl rfl (ltb rfl) rfl h) ?_
    refine AD.op [16] rfl (by kernel_rfl) rfl rfl (fun _ _ h => AOp.assign rfl rfl (ltb rfl) rfl h) ?_
    refine AD.done ?_
    refine AO.nil ?_
    change AC _ _ _ _
    refine AC.ret ?_
    refine inlret (ob' := [.fix 24 [.d (di .i64 a0.Layout), .d (eS0 a0.Min), .d (eS0 a0.Max)], .fix 24 [.d (di .i64 (0 : Int)), .d (.v (.slice none 0 0)), .d (.v (.slice none 0 0))], .fix 4 [.d (dbool false)], .dead, .fix 24 [.d (di .i64 a0.Layout), .d (eS0 a0.Min), .d (eS0 a0.Max)], .grow 40 1 (List.map keS0 (y2 ++ [y11])), .grow 40 1 (List.map keS0 (y4 ++ [y14])), .dead, .fix 110 [.d (di .i64 (4 : Int)), .own 5, .own 6], .dead, .dead, .frame fr17 [(4, .ptr 1 0), (5, .ptr 2 0)], .fix 24 [.d (di .i64 (0 : Int)), .d (.v (.slice none 0 0)), .d (.v (.slice none 0 0))], .dead]) (e' := [(2, .ptr 12 0)]) (r := .tu [.d (di .i64 (4 : Int)), .own 5, .own 6]) rfl rfl rfl ?_
    change AO _ _ _ _ _
    refine AO.op rfl (AOp.move rfl rfl (ltb rfl) rfl ?_)
    first | refine AO.op rfl (AOp.extractD rfl rfl (ltb rfl) rfl rfl ?_) | refine AO.op rfl (AOp.extract rfl rfl (ltb rfl) rfl rfl ?_)
    first | refine AO.op rfl (AOp.extractD rfl rfl (ltb rfl) rfl rfl ?_) | refine AO.op rfl (AOp.extract rfl rfl (ltb rfl) rfl rfl ?_)
    first | refine AO.op rfl (AOp.extractD rfl rfl (ltb rfl) rfl rfl ?_) | refine AO.op rfl (AOp.extract rfl rfl (ltb rfl) rfl rfl ?_)
    refine AO.op rfl (AOp.assign rfl rfl (ltb rfl) rfl ?_)
    refine AO.op rfl (AOp.assign rfl rfl (ltb rfl) rfl ?_)
    refine AO.op rfl (AOp.assign rfl rfl (ltb rfl) rfl ?_)
    refine AO.nil ?_
    change AC _ _ _ _
    refine AC.seq ?_
    refine AC.region ?_
    refine AO.op rfl (AOp.move rfl rfl (ltb rfl) rfl ?_)
    refine AO.op rfl (AOp.move rfl rfl (ltb rfl) rfl ?_)
    refine AO.subO 8 rfl (.cons (SVLe.refl _) (.cons (SVLe.any _) (.cons (SVLe.refl _) .nil))) ?_
    refine AO.freezeG 5 rfl rfl rfl ?_
    obtain ⟨y19, q20, h0⟩ := bind_elim h0
    refine AO.op rfl (AOp.callD rfl rfl (ltb rfl) rfl rfl (w_floats (y2 ++ [y11]) y19 q20) ?_)
    rintro _ rfl
    refine AO.op rfl (AOp.move rfl rfl (ltb rfl) rfl ?_)
    refine AO.subO 8 rfl (.cons (SVLe.refl _) (.cons (SVLe.refl _) (.cons (SVLe.any _) .nil))) ?_
    refine AO.freezeG 6 rfl rfl rfl ?_
    obtain ⟨y21, q22, h0⟩ := bind_elim h0
    refine AO.op rfl (AOp.callD rfl rfl (ltb rfl) rfl rfl (w_floats (y4 ++ [y14]) y21 q22) ?_)
    rintro _ rfl
    refine AO.op rfl (AOp.build rfl rfl (ltb rfl) zero24 rfl places24 rfl rfl ?_)
    refine AO.op rfl (AOp.store rfl rfl rfl rfl size24 rfl rfl rfl (leb rfl) ?_)
    refine AO.nil ?_
    change AC _ _ _ _
    refine AC.ret ?_
    refine inlret (ob' := [.fix 24 [.d (di .i64 a0.Layout), .d (eS0 a0.Min), .d (eS0 a0.Max)], .fix 24 [.d (di .i64 (0 : Int)), .d (.v (.slice none 0 0)), .d (.v (.slice none 0 0))], .fix 4 [.d (dbool false)], .dead, .fix 24 [.d (di .i64 a0.Layout), .d (eS0 a0.Min), .d (eS0 a0.Max)], .dead, .dead, .dead, .fix 110 [.d (di .i64 (4 : Int)), .any, .any], .dead, .dead, .dead, .fix 24 [.d (di .i64 (4 : Int)), .d (eS0 y19), .d (eS0 y21)], .dead]) (e' := [(4, .ptr 1 0), (5, .ptr 2 0)]) (r := .ag [.d (di .i64 (4 : Int)), .d (eS0 y19), .d (eS0 y21)]) rfl rfl rfl ?_
    change AO _ _ _ _ _
    refine AO.op rfl (AOp.store rfl rfl rfl rfl size24 rfl rfl rfl (leb rfl) ?_)
    refine AO.op rfl (AOp.store rfl rfl rfl rfl size4 rfl rfl rfl (leb rfl) ?_)
    refine AO.nil ?_
    change AC _ _ _ _
    refine AC.ret ?_
    change RetQ _ _ _ .ret _
    obtain rfl := Option.some.inj h0
    refine retq rfl rfl
  replace h0 := cF h0 q10
  refine AC.joinP (V := Bool) [0, 1] [37] 11 (fun g23 => [(37, .d (dbool g23))]) (fun g23 => [.fix 24 [.d (di .i64 a0.Layout), .d (eS0 a0.Min), .d (eS0 a0.Max)], .fix 24 [.d (di .i64 (0 : Int)), .d (.v (.slice none 0 0)), .d (.v (.slice none 0 0))], .fix 4 [.d (dbool false)], .dead, .fix 24 [.d (di .i64 a0.Layout), .d (eS0 a0.Min), .d (eS0 a0.Max)], .grow 40 1 (List.map keS0 y2), .grow 40 1 (List.map keS0 y4), .dead, .fix 110 [.d (di .i64 a0.Layout), .own 5, .own 6], .frame fr7 [(4, .ptr 1 0), (5, .ptr 2 0), (6, .ptr 8 0)], .frame fr8 []]) (fun g23 => (p_BoxExtendLayout_k2 a0 a1 F y2 y4) g23 = some r0) rfl ?_ ?_
  · refine AC.region ?_
    refine AO.op rfl (AOp.move rfl rfl (ltb rfl) rfl ?_)
    refine AO.op rfl (AOp.nilCheck rfl rfl (ltb rfl) rfl rfl ?_)
    refine AO.op rfl (AOp.fieldAddr rfl rfl (ltb rfl) rfl fo110_0 ?_)
    refine AO.op rfl (AOp.load1 rfl rfl (ltb rfl) rfl agg79 rfl rfl ?_)
    refine AO.op rfl (AOp.ieql rfl rfl (ltb rfl) rfl rfl ?_)
    refine AO.op rfl (AOp.move rfl rfl (ltb rfl) rfl ?_)
    refine AO.dec (decide (a0.Layout = (3 : Int))) (fun q77 => ?_) (fun q77 => ?_)
    · replace h0 := cT h0 q77
      refine AO.guardY rfl rfl rfl q77 (AOp.move rfl rfl (ltb rfl) rfl ?_)
      refine AO.guardY rfl rfl rfl q77 (AOp.ieql rfl rfl (ltb rfl) rfl rfl ?_)
      refine AO.guardY rfl rfl rfl q77 (AOp.move rfl rfl (ltb rfl) rfl ?_)
      refine AO.dec (decide (a1 = (2 : Int))) (fun q78 => ?_) (fun q78 => ?_)
      · replace h0 := cT h0 q78
        refine AO.guardN rfl rfl rfl (ltb rfl) rfl q78 ?_
        refine AO.guardN rfl rfl rfl (ltb rfl) rfl q78 ?_
        refine AO.guardY rfl rfl rfl q77 (AOp.pick rfl rfl (ltb rfl) rfl q78 rfl ?_)
        refine AO.op rfl (AOp.pick rfl rfl (ltb rfl) rfl q77 rfl ?_)
        refine AO.op rfl (AOp.assign rfl rfl (ltb rfl) rfl ?_)
        refine AO.nil ?_
        exact ⟨true, _, rfl, (LeL.refl _), rfl, rfl, h0⟩
      replace h0 := cF h0 q78
      refine AO.guardY rfl rfl rfl q78 (AOp.move rfl rfl (ltb rfl) rfl ?_)
      refine AO.guardY rfl rfl rfl q78 (AOp.ieql rfl rfl (ltb rfl) rfl rfl ?_)
      refine AO.guardY rfl rfl rfl q77 (AOp.pickN rfl rfl (ltb rfl) rfl q78 rfl ?_)
      refine AO.op rfl (AOp.pick rfl rfl (ltb rfl) rfl q77 rfl ?_)
      refine AO.op rfl (AOp.assign rfl rfl (ltb rfl) rfl ?_)
      refine AO.nil ?_
      exact ⟨(decide (a1 = (4 : Int))), _, rfl, (LeL.refl _), rfl, rfl, h0⟩
    replace h0 := cF h0 q77
    refine AO.guardN rfl rfl rfl (ltb rfl) rfl q77 ?_
    refine AO.guardN rfl rfl rfl (ltb rfl) rfl q77 ?_
    refine AO.guardN rfl rfl rfl (ltb rfl) rfl q77 ?_
    refine AO.guardU rfl rfl rfl (ltb rfl) rfl ?_
    refine AO.guardU rfl rfl rfl (ltb rfl) rfl ?_
    refine AO.guardN rfl rfl rfl (ltb rfl) rfl q77 ?_
    refine AO.op rfl (AOp.pickN rfl rfl (ltb rfl) rfl q77 rfl ?_)
    refine AO.op rfl (AOp.assign rfl rfl (ltb rfl) rfl ?_)
    refine AO.nil ?_
    exact ⟨false, _, rfl, (LeL.refl _), rfl, rfl, h0⟩
  intro g23 h0
  unfold p_BoxExtendLayout_k2 at h0
  refine AC.cond rfl (fun q24 => ?_) (fun q24 => ?_)
  · replace h0 := cT h0 q24
    refine AC.seq ?_
    obtain ⟨q25, h0⟩ := need_elim h0
    obtain ⟨y26, q27, h0⟩ := bind_elim h0
    obtain ⟨q28, h0⟩ := need_elim h0
    obtain ⟨x29, q30, h0⟩ := idx_elim h0
    obtain ⟨q31, h0⟩ := need_elim h0
    refine AC.drawS [0, 1, 2, 3, 4, 5, 6, 7, 8, 9, 10, 11, 12, 13, 14] [14] [15, 16, 17] (fun L => [.fix 24 [.d (di .i64 a0.Layout), .d (eS0 a0.Min), .d (eS0 a0.Max)], .fix 24 [.d (di .i64 (0 : Int)), .d (.v (.slice none 0 0)), .d (.v (.slice none 0 0))], .fix 4 [.d (dbool false)], .dead, .fix 24 [.d (di .i64 a0.Layout), .d (eS0 a0.Min), .d (eS0 a0.Max)], bif L 14 then .grow 40 1 (List.map keS0 (y2.take (((2 : Int)).toNat) ++ [y26, x29])) else .grow 40 1 (List.map keS0 y2), .grow 40 1 (List.map keS0 y4), .dead, bif L 14 then .fix 110 [.d (di .i64 a0.Layout), .any, .own 6] else .fix 110 [.d (di .i64 a0.Layout), .own 5, .own 6], .frame fr7 [(4, .ptr 1 0), (5, .ptr 2 0), (6, .ptr 8 0)], .frame fr8 []]) [(14, SV.noO 5)] mixed (by kernel_rfl) (fun L L' h => by simp only [h 14 (by decide), h 14 (by decide)]) rfl ?_
    refine AS.op [0] [] [] [14] rfl rfl rfl (by kernel_rfl) (by kernel_rfl) rfl rfl (fun _ _ _ h => AOp.move rfl rfl (ltb rfl) rfl h) (by kernel_rfl) ?_
    refine AS.op [0] [] [14] [] rfl rfl rfl (by kernel_rfl) (by kernel_rfl) rfl rfl (fun _ _ _ h => AOp.move rfl rfl (ltb rfl) rfl h) (by kernel_rfl) ?_
    refine AS.op [52] [] [14] [] rfl rfl rfl (by kernel_rfl) (by kernel_rfl) rfl rfl (fun _ _ _ h => AOp.nilCheck rfl rfl (ltb rfl) rfl rfl h) (by kernel_rfl) ?_
    refine AS.op [53] [] [14] [] rfl rfl rfl (by kernel_rfl) (by kernel_rfl) rfl rfl (fun _ _ _ h => AOp.fieldAddr rfl rfl (ltb rfl) rfl fo110_1 h) (by kernel_rfl) ?_
    refine AS.op [54] [] [14] [] rfl rfl rfl (by kernel_rfl) (by kernel_rfl) rfl rfl (fun _ _ _ h => AOp.load1 rfl rfl (ltb rfl) rfl agg80 rfl rfl h) (by kernel_rfl) ?_
    refine AS.op [55] [] [14] [] rfl rfl rfl (by kernel_rfl) (by kernel_rfl) rfl rfl (fun _ _ _ h => AOp.slicePre (n := y2.length) rfl rfl (ltb rfl) rfl rfl el80 rfl (by decide) (len1 _ _) q25.1 rfl q25.2 h) (by kernel_rfl) ?_
    refine AS.op [] [] [14] [] rfl rfl rfl (by kernel_rfl) (by kernel_rfl) rfl rfl (fun _ _ _ h => AOp.callD rfl rfl (ltb rfl) rfl rfl (w_Inf (1 : Int) y26 q27) (by rintro _ rfl; exact h)) (by kernel_rfl) ?_
    refine AS.op [0] [] [14] [] rfl rfl rfl (by kernel_rfl) (by kernel_rfl) rfl rfl (fun _ _ _ h => AOp.move rfl rfl (ltb rfl) rfl h) (by kernel_rfl) ?_
    refine AS.op [58] [] [14] [] rfl rfl rfl (by kernel_rfl) (by kernel_rfl) rfl rfl (fun _ _ _ h => AOp.nilCheck rfl rfl (ltb rfl) rfl rfl h) (by kernel_rfl) ?_
    refine AS.op [59] [] [14] [] rfl rfl rfl (by kernel_rfl) (by kernel_rfl) rfl rfl (fun _ _ _ h => AOp.fieldAddr rfl rfl (ltb rfl) rfl fo110_1 h) (by kernel_rfl) ?_
    refine AS.op [60] [] [14] [] rfl rfl rfl (by kernel_rfl) (by kernel_rfl) rfl rfl (fun _ _ _ h => AOp.load1 rfl rfl (ltb rfl) rfl agg80 rfl rfl h) (by kernel_rfl) ?_
    refine AS.op [61] [] [14] [] rfl rfl rfl (by kernel_rfl) (by kernel_rfl) rfl rfl (fun _ _ _ h => AOp.indexOwn (cells := (List.map keS0 y2)) (n := y2.length) rfl rfl (ltb rfl) rfl rfl el80 rfl (by decide) (len1 _ _) q28.1 q28.2 h) (by kernel_rfl) ?_
    refine AS.op [62] [] [14] [] rfl rfl rfl (by kernel_rfl) (by kernel_rfl) rfl rfl (fun _ _ _ h => AOp.loadO1 rfl rfl (ltb rfl) rfl agg40 rfl (at1 q30.2) h) (by kernel_rfl) ?_
    refine AS.op [57, 63] [] [14] [] rfl rfl rfl (by kernel_rfl) (by kernel_rfl) rfl rfl (fun _ _ _ h => AOp.buildSliceD rfl rfl (ltb rfl) el80 zero40 rfl (leb rfl) rfl rfl rfl rfl h) (by kernel_rfl) ?_
    refine AS.mid [56, 64] [] [14] [] rfl rfl rfl rfl (by kernel_rfl) (by kernel_rfl) rfl rfl (fun _ _ _ h => AOp.subO 8 rfl (.cons (SVLe.refl _) (.cons (SVLe.any _) (.cons (SVLe.refl _) .nil))) (AOp.appendOwnP (n := y2.length) (m := [y26, x29].length) (k := ((2 : Int)).toNat) (cells := (List.map keS0 y2)) (news := (List.map keS0 [y26, x29])) rfl rfl (ltb rfl) rfl rfl el80 info40 rfl (by decide) rfl (len1 _ _) q31.1 (len1 _ _) (one1 _ (fun _ => rfl) _) q31.2 (by decide) (allNo (.cons rfl (.cons rfl (.cons rfl (.cons rfl (.cons rfl (.cons rfl (.cons rfl (.cons rfl (.cons rfl (.cons rfl (.cons rfl .nil)))))))))))) rfl (cat1t _ _ _ _) (AO.dropped h))) (by kernel_rfl) rfl ?_
    refine AS.done ?_
    refine AO.objs (obs' := [.fix 24 [.d (di .i64 a0.Layout), .d (eS0 a0.Min), .d (eS0 a0.Max)], .fix 24 [.d (di .i64 (0 : Int)), .d (.v (.slice none 0 0)), .d (.v (.slice none 0 0))], .fix 4 [.d (dbool false)], .dead, .fix 24 [.d (di .i64 a0.Layout), .d (eS0 a0.Min), .d (eS0 a0.Max)], .grow 40 1 (List.map keS0 (y2.take (((2 : Int)).toNat) ++ [y26, x29])), .grow 40 1 (List.map keS0 y4), .dead, .fix 110 [.d (di .i64 a0.Layout), .any, .own 6], .frame fr7 [(4, .ptr 1 0), (5, .ptr 2 0), (6, .ptr 8 0)], .frame fr8 []]) rfl ?_
    refine AO.op rfl (AOp.nilCheck rfl rfl (ltb rfl) rfl rfl ?_)
    refine AO.op rfl (AOp.fieldAddr rfl rfl (ltb rfl) rfl fo110_1 ?_)
    refine AO.op rfl (AOp.storeOwn rfl rfl rfl rfl rfl rfl size80 rfl rfl (leb rfl) ?_)
    refine AO.nil ?_
    change AC _ _ _ _
    refine AC.seq ?_
    obtain ⟨q32, h0⟩ := need_elim h0
    obtain ⟨y33, q34, h0⟩ := bind_elim h0
    obtain ⟨q35, h0⟩ := need_elim h0
    obtain ⟨x36, q37, h0⟩ := idx_elim h0
    obtain ⟨q38, h0⟩ := need_elim h0
    refine AC.drawS [0, 1, 2, 3, 4, 5, 6, 7, 8, 9, 10, 11, 12, 13, 14] [14] [15, 16, 17] (fun L => [.fix 24 [.d (di .i64 a0.Layout), .d (eS0 a0.Min), .d (eS0 a0.Max)], .fix 24 [.d (di .i64 (0 : Int)), .d (.v (.slice none 0 0)), .d (.v (.slice none 0 0))], .fix 4 [.d (dbool false)], .dead, .fix 24 [.d (di .i64 a0.Layout), .d (eS0 a0.Min), .d (eS0 a0.Max)], .grow 40 1 (List.map keS0 (y2.take (((2 : Int)).toNat) ++ [y26, x29])), bif L 14 then .grow 40 1 (List.map keS0 (y4.take (((2 : Int)).toNat) ++ [y33, x36])) else .grow 40 1 (List.map keS0 y4), .dead, bif L 14 then .fix 110 [.d (di .i64 a0.Layout), .own 5, .any] else .fix 110 [.d (di .i64 a0.Layout), .own 5, .own 6], .frame fr7 [(4, .ptr 1 0), (5, .ptr 2 0), (6, .ptr 8 0)], .frame fr8 []]) [(14, SV.noO 6)] mixed (by kernel_rfl) (fun L L' h => by simp only [h 14 (by decide), h 14 (by decide)]) rfl ?_
    refine AS.op [0] [] [] [14] rfl rfl rfl (by kernel_rfl) (by kernel_rfl) rfl rfl (fun _ _ _ h => AOp.move rfl rfl (ltb rfl) rfl h) (by kernel_rfl) ?_
    refine AS.op [0] [] [14] [] rfl rfl rfl (by kernel_rfl) (by kernel_rfl) rfl rfl (fun _ _ _ h => AOp.move rfl rfl (ltb rfl) rfl h) (by kernel_rfl) ?_
    refine AS.op [69] [] [14] [] rfl rfl rfl (by kernel_rfl) (by kernel_rfl) rfl rfl (fun _ _ _ h => AOp.nilCheck rfl rfl (ltb rfl) rfl rfl h) (by kernel_rfl) ?_
    refine AS.op [70] [] [14] [] rfl rfl rfl (by kernel_rfl) (by kernel_rfl) rfl rfl (fun _ _ _ h => AOp.fieldAddr rfl rfl (ltb rfl) rfl fo110_2 h) (by kernel_rfl) ?_
    refine AS.op [71] [] [14] [] rfl rfl rfl (by kernel_rfl) (by kernel_rfl) rfl rfl (fun _ _ _ h => AOp.load1 rfl rfl (ltb rfl) rfl agg80 rfl rfl h) (by kernel_rfl) ?_
    refine AS.op [72] [] [14] [] rfl rfl rfl (by kernel_rfl) (by kernel_rfl) rfl rfl (fun _ _ _ h => AOp.slicePre (n := y4.length) rfl rfl (ltb rfl) rfl rfl el80 rfl (by decide) (len1 _ _) q32.1 rfl q32.2 h) (by kernel_rfl) ?_
    refine AS.op [] [] [14] [] rfl rfl rfl (by kernel_rfl) (by kernel_rfl) rfl rfl (fun _ _ _ h => AOp.callD rfl rfl (ltb rfl) rfl rfl (w_Inf (-1 : Int) y33 q34) (by rintro _ rfl; exact h)) (by kernel_rfl) ?_
    refine AS.op [0] [] [14] [] rfl rfl rfl (by kernel_rfl) (by kernel_rfl) rfl rfl (fun _ _ _ h => AOp.move rfl rfl (ltb rfl) rfl h) (by kernel_rfl) ?_
    refine AS.op [75] [] [14] [] rfl rfl rfl (by kernel_rfl) (by kernel_rfl) rfl rfl (fun _ _ _ h => AOp.nilCheck rfl rfl (ltb rfl) rfl rfl h) (by kernel_rfl) ?_
    refine AS.op [76] [] [14] [] rfl rfl rfl (by kernel_rfl) (by kernel_rfl) rfl rfl (fun _ _ _ h => AOp.fieldAddr rfl rfl (ltb rfl) rfl fo110_2 h) (by kernel_rfl) ?_
    refine AS.op [77] [] [14] [] rfl rfl rfl (by kernel_rfl) (by kernel_rfl) rfl rfl (fun _ _ _ h => AOp.load1 rfl rfl (ltb rfl) rfl agg80 rfl rfl h) (by kernel_rfl) ?_
    refine AS.op [78] [] [14] [] rfl rfl rfl (by kernel_rfl) (by kernel_rfl) rfl rfl (fun _ _ _ h => AOp.indexOwn (cells := (List.map keS0 y4)) (n := y4.length) rfl rfl (ltb rfl) rfl rfl el80 rfl (by decide) (len1 _ _) q35.1 q35.2 h) (by kernel_rfl) ?_
    refine AS.op [79] [] [14] [] rfl rfl rfl (by kernel_rfl) (by kernel_rfl) rfl rfl (fun _ _ _ h => AOp.loadO1 rfl rfl (ltb rfl) rfl agg40 rfl (at1 q37.2) h) (by kernel_rfl) ?_
    refine AS.op [74, 80] [] [14] [] rfl rfl rfl (by kernel_rfl) (by kernel_rfl) rfl rfl (fun _ _ _ h => AOp.buildSliceD rfl rfl (ltb rfl) el80 zero40 rfl (leb rfl) rfl rfl rfl rfl h) (by kernel_rfl) ?_
    refine AS.mid [73, 81] [] [14] [] rfl rfl rfl rfl (by kernel_rfl) (by kernel_rfl) rfl rfl (fun _ _ _ h => AOp.subO 8 rfl (.cons (SVLe.refl _) (.cons (SVLe.refl _) (.cons (SVLe.any _) .nil))) (AOp.appendOwnP (n := y4.length) (m := [y33, x36].length) (k := ((2 : Int)).toNat) (cells := (List.map keS0 y4)) (news := (List.map keS0 [y33, x36])) rfl rfl (ltb rfl) rfl rfl el80 info40 rfl (by decide) rfl (len1 _ _) q38.1 (len1 _ _) (one1 _ (fun _ => rfl) _) q38.2 (by decide) (allNo (.cons rfl (.cons rfl (.cons rfl (.cons rfl (.cons rfl (.cons rfl (.cons rfl (.cons rfl (.cons rfl (.cons rfl (.cons rfl .nil)))))))))))) rfl (cat1t _ _ _ _) (AO.dropped h))) (by kernel_rfl) rfl ?_
    refine AS.done ?_
    refine AO.objs (obs' := [.fix 24 [.d (di .i64 a0.Layout), .d (eS0 a0.Min), .d (eS0 a0.Max)], .fix 24 [.d (di .i64 (0 : Int)), .d (.v (.slice none 0 0)), .d (.v (.slice none 0 0))], .fix 4 [.d (dbool false)], .dead, .fix 24 [.d (di .i64 a0.Layout), .d (eS0 a0.Min), .d (eS0 a0.Max)], .grow 40 1 (List.map keS0 (y2.take (((2 : Int)).toNat) ++ [y26, x29])), .grow 40 1 (List.map keS0 (y4.take (((2 : Int)).toNat) ++ [y33, x36])), .dead, .fix 110 [.d (di .i64 a0.Layout), .own 5, .any], .frame fr7 [(4, .ptr 1 0), (5, .ptr 2 0), (6, .ptr 8 0)], .frame fr8 []]) rfl ?_
    refine AO.op rfl (AOp.nilCheck rfl rfl (ltb rfl) rfl rfl ?_)
    refine AO.op rfl (AOp.fieldAddr rfl rfl (ltb rfl) rfl fo110_2 ?_)
    refine AO.op rfl (AOp.storeOwn rfl rfl rfl rfl rfl rfl size80 rfl rfl (leb rfl) ?_)
    refine AO.nil ?_
    change AC _ _ _ _
    refine AC.region ?_
    refine AO.op rfl (AOp.move rfl rfl (ltb rfl) rfl ?_)
    refine AO.op rfl (AOp.nilCheck rfl rfl (ltb rfl) rfl rfl ?_)
    refine AO.op rfl (AOp.fieldAddr rfl rfl (ltb rfl) rfl fo110_0 ?_)
    refine AO.op rfl (AOp.store rfl rfl rfl rfl size79 rfl rfl rfl (leb rfl) ?_)
    refine AO.nil ?_
    refine inlend (ob' := [.fix 24 [.d (di .i64 a0.Layout), .d (eS0 a0.Min), .d (eS0 a0.Max)], .fix 24 [.d (di .i64 (0 : Int)), .d (.v (.slice none 0 0)), .d (.v (.slice none 0 0))], .fix 4 [.d (dbool false)], .dead, .fix 24 [.d (di .i64 a0.Layout), .d (eS0 a0.Min), .d (eS0 a0.Max)], .grow 40 1 (List.map keS0 (y2.take (((2 : Int)).toNat) ++ [y26, x29])), .grow 40 1 (List.map keS0 (y4.take (((2 : Int)).toNat) ++ [y33, x36])), .dead, .fix 110 [.d (di .i64 (4 : Int)), .own 5, .own 6], .frame fr7 [(4, .ptr 1 0), (5, .ptr 2 0), (6, .ptr 8 0)], .dead]) (e' := []) (r := .tu []) rfl rfl rfl ?_
    change AO _ _ _ _ _
    refine AO.nil ?_
    refine inlend (ob' := [.fix 24 [.d (di .i64 a0.Layout), .d (eS0 a0.Min), .d (eS0 a0.Max)], .fix 24 [.d (di .i64 (0 : Int)), .d (.v (.slice none 0 0)), .d (.v (.slice none 0 0))], .fix 4 [.d (dbool false)], .dead, .fix 24 [.d (di .i64 a0.Layout), .d (eS0 a0.Min), .d (eS0 a0.Max)], .grow 40 1 (List.map keS0 (y2.take (((2 : Int)).toNat) ++ [y26, x29])), .grow 40 1 (List.map keS0 (y4.take (((2 : Int)).toNat) ++ [y33, x36])), .dead, .fix 110 [.d (di .i64 (4 : Int)), .own 5, .own 6], .dead, .dead]) (e' := [(4, .ptr 1 0), (5, .ptr 2 0), (6, .ptr 8 0)]) (r := .tu []) rfl rfl rfl ?_
    change AO _ _ _ _ _
    refine AO.nil ?_
    change AC _ _ _ _
    refine AC.seq ?_
    refine AC.region ?_
    refine AO.op rfl (AOp.move rfl rfl (ltb rfl) rfl ?_)
    refine AO.op rfl (AOp.inl [4, 5] (by kernel_rfl) Try.func52 rfl Try.ntmps52 rfl rfl (ltb rfl) rfl (leb rfl) rfl ?_)
    intro fr39
    refine AC.seq ?_
    refine AC.region ?_
    refine AO.op rfl (AOp.alloc rfl rfl (ltb rfl) zero24 rfl ?_)
    refine AO.nil ?_
    change AC _ _ _ _
    refine AC.seq ?_
    refine AC.region ?_
    refine AO.op rfl (AOp.move rfl rfl (ltb rfl) rfl ?_)
    refine AO.op rfl (AOp.inl [2] (by kernel_rfl) Try.func80 rfl Try.ntmps80 rfl rfl (ltb rfl) rfl (leb rfl) rfl ?_)
    intro fr40
    refine AC.seq ?_
    refine AC.region ?_
    refine AO.op rfl (AOp.assign rfl rfl (ltb rfl) rfl ?_)
    refine AO.op rfl (AOp.assign rfl rfl (ltb rfl) rfl ?_)
    refine AO.op rfl (AOp.assign rfl rfl (ltb rfl) rfl ?_)
    refine AO.nil ?_
    change AC _ _ _ _
    refine AC.seq ?_
    refine AC.draw 15 mixed (by kernel_rfl) ?_
    refine AD.op [0] rfl (by kernel_rfl) rfl rfl (fun _ _ h => AOp.move rfl rfl (ltb rfl) rfl h) ?_
    refine AD.op [5] rfl (by kernel_rfl) rfl rfl (fun _ _ h => AOp.nilCheck rfl rfl (ltb rfl) rfl rfl h) ?_
    refine AD.op [6] rfl (by kernel_rfl) rfl rfl (fun _ _ h => AOp.fieldAddr rfl rfl (ltb rfl) rfl fo110_0 h) ?_
    refine AD.op [7] rfl (by kernel_rfl) rfl rfl (fun _ _ h => AOp.load1 rfl rfl (ltb rfl) rfl agg79 rfl rfl h) ?_
    refine AD.op [0] rfl (by kernel_rfl) rfl rfl (fun _ _ h => AOp.move rfl rfl (ltb rfl) rfl h) ?_
    refine AD.op [9] rfl (by kernel_rfl) rfl rfl (fun _ _ h => AOp.nilCheck rfl rfl (ltb rfl) rfl rfl h) ?_
    refine AD.op [10] rfl (by kernel_rfl) rfl rfl (fun _ _ h => AOp.fieldAddr rfl rfl (ltb rfl) rfl fo110_1 h) ?_
    refine AD.op [11] rfl (by kernel_rfl) rfl rfl (fun _ _ h => AOp.load1 rfl rfl (ltb rfl) rfl agg80 rfl rfl h) ?_
    refine AD.op [0] rfl (by kernel_rfl) rfl rfl (fun _ _ h => AOp.move rfl rfl (ltb rfl) rfl h) ?_
    refine AD.op [13] rfl (by kernel_rfl) rfl rfl (fun _ _ h => AOp.nilCheck rfl rfl (ltb rfl) rfl rfl h) ?_
    refine AD.op [14] rfl (by kernel_rfl) rfl rfl (fun _ _ h => AOp.fieldAddr rfl rfl (ltb rfl) rfl fo110_2 h) ?_
    refine AD.op [15] rfl (by kernel_rfl) rfl rfl (fun _ _ h => AOp.load1 rfl rfl (ltb rfl) rfl agg80 rfl rfl h) ?_
    refine AD.op [8] rfl (by kernel_rfl) rfl rfl (fun _ _ h => AOp.assign rfl rfl (ltb rfl) rfl h) ?_
    refine AD.op [12] rfl (by kernel_rfl) rfl rfl (fun _ _ h => AOp.assign rfl rfl (ltb rfl) rfl h) ?_
    refine AD.op [16] rfl (by kernel_rfl) rfl rfl (fun _ _ h => AOp.assign rfl rfl (ltb rfl) rfl h) ?_
    refine AD.done ?_
    refine AO.nil ?_
    change AC _ _ _ _
    refine AC.ret ?_
    refine inlret (ob' := [.fix 24 [.d (di .i64 a0.Layout), .d (eS0 a0.Min), .d (eS0 a0.Max)], .fix 24 [.d (di .i64 (0 : Int)), .d (.v (.slice none 0 0)), .d (.v (.slice none 0 0))], .fix 4 [.d (dbool false)], .dead, .fix 24 [.d (di .i64 a0.Layout), .d (eS0 a0.Min), .d (eS0 a0.Max)], .grow 40 1 (List.map keS0 (y2.take (((2 : Int)).toNat) ++ [y26, x29])), .grow 40 1 (List.map keS0 (y4.take (((2 : Int)).toNat) ++ [y33, x36])), .dead, .fix 110 [.d (di .i64 (4 : Int)), .own 5, .own 6], .dead, .dead, .frame fr39 [(4, .ptr 1 0), (5, .ptr 2 0)], .fix 24 [.d (di .i64 (0 : Int)), .d (.v (.slice none 0 0)), .d (.v (.slice none 0 0))], .dead]) (e' := [(2, .ptr 12 0)]) (r := .tu [.d (di .i64 (4 : Int)), .own 5, .own 6]) rfl rfl rfl ?_
    change AO _ _ _ _ _
    refine AO.op rfl (AOp.move rfl rfl (ltb rfl) rfl ?_)
    first | refine AO.op rfl (AOp.extractD rfl rfl (ltb rfl) rfl rfl ?_) | refine AO.op rfl (AOp.extract rfl rfl (ltb rfl) rfl rfl ?_)
    first | refine AO.op rfl (AOp.extractD rfl rfl (ltb rfl) rfl rfl ?_) | refine AO.op rfl (AOp.extract rfl rfl (ltb rfl) rfl rfl ?_)
    first | refine AO.op rfl (AOp.extractD rfl rfl (ltb rfl) rfl rfl ?_) | refine AO.op rfl (AOp.extract rfl rfl (ltb rfl) rfl rfl ?_)
    refine AO.op rfl (AOp.assign rfl rfl (ltb rfl) rfl ?_)
    refine AO.op rfl (AOp.assign rfl rfl (ltb rfl) rfl ?_)
    refine AO.op rfl (AOp.assign rfl rfl (ltb rfl) rfl ?_)
    refine AO.nil ?_
    change AC _ _ _ _
    refine AC.seq ?_
    refine AC.region ?_
    refine AO.op rfl (AOp.move rfl rfl (ltb rfl) rfl ?_)
    refine AO.op rfl (AOp.move rfl rfl (ltb rfl) rfl ?_)
    refine AO.subO 8 rfl (.cons (SVLe.refl _) (.cons (SVLe.any _) (.cons (SVLe.refl _) .nil))) ?_
    refine AO.freezeG 5 rfl rfl rfl ?_
    obtain ⟨y41, q42, h0⟩ := bind_elim h0
    refine AO.op rfl (AOp.callD rfl rfl (ltb rfl) rfl rfl (w_floats (y2.take (((2 : Int)).toNat) ++ [y26, x29]) y41 q42) ?_)
    rintro _ rfl
    refine AO.op rfl (AOp.move rfl rfl (ltb rfl) rfl ?_)
    refine AO.subO 8 rfl (.cons (SVLe.refl _) (.cons (SVLe.refl _) (.cons (SVLe.any _) .nil))) ?_
    refine AO.freezeG 6 rfl rfl rfl ?_
    obtain ⟨y43, q44, h0⟩ := bind_elim h0
    refine AO.op rfl (AOp.callD rfl rfl (ltb rfl) rfl rfl (w_floats (y4.take (((2 : Int)).toNat) ++ [y33, x36]) y43 q44) ?_)
    rintro _ rfl
    refine AO.op rfl (AOp.build rfl rfl (ltb rfl) zero24 rfl places24 rfl rfl ?_)
    refine AO.op rfl (AOp.store rfl rfl rfl rfl size24 rfl rfl rfl (leb rfl) ?_)
    refine AO.nil ?_
    change AC _ _ _ _
    refine AC.ret ?_
    refine inlret (ob' := [.fix 24 [.d (di .i64 a0.Layout), .d (eS0 a0.Min), .d (eS0 a0.Max)], .fix 24 [.d (di .i64 (0 : Int)), .d (.v (.slice none 0 0)), .d (.v (.slice none 0 0))], .fix 4 [.d (dbool false)], .dead, .fix 24 [.d (di .i64 a0.Layout), .d (eS0 a0.Min), .d (eS0 a0.Max)], .dead, .dead, .dead, .fix 110 [.d (di .i64 (4 : Int)), .any, .any], .dead, .dead, .dead, .fix 24 [.d (di .i64 (4 : Int)), .d (eS0 y41), .d (eS0 y43)], .dead]) (e' := [(4, .ptr 1 0), (5, .ptr 2 0)]) (r := .ag [.d (di .i64 (4 : Int)), .d (eS0 y41), .d (eS0 y43)]) rfl rfl rfl ?_
    change AO _ _ _ _ _
    refine AO.op rfl (AOp.store rfl rfl rfl rfl size24 rfl rfl rfl (leb rfl) ?_)
    refine AO.op rfl (AOp.store rfl rfl rfl rfl size4 rfl rfl rfl (leb rfl) ?_)
    refine AO.nil ?_
    change AC _ _ _ _
    refine AC.ret ?_
    change RetQ _ _ _ .ret _
    obtain rfl := Option.some.inj h0
    refine retq rfl rfl
  replace h0 := cF h0 q24
  refine AC.seq ?_
  refine AC.region ?_
  refine AO.op rfl (AOp.move rfl rfl (ltb rfl) rfl ?_)
  refine AO.op rfl (AOp.nilCheck rfl rfl (ltb rfl) rfl rfl ?_)
  refine AO.op rfl (AOp.fieldAddr rfl rfl (ltb rfl) rfl fo110_0 ?_)
  refine AO.op rfl (AOp.load1 rfl rfl (ltb rfl) rfl agg79 rfl rfl ?_)
  refine AO.op rfl (AOp.move rfl rfl (ltb rfl) rfl ?_)
  refine AO.op rfl (AOp.ilss rfl rfl (ltb rfl) rfl rfl ?_)
  refine AO.op rfl (AOp.assign rfl rfl (ltb rfl) rfl ?_)
  refine AO.nil ?_
  change AC _ _ _ _
  refine AC.cond rfl (fun q45 => ?_) (fun q45 => ?_)
  · replace h0 := cT h0 q45
    refine AC.seq ?_
    refine AC.region ?_
    refine AO.op rfl (AOp.move rfl rfl (ltb rfl) rfl ?_)
    refine AO.op rfl (AOp.move rfl rfl (ltb rfl) rfl ?_)
    obtain ⟨y46, q47, h0⟩ := bind_elim h0
    refine AO.op rfl (AOp.callD rfl rfl (ltb rfl) rfl rfl (w_Layout_Stride a1 y46 q47) ?_)
    rintro _ rfl
    refine AO.op rfl (AOp.inl [0, 1] (by kernel_rfl) Try.func99 rfl Try.ntmps99 rfl rfl (ltb rfl) rfl (leb rfl) rfl ?_)
    intro fr48
    refine AC.seq ?_
    refine AC.region ?_
    refine AO.op rfl (AOp.move rfl rfl (ltb rfl) rfl ?_)
    refine AO.op rfl (AOp.nilCheck rfl rfl (ltb rfl) rfl rfl ?_)
    refine AO.op rfl (AOp.fieldAddr rfl rfl (ltb rfl) rfl fo110_0 ?_)
    refine AO.op rfl (AOp.load1 rfl rfl (ltb rfl) rfl agg79 rfl rfl ?_)
    obtain ⟨y49, q50, h0⟩ := bind_elim h0
    refine AO.op rfl (AOp.callD rfl rfl (ltb rfl) rfl rfl (w_Layout_Stride a0.Layout y49 q50) ?_)
    rintro _ rfl
    refine AO.op rfl (AOp.assign rfl rfl (ltb rfl) rfl ?_)
    refine AO.nil ?_
    change AC _ _ _ _
    obtain ⟨o51, l52, h0⟩ := bind_elim h0
    refine AC.joinE (V := ((List Nat) × (List Nat))) [] [] 12 (fun g53 => []) (fun g53 => [.fix 24 [.d (di .i64 a0.Layout), .d (eS0 a0.Min), .d (eS0 a0.Max)], .fix 24 [.d (di .i64 (0 : Int)), .d (.v (.slice none 0 0)), .d (.v (.slice none 0 0))], .fix 4 [.d (dbool false)], .dead, .fix 24 [.d (di .i64 a0.Layout), .d (eS0 a0.Min), .d (eS0 a0.Max)], .grow 40 1 (List.map keS0 g53.1), .grow 40 1 (List.map keS0 g53.2), .dead, .fix 110 [.d (di .i64 a0.Layout), .own 5, .own 6], .frame fr7 [(4, .ptr 1 0), (5, .ptr 2 0), (6, .ptr 8 0)], .frame fr8 [], .frame fr48 [(0, .ptr 8 0), (1, .d (di .i64 a1))]]) (fun g53 => (p_BoxExtendLayout_k3 a1) g53 = some r0) rfl ?_ ?_
    · refine AC.block ?_
      refine AC.loopP (V := (Int × (List Nat) × (List Nat))) (p_BoxExtendLayout_l4 y46) o51 [0, 1] [4] 12 (fun g60 => [(4, .d (di .i64 g60.1))]) (fun g60 => [.fix 24 [.d (di .i64 a0.Layout), .d (eS0 a0.Min), .d (eS0 a0.Max)], .fix 24 [.d (di .i64 (0 : Int)), .d (.v (.slice none 0 0)), .d (.v (.slice none 0 0))], .fix 4 [.d (dbool false)], .dead, .fix 24 [.d (di .i64 a0.Layout), .d (eS0 a0.Min), .d (eS0 a0.Max)], .grow 40 1 (List.map keS0 g60.2.1), .grow 40 1 (List.map keS0 g60.2.2), .dead, .fix 110 [.d (di .i64 a0.Layout), .own 5, .own 6], .frame fr7 [(4, .ptr 1 0), (5, .ptr 2 0), (6, .ptr 8 0)], .frame fr8 [], .frame fr48 [(0, .ptr 8 0), (1, .d (di .i64 a1))]]) F (y49, y2, y4) l52 rfl rfl (LeL.refl _) rfl rfl ?_
      intro n62 g60 h1
      unfold p_BoxExtendLayout_l4 at h1
      refine AC.seq ?_
      refine AC.seq ?_
      refine AC.region ?_
      refine AO.op rfl (AOp.move rfl rfl (ltb rfl) rfl ?_)
      refine AO.op rfl (AOp.move rfl rfl (ltb rfl) rfl ?_)
      refine AO.op rfl (AOp.ilss rfl rfl (ltb rfl) rfl rfl ?_)
      refine AO.nil ?_
      change AC _ _ _ _
      refine AC.cond rfl (fun q63 => ?_) (fun q63 => ?_)
      · replace h1 := cT h1 q63
        refine AC.skip ?_
        change AC _ _ _ _
        refine AC.seq ?_
        refine AC.block ?_
        refine AC.seq ?_
        obtain ⟨y64, q65, h1⟩ := bind_elim h1
        obtain ⟨q66, h1⟩ := need_elim h1
        refine AC.drawS [0, 1, 2, 3, 4, 5, 6, 7] [7] [8, 9, 10] (fun L => [.fix 24 [.d (di .i64 a0.Layout), .d (eS0 a0.Min), .d (eS0 a0.Max)], .fix 24 [.d (di .i64 (0 : Int)), .d (.v (.slice none 0 0)), .d (.v (.slice none 0 0))], .fix 4 [.d (dbool false)], .dead, .fix 24 [.d (di .i64 a0.Layout), .d (eS0 a0.Min), .d (eS0 a0.Max)], bif L 7 then .grow 40 1 (List.map keS0 (g60.2.1 ++ [y64])) else .grow 40 1 (List.map keS0 g60.2.1), .grow 40 1 (List.map keS0 g60.2.2), .dead, bif L 7 then .fix 110 [.d (di .i64 a0.Layout), .any, .own 6] else .fix 110 [.d (di .i64 a0.Layout), .own 5, .own 6], .frame fr7 [(4, .ptr 1 0), (5, .ptr 2 0), (6, .ptr 8 0)], .frame fr8 [], .frame fr48 [(0, .ptr 8 0), (1, .d (di .i64 a1))]]) [(7, SV.noO 5)] mixed (by kernel_rfl) (fun L L' h => by simp only [h 7 (by decide), h 7 (by decide)]) rfl ?_
        refine AS.op [0] [] [] [7] rfl rfl rfl (by kernel_rfl) (by kernel_rfl) rfl rfl (fun _ _ _ h => AOp.move rfl rfl (ltb rfl) rfl h) (by kernel_rfl) ?_
        refine AS.op [0] [] [7] [] rfl rfl rfl (by kernel_rfl) (by kernel_rfl) rfl rfl (fun _ _ _ h => AOp.move rfl rfl (ltb rfl) rfl h) (by kernel_rfl) ?_
        refine AS.op [16] [] [7] [] rfl rfl rfl (by kernel_rfl) (by kernel_rfl) rfl rfl (fun _ _ _ h => AOp.nilCheck rfl rfl (ltb rfl) rfl rfl h) (by kernel_rfl) ?_
        refine AS.op [17] [] [7] [] rfl rfl rfl (by kernel_rfl) (by kernel_rfl) rfl rfl (fun _ _ _ h => AOp.fieldAddr rfl rfl (ltb rfl) rfl fo110_1 h) (by kernel_rfl) ?_
        refine AS.op [18] [] [7] [] rfl rfl rfl (by kernel_rfl) (by kernel_rfl) rfl rfl (fun _ _ _ h => AOp.load1 rfl rfl (ltb rfl) rfl agg80 rfl rfl h) (by kernel_rfl) ?_
        refine AS.op [] [] [7] [] rfl rfl rfl (by kernel_rfl) (by kernel_rfl) rfl rfl (fun _ _ _ h => AOp.callD rfl rfl (ltb rfl) rfl rfl (w_Inf (1 : Int) y64 q65) (by rintro _ rfl; exact h)) (by kernel_rfl) ?_
        refine AS.op [20] [] [7] [] rfl rfl rfl (by kernel_rfl) (by kernel_rfl) rfl rfl (fun _ _ _ h => AOp.buildSliceD rfl rfl (ltb rfl) el80 zero40 rfl (leb rfl) rfl rfl rfl rfl h) (by kernel_rfl) ?_
        refine AS.mid [19, 21] [] [7] [] rfl rfl rfl rfl (by kernel_rfl) (by kernel_rfl) rfl rfl (fun _ _ _ h => AOp.subO 8 rfl (.cons (SVLe.refl _) (.cons (SVLe.any _) (.cons (SVLe.refl _) .nil))) (AOp.appendOwn' (n := g60.2.1.length) (m := [y64].length) (news := (List.map keS0 [y64])) rfl rfl (ltb rfl) rfl rfl el80 info40 rfl (by decide) rfl (len1 _ _) (len1 _ _) (one1 _ (fun _ => rfl) _) q66 (by decide) (allNo (.cons rfl (.cons rfl (.cons rfl (.cons rfl (.cons rfl (.cons rfl (.cons rfl (.cons rfl (.cons rfl (.cons rfl (.cons rfl (.cons rfl .nil))))))))))))) rfl (cat1 _ _ _) (AO.dropped h))) (by kernel_rfl) rfl ?_
        refine AS.done ?_
        refine AO.objs (obs' := [.fix 24 [.d (di .i64 a0.Layout), .d (eS0 a0.Min), .d (eS0 a0.Max)], .fix 24 [.d (di .i64 (0 : Int)), .d (.v (.slice none 0 0)), .d (.v (.slice none 0 0))], .fix 4 [.d (dbool false)], .dead, .fix 24 [.d (di .i64 a0.Layout), .d (eS0 a0.Min), .d (eS0 a0.Max)], .grow 40 1 (List.map keS0 (g60.2.1 ++ [y64])), .grow 40 1 (List.map keS0 g60.2.2), .dead, .fix 110 [.d (di .i64 a0.Layout), .any, .own 6], .frame fr7 [(4, .ptr 1 0), (5, .ptr 2 0), (6, .ptr 8 0)], .frame fr8 [], .frame fr48 [(0, .ptr 8 0), (1, .d (di .i64 a1))]]) rfl ?_
        refine AO.op rfl (AOp.nilCheck rfl rfl (ltb rfl) rfl rfl ?_)
        refine AO.op rfl (AOp.fieldAddr rfl rfl (ltb rfl) rfl fo110_1 ?_)
        refine AO.op rfl (AOp.storeOwn rfl rfl rfl rfl rfl rfl size80 rfl rfl (leb rfl) ?_)
        refine AO.nil ?_
        change AC _ _ _ _
        obtain ⟨y67, q68, h1⟩ := bind_elim h1
        obtain ⟨q69, h1⟩ := need_elim h1
        refine AC.drawS [0, 1, 2, 3, 4, 5, 6, 7] [7] [8, 9, 10] (fun L => [.fix 24 [.d (di .i64 a0.Layout), .d (eS0 a0.Min), .d (eS0 a0.Max)], .fix 24 [.d (di .i64 (0 : Int)), .d (.v (.slice none 0 0)), .d (.v (.slice none 0 0))], .fix 4 [.d (dbool false)], .dead, .fix 24 [.d (di .i64 a0.Layout), .d (eS0 a0.Min), .d (eS0 a0.Max)], .grow 40 1 (List.map keS0 (g60.2.1 ++ [y64])), bif L 7 then .grow 40 1 (List.map keS0 (g60.2.2 ++ [y67])) else .grow 40 1 (List.map keS0 g60.2.2), .dead, bif L 7 then .fix 110 [.d (di .i64 a0.Layout), .own 5, .any] else .fix 110 [.d (di .i64 a0.Layout), .own 5, .own 6], .frame fr7 [(4, .ptr 1 0), (5, .ptr 2 0), (6, .ptr 8 0)], .frame fr8 [], .frame fr48 [(0, .ptr 8 0), (1, .d (di .i64 a1))]]) [(7, SV.noO 6)] mixed (by kernel_rfl) (fun L L' h => by simp only [h 7 (by decide), h 7 (by decide)]) rfl ?_
        refine AS.op [0] [] [] [7] rfl rfl rfl (by kernel_rfl) (by kernel_rfl) rfl rfl (fun _ _ _ h => AOp.move rfl rfl (ltb rfl) rfl h) (by kernel_rfl) ?_
        refine AS.op [0] [] [7] [] rfl rfl rfl (by kernel_rfl) (by kernel_rfl) rfl rfl (fun _ _ _ h => AOp.move rfl rfl (ltb rfl) rfl h) (by kernel_rfl) ?_
        refine AS.op [26] [] [7] [] rfl rfl rfl (by kernel_rfl) (by kernel_rfl) rfl rfl (fun _ _ _ h => AOp.nilCheck rfl rfl (ltb rfl) rfl rfl h) (by kernel_rfl) ?_
        refine AS.op [27] [] [7] [] rfl rfl rfl (by kernel_rfl) (by kernel_rfl) rfl rfl (fun _ _ _ h => AOp.fieldAddr rfl rfl (ltb rfl) rfl fo110_2 h) (by kernel_rfl) ?_
        refine AS.op [28] [] [7] [] rfl rfl rfl (by kernel_rfl) (by kernel_rfl) rfl rfl (fun _ _ _ h => AOp.load1 rfl rfl (ltb rfl) rfl agg80 rfl rfl h) (by kernel_rfl) ?_
        refine AS.op [] [] [7] [] rfl rfl rfl (by kernel_rfl) (by kernel_rfl) rfl rfl (fun _ _ _ h => AOp.callD rfl rfl (ltb rfl) rfl rfl (w_Inf (-1 : Int) y67 q68) (by rintro _ rfl; exact h)) (by kernel_rfl) ?_
        refine AS.op [30] [] [7] [] rfl rfl rfl (by kernel_rfl) (by kernel_rfl) rfl rfl (fun _ _ _ h => AOp.buildSliceD rfl rfl (ltb rfl) el80 zero40 rfl (leb rfl) rfl rfl rfl rfl h) (by kernel_rfl) ?_
        refine AS.mid [29, 31] [] [7] [] rfl rfl rfl rfl (by kernel_rfl) (by kernel_rfl) rfl rfl (fun _ _ _ h => AOp.subO 8 rfl (.cons (SVLe.refl _) (.cons (SVLe.refl _) (.cons (SVLe.any _) .nil))) (AOp.appendOwn' (n := g60.2.2.length) (m := [y67].length) (news := (List.map keS0 [y67])) rfl rfl (ltb rfl) rfl rfl el80 info40 rfl (by decide) rfl (len1 _ _) (len1 _ _) (one1 _ (fun _ => rfl) _) q69 (by decide) (allNo (.cons rfl (.cons rfl (.cons rfl (.cons rfl (.cons rfl (.cons rfl (.cons rfl (.cons rfl (.cons rfl (.cons rfl (.cons rfl (.cons rfl .nil))))))))))))) rfl (cat1 _ _ _) (AO.dropped h))) (by kernel_rfl) rfl ?_
        refine AS.done ?_
        refine AO.objs (obs' := [.fix 24 [.d (di .i64 a0.Layout), .d (eS0 a0.Min), .d (eS0 a0.Max)], .fix 24 [.d (di .i64 (0 : Int)), .d (.v (.slice none 0 0)), .d (.v (.slice none 0 0))], .fix 4 [.d (dbool false)], .dead, .fix 24 [.d (di .i64 a0.Layout), .d (eS0 a0.Min), .d (eS0 a0.Max)], .grow 40 1 (List.map keS0 (g60.2.1 ++ [y64])), .grow 40 1 (List.map keS0 (g60.2.2 ++ [y67])), .dead, .fix 110 [.d (di .i64 a0.Layout), .own 5, .any], .frame fr7 [(4, .ptr 1 0), (5, .ptr 2 0), (6, .ptr 8 0)], .frame fr8 [], .frame fr48 [(0, .ptr 8 0), (1, .d (di .i64 a1))]]) rfl ?_
        refine AO.op rfl (AOp.nilCheck rfl rfl (ltb rfl) rfl rfl ?_)
        refine AO.op rfl (AOp.fieldAddr rfl rfl (ltb rfl) rfl fo110_2 ?_)
        refine AO.op rfl (AOp.storeOwn rfl rfl rfl rfl rfl rfl size80 rfl rfl (leb rfl) ?_)
        refine AO.nil ?_
        change AC _ _ _ _
        refine AC.region ?_
        refine AO.op rfl (AOp.move rfl rfl (ltb rfl) rfl ?_)
        obtain ⟨q70, h1⟩ := need_elim h1
        refine AO.op rfl (AOp.iadd rfl rfl (ltb rfl) rfl rfl rfl q70.1 q70.2 ?_)
        refine AO.op rfl (AOp.assign rfl rfl (ltb rfl) rfl ?_)
        refine AO.nil ?_
        exact ⟨((g60.1 + (1 : Int)), (g60.2.1 ++ [y64]), (g60.2.2 ++ [y67])), _, rfl, (LeL.refl _), rfl, rfl, h1⟩
      replace h1 := cF h1 q63
      refine AC.exit ?_
      obtain rfl := Option.some.inj h1
      exact ⟨(g60.2.1, g60.2.2), _, rfl, (LeL.refl _), rfl, rfl, aftL h0⟩
    intro g53 h0
    unfold p_BoxExtendLayout_k3 at h0
    refine inlend (ob' := [.fix 24 [.d (di .i64 a0.Layout), .d (eS0 a0.Min), .d (eS0 a0.Max)], .fix 24 [.d (di .i64 (0 : Int)), .d (.v (.slice none 0 0)), .d (.v (.slice none 0 0))], .fix 4 [.d (dbool false)], .dead, .fix 24 [.d (di .i64 a0.Layout), .d (eS0 a0.Min), .d (eS0 a0.Max)], .grow 40 1 (List.map keS0 g53.1), .grow 40 1 (List.map keS0 g53.2), .dead, .fix 110 [.d (di .i64 a0.Layout), .own 5, .own 6], .frame fr7 [(4, .ptr 1 0), (5, .ptr 2 0), (6, .ptr 8 0)], .frame fr8 [], .dead]) (e' := [(0, .ptr 8 0), (1, .d (di .i64 a1))]) (r := .tu []) rfl rfl rfl ?_
    change AO _ _ _ _ _
    refine AO.nil ?_
    change AC _ _ _ _
    refine AC.region ?_
    refine AO.op rfl (AOp.move rfl rfl (ltb rfl) rfl ?_)
    refine AO.op rfl (AOp.move rfl rfl (ltb rfl) rfl ?_)
    refine AO.op rfl (AOp.nilCheck rfl rfl (ltb rfl) rfl rfl ?_)
    refine AO.op rfl (AOp.fieldAddr rfl rfl (ltb rfl) rfl fo110_0 ?_)
    refine AO.op rfl (AOp.store rfl rfl rfl rfl size79 rfl rfl rfl (leb rfl) ?_)
    refine AO.nil ?_
    refine inlend (ob' := [.fix 24 [.d (di .i64 a0.Layout), .d (eS0 a0.Min), .d (eS0 a0.Max)], .fix 24 [.d (di .i64 (0 : Int)), .d (.v (.slice none 0 0)), .d (.v (.slice none 0 0))], .fix 4 [.d (dbool false)], .dead, .fix 24 [.d (di .i64 a0.Layout), .d (eS0 a0.Min), .d (eS0 a0.Max)], .grow 40 1 (List.map keS0 g53.1), .grow 40 1 (List.map keS0 g53.2), .dead, .fix 110 [.d (di .i64 a1), .own 5, .own 6], .frame fr7 [(4, .ptr 1 0), (5, .ptr 2 0), (6, .ptr 8 0)], .dead, .dead]) (e' := []) (r := .tu []) rfl rfl rfl ?_
    change AO _ _ _ _ _
    refine AO.nil ?_
    refine inlend (ob' := [.fix 24 [.d (di .i64 a0.Layout), .d (eS0 a0.Min), .d (eS0 a0.Max)], .fix 24 [.d (di .i64 (0 : Int)), .d (.v (.slice none 0 0)), .d (.v (.slice none 0 0))], .fix 4 [.d (dbool false)], .dead, .fix 24 [.d (di .i64 a0.Layout), .d (eS0 a0.Min), .d (eS0 a0.Max)], .grow 40 1 (List.map keS0 g53.1), .grow 40 1 (List.map keS0 g53.2), .dead, .fix 110 [.d (di .i64 a1), .own 5, .own 6], .dead, .dead, .dead]) (e' := [(4, .ptr 1 0), (5, .ptr 2 0), (6, .ptr 8 0)]) (r := .tu []) rfl rfl rfl ?_
    change AO _ _ _ _ _
    refine AO.nil ?_
    change AC _ _ _ _
    refine AC.seq ?_
    refine AC.region ?_
    refine AO.op rfl (AOp.move rfl rfl (ltb rfl) rfl ?_)
    refine AO.op rfl (AOp.inl [4, 5] (by kernel_rfl) Try.func52 rfl Try.ntmps52 rfl rfl (ltb rfl) rfl (leb rfl) rfl ?_)
    intro fr54
    refine AC.seq ?_
    refine AC.region ?_
    refine AO.op rfl (AOp.alloc rfl rfl (ltb rfl) zero24 rfl ?_)
    refine AO.nil ?_
    change AC _ _ _ _
    refine AC.seq ?_
    refine AC.region ?_
    refine AO.op rfl (AOp.move rfl rfl (ltb rfl) rfl ?_)
    refine AO.op rfl (AOp.inl [2] (by kernel_rfl) Try.func80 rfl Try.ntmps80 rfl rfl (ltb rfl) rfl (leb rfl) rfl ?_)
    intro fr55
    refine AC.seq ?_
    refine AC.region ?_
    refine AO.op rfl (AOp.assign rfl rfl (ltb rfl) rfl ?_)
    refine AO.op rfl (AOp.assign rfl rfl (ltb rfl) rfl ?_)
    refine AO.op rfl (AOp.assign rfl rfl (ltb rfl) rfl ?_)
    refine AO.nil ?_
    change AC _ _ _ _
    refine AC.seq ?_
    refine AC.draw 15 mixed (by kernel_rfl) ?_
    refine AD.op [0] rfl (by kernel_rfl) rfl rfl (fun _ _ h => AOp.move rfl rfl (ltb rfl) rfl h) ?_
    refine AD.op [5] rfl (by kernel_rfl) rfl rfl (fun _ _ h => AOp.nilCheck rfl rfl (ltb rfl) rfl rfl h) ?_
    refine AD.op [6] rfl (by kernel_rfl) rfl rfl (fun _ _ h => AOp.fieldAddr rfl rfl (ltb rfl) rfl fo110_0 h) ?_
    refine AD.op [7] rfl (by kernel_rfl) rfl rfl (fun _ _ h => AOp.load1 rfl rfl (ltb rfl) rfl agg79 rfl rfl h) ?_
    refine AD.op [0] rfl (by kernel_rfl) rfl rfl (fun _ _ h => AOp.move rfl rfl (ltb rfl) rfl h) ?_
    refine AD.op [9] rfl (by kernel_rfl) rfl rfl (fun _ _ h => AOp.nilCheck rfl rfl (ltb rfl) rfl rfl h) ?_
    refine AD.op [10] rfl (by kernel_rfl) rfl rfl (fun _ _ h => AOp.fieldAddr rfl rfl (ltb rfl) rfl fo110_1 h) ?_
    refine AD.op [11] rfl (by kernel_rfl) rfl rfl (fun _ _ h => AOp.load1 rfl rfl (ltb rfl) rfl agg80 rfl rfl h) ?_
    refine AD.op [0] rfl (by kernel_rfl) rfl rfl (fun _ _ h => AOp.move rfl rfl (ltb rfl) rfl h) ?_
    refine AD.op [13] rfl (by kernel_rfl) rfl rfl (fun _ _ h => AOp.nilCheck rfl rfl (ltb rfl) rfl rfl h) ?_
    refine AD.op [14] rfl (by kernel_rfl) rfl rfl (fun _ _ h => AOp.fieldAddr rfl rfl (ltb rfl) rfl fo110_2 h) ?_
    refine AD.op [15] rfl (by kernel_rfl) rfl rfl (fun _ _ h => AOp.load1 rfl rfl (ltb rfl) rfl agg80 rfl rfl h) ?_
    refine AD.op [8] rfl (by kernel_rfl) rfl rfl (fun _ _ h => AOp.assign rfl rfl (ltb rfl) rfl h) ?_
    refine AD.op [12] rfl (by kernel_rfl) rfl rfl (fun _ _ h => AOp.assign rfl rfl (ltb rfl) rfl h) ?_
    refine AD.op [16] rfl (by kernel_rfl) rfl rfl (fun _ _ h => AOp.assign rfl rfl (ltb rfl) rfl h) ?_
    refine AD.done ?_
    refine AO.nil ?_
    change AC _ _ _ _
    refine AC.ret ?_
    refine inlret (ob' := [.fix 24 [.d (di .i64 a0.Layout), .d (eS0 a0.Min), .d (eS0 a0.Max)], .fix 24 [.d (di .i64 (0 : Int)), .d (.v (.slice none 0 0)), .d (.v (.slice none 0 0))], .fix 4 [.d (dbool false)], .dead, .fix 24 [.d (di .i64 a0.Layout), .d (eS0 a0.Min), .d (eS0 a0.Max)], .grow 40 1 (List.map keS0 g53.1), .grow 40 1 (List.map keS0 g53.2), .dead, .fix 110 [.d (di .i64 a1), .own 5, .own 6], .dead, .dead, .dead, .frame fr54 [(4, .ptr 1 0), (5, .ptr 2 0)], .fix 24 [.d (di .i64 (0 : Int)), .d (.v (.slice none 0 0)), .d (.v (.slice none 0 0))], .dead]) (e' := [(2, .ptr 13 0)]) (r := .tu [.d (di .i64 a1), .own 5, .own 6]) rfl rfl rfl ?_
    change AO _ _ _ _ _
    refine AO.op rfl (AOp.move rfl rfl (ltb rfl) rfl ?_)
    first | refine AO.op rfl (AOp.extractD rfl rfl (ltb rfl) rfl rfl ?_) | refine AO.op rfl (AOp.extract rfl rfl (ltb rfl) rfl rfl ?_)
    first | refine AO.op rfl (AOp.extractD rfl rfl (ltb rfl) rfl rfl ?_) | refine AO.op rfl (AOp.extract rfl rfl (ltb rfl) rfl rfl ?_)
    first | refine AO.op rfl (AOp.extractD rfl rfl (ltb rfl) rfl rfl ?_) | refine AO.op rfl (AOp.extract rfl rfl (ltb rfl) rfl rfl ?_)
    refine AO.op rfl (AOp.assign rfl rfl (ltb rfl) rfl ?_)
    refine AO.op rfl (AOp.assign rfl rfl (ltb rfl) rfl ?_)
    refine AO.op rfl (AOp.assign rfl rfl (ltb rfl) rfl ?_)
    refine AO.nil ?_
    change AC _ _ _ _
    refine AC.seq ?_
    refine AC.region ?_
    refine AO.op rfl (AOp.move rfl rfl (ltb rfl) rfl ?_)
    refine AO.op rfl (AOp.move rfl rfl (ltb rfl) rfl ?_)
    refine AO.subO 8 rfl (.cons (SVLe.refl _) (.cons (SVLe.any _) (.cons (SVLe.refl _) .nil))) ?_
    refine AO.freezeG 5 rfl rfl rfl ?_
    obtain ⟨y56, q57, h0⟩ := bind_elim h0
    refine AO.op rfl (AOp.callD rfl rfl (ltb rfl) rfl rfl (w_floats g53.1 y56 q57) ?_)
    rintro _ rfl
    refine AO.op rfl (AOp.move rfl rfl (ltb rfl) rfl ?_)
    refine AO.subO 8 rfl (.cons (SVLe.refl _) (.cons (SVLe.refl _) (.cons (SVLe.any _) .nil))) ?_
    refine AO.freezeG 6 rfl rfl rfl ?_
    obtain ⟨y58, q59, h0⟩ := bind_elim h0
    refine AO.op rfl (AOp.callD rfl rfl (ltb rfl) rfl rfl (w_floats g53.2 y58 q59) ?_)
    rintro _ rfl
    refine AO.op rfl (AOp.build rfl rfl (ltb rfl) zero24 rfl places24 rfl rfl ?_)
    refine AO.op rfl (AOp.store rfl rfl rfl rfl size24 rfl rfl rfl (leb rfl) ?_)
    refine AO.nil ?_
    change AC _ _ _ _
    refine AC.ret ?_
    refine inlret (ob' := [.fix 24 [.d (di .i64 a0.Layout), .d (eS0 a0.Min), .d (eS0 a0.Max)], .fix 24 [.d (di .i64 (0 : Int)), .d (.v (.slice none 0 0)), .d (.v (.slice none 0 0))], .fix 4 [.d (dbool false)], .dead, .fix 24 [.d (di .i64 a0.Layout), .d (eS0 a0.Min), .d (eS0 a0.Max)], .dead, .dead, .dead, .fix 110 [.d (di .i64 a1), .any, .any], .dead, .dead, .dead, .dead, .fix 24 [.d (di .i64 a1), .d (eS0 y56), .d (eS0 y58)], .dead]) (e' := [(4, .ptr 1 0), (5, .ptr 2 0)]) (r := .ag [.d (di .i64 a1), .d (eS0 y56), .d (eS0 y58)]) rfl rfl rfl ?_
    change AO _ _ _ _ _
    refine AO.op rfl (AOp.store rfl rfl rfl rfl size24 rfl rfl rfl (leb rfl) ?_)
    refine AO.op rfl (AOp.store rfl rfl rfl rfl size4 rfl rfl rfl (leb rfl) ?_)
    refine AO.nil ?_
    change AC _ _ _ _
    refine AC.ret ?_
    change RetQ _ _ _ .ret _
    obtain rfl := Option.some.inj h0
    refine retq rfl rfl
  replace h0 := cF h0 q45
  refine AC.skip ?_
  refine inlend (ob' := [.fix 24 [.d (di .i64 a0.Layout), .d (eS0 a0.Min), .d (eS0 a0.Max)], .fix 24 [.d (di .i64 (0 : Int)), .d (.v (.slice none 0 0)), .d (.v (.slice none 0 0))], .fix 4 [.d (dbool false)], .dead, .fix 24 [.d (di .i64 a0.Layout), .d (eS0 a0.Min), .d (eS0 a0.Max)], .grow 40 1 (List.map keS0 y2), .grow 40 1 (List.map keS0 y4), .dead, .fix 110 [.d (di .i64 a0.Layout), .own 5, .own 6], .frame fr7 [(4, .ptr 1 0), (5, .ptr 2 0), (6, .ptr 8 0)], .dead]) (e' := []) (r := .tu []) rfl rfl rfl ?_
  change AO _ _ _ _ _
  refine AO.nil ?_
  refine inlend (ob' := [.fix 24 [.d (di .i64 a0.Layout), .d (eS0 a0.Min), .d (eS0 a0.Max)], .fix 24 [.d (di .i64 (0 : Int)), .d (.v (.slice none 0 0)), .d (.v (.slice none 0 0))], .fix 4 [.d (dbool false)], .dead, .fix 24 [.d (di .i64 a0.Layout), .d (eS0 a0.Min), .d (eS0 a0.Max)], .grow 40 1 (List.map keS0 y2), .grow 40 1 (List.map keS0 y4), .dead, .fix 110 [.d (di .i64 a0.Layout), .own 5, .own 6], .dead, .dead]) (e' := [(4, .ptr 1 0), (5, .ptr 2 0), (6, .ptr 8 0)]) (r := .tu []) rfl rfl rfl ?_
  change AO _ _ _ _ _
  refine AO.nil ?_
  change AC _ _ _ _
  refine AC.seq ?_
  refine AC.region ?_
  refine AO.op rfl (AOp.move rfl rfl (ltb rfl) rfl ?_)
  refine AO.op rfl (AOp.inl [4, 5] (by kernel_rfl) Try.func52 rfl Try.ntmps52 rfl rfl (ltb rfl) rfl (leb rfl) rfl ?_)
  intro fr71
  refine AC.seq ?_
  refine AC.region ?_
  refine AO.op rfl (AOp.alloc rfl rfl (ltb rfl) zero24 rfl ?_)
  refine AO.nil ?_
  change AC _ _ _ _
  refine AC.seq ?_
  refine AC.region ?_
  refine AO.op rfl (AOp.move rfl rfl (ltb rfl) rfl ?_)
  refine AO.op rfl (AOp.inl [2] (by kernel_rfl) Try.func80 rfl Try.ntmps80 rfl rfl (ltb rfl) rfl (leb rfl) rfl ?_)
  intro fr72
  refine AC.seq ?_
  refine AC.region ?_
  refine AO.op rfl (AOp.assign rfl rfl (ltb rfl) rfl ?_)
  refine AO.op rfl (AOp.assign rfl rfl (ltb rfl) rfl ?_)
  refine AO.op rfl (AOp.assign rfl rfl (ltb rfl) rfl ?_)
  refine AO.nil ?_
  change AC _ _ _ _
  refine AC.seq ?_
  refine AC.draw 15 mixed (by kernel_rfl) ?_
  refine AD.op [0] rfl (by kernel_rfl) rfl rfl (fun _ _ h => AOp.move rfl rfl (ltb rfl) rfl h) ?_
  refine AD.op [5] rfl (by kernel_rfl) rfl rfl (fun _ _ h => AOp.nilCheck rfl rfl (ltb rfl) rfl rfl h) ?_
  refine AD.op [6] rfl (by kernel_rfl) rfl rfl (fun _ _ h => AOp.fieldAddr rfl rfl (ltb rfl) rfl fo110_0 h) ?_
  refine AD.op [7] rfl (by kernel_rfl) rfl rfl (fun _ _ h => AOp.load1 rfl rfl (ltb rfl) rfl agg79 rfl rfl h) ?_
  refine AD.op [0] rfl (by kernel_rfl) rfl rfl (fun _ _ h => AOp.move rfl rfl (ltb rfl) rfl h) ?_
  refine AD.op [9] rfl (by kernel_rfl) rfl rfl (fun _ _ h => AOp.nilCheck rfl rfl (ltb rfl) rfl rfl h) ?_
  refine AD.op [10] rfl (by kernel_rfl) rfl rfl (fun _ _ h => AOp.fieldAddr rfl rfl (ltb rfl) rfl fo110_1 h) ?_
  refine AD.op [11] rfl (by kernel_rfl) rfl rfl (fun _ _ h => AOp.load1 rfl rfl (ltb rfl) rfl agg80 rfl rfl h) ?_
  refine AD.op [0] rfl (by kernel_rfl) rfl rfl (fun _ _ h => AOp.move rfl rfl (ltb rfl) rfl h) ?_
  refine AD.op [13] rfl (by kernel_rfl) rfl rfl (fun _ _ h => AOp.nilCheck rfl rfl (ltb rfl) rfl rfl h) ?_
  refine AD.op [14] rfl (by kernel_rfl) rfl rfl (fun _ _ h => AOp.fieldAddr rfl rfl (ltb rfl) rfl fo110_2 h) ?_
  refine AD.op [15] rfl (by kernel_rfl) rfl rfl (fun _ _ h => AOp.load1 rfl rfl (ltb rfl) rfl agg80 rfl rfl h) ?_
  refine AD.op [8] rfl (by kernel_rfl) rfl rfl (fun _ _ h => AOp.assign rfl rfl (ltb rfl) rfl h) ?_
  refine AD.op [12] rfl (by kernel_rfl) rfl rfl (fun _ _ h => AOp.assign rfl rfl (ltb rfl) rfl h) ?_
  refine AD.op [16] rfl (by kernel_rfl) rfl rfl (fun _ _ h => AOp.assign rfl rfl (ltb rfl) rfl h) ?_
  refine AD.done ?_
  refine AO.nil ?_
  change AC _ _ _ _
  refine AC.ret ?_
  refine inlret (ob' := [.fix 24 [.d (di .i64 a0.Layout), .d (eS0 a0.Min), .d (eS0 a0.Max)], .fix 24 [.d (di .i64 (0 : Int)), .d (.v (.slice none 0 0)), .d (.v (.slice none 0 0))], .fix 4 [.d (dbool false)], .dead, .fix 24 [.d (di .i64 a0.Layout), .d (eS0 a0.Min), .d (eS0 a0.Max)], .grow 40 1 (List.map keS0 y2), .grow 40 1 (List.map keS0 y4), .dead, .fix 110 [.d (di .i64 a0.Layout), .own 5, .own 6], .dead, .dead, .frame fr71 [(4, .ptr 1 0), (5, .ptr 2 0)], .fix 24 [.d (di .i64 (0 : Int)), .d (.v (.slice none 0 0)), .d (.v (.slice none 0 0))], .dead]) (e' := [(2, .ptr 12 0)]) (r := .tu [.d (di .i64 a0.Layout), .own 5, .own 6]) rfl rfl rfl ?_
  change AO _ _ _ _ _
  refine AO.op rfl (AOp.move rfl rfl (ltb rfl) rfl ?_)
  first | refine AO.op rfl (AOp.extractD rfl rfl (ltb rfl) rfl rfl ?_) | refine AO.op rfl (AOp.extract rfl rfl (ltb rfl) rfl rfl ?_)
  first | refine AO.op rfl (AOp.extractD rfl rfl (ltb rfl) rfl rfl ?_) | refine AO.op rfl (AOp.extract rfl rfl (ltb rfl) rfl rfl ?_)
  first | refine AO.op rfl (AOp.extractD rfl rfl (ltb rfl) rfl rfl ?_) | refine AO.op rfl (AOp.extract rfl rfl (ltb rfl) rfl rfl ?_)
  refine AO.op rfl (AOp.assign rfl rfl (ltb rfl) rfl ?_)
  refine AO.op rfl (AOp.assign rfl rfl (ltb rfl) rfl ?_)
  refine AO.op rfl (AOp.assign rfl rfl (ltb rfl) rfl ?_)
  refine AO.nil ?_
  change AC _ _ _ _
  refine AC.seq ?_
  refine AC.region ?_
  refine AO.op rfl (AOp.move rfl rfl (ltb rfl) rfl ?_)
  refine AO.op rfl (AOp.move rfl rfl (ltb rfl) rfl ?_)
  refine AO.subO 8 rfl (.cons (SVLe.refl _) (.cons (SVLe.any _) (.cons (SVLe.refl _) .nil))) ?_
  refine AO.freezeG 5 rfl rfl rfl ?_
  obtain ⟨y73, q74, h0⟩ := bind_elim h0
  refine AO.op rfl (AOp.callD rfl rfl (ltb rfl) rfl rfl (w_floats y2 y73 q74) ?_)
  rintro _ rfl
  refine AO.op rfl (AOp.move rfl rfl (ltb rfl) rfl ?_)
  refine AO.subO 8 rfl (.cons (SVLe.refl _) (.cons (SVLe.refl _) (.cons (SVLe.any _) .nil))) ?_
  refine AO.freezeG 6 rfl rfl rfl ?_
  obtain ⟨y75, q76, h0⟩ := bind_elim h0
  refine AO.op rfl (AOp.callD rfl rfl (ltb rfl) rfl rfl (w_floats y4 y75 q76) ?_)
  rintro _ rfl
  refine AO.op rfl (AOp.build rfl rfl (ltb rfl) zero24 rfl places24 rfl rfl ?_)
  refine AO.op rfl (AOp.store rfl rfl rfl rfl size24 rfl rfl rfl (leb rfl) ?_)
  refine AO.nil ?_
  change AC _ _ _ _
  refine AC.ret ?_
  refine inlret (ob' := [.fix 24 [.d (di .i64 a0.Layout), .d (eS0 a0.Min), .d (eS0 a0.Max)], .fix 24 [.d (di .i64 (0 : Int)), .d (.v (.slice none 0 0)), .d (.v (.slice none 0 0))], .fix 4 [.d (dbool false)], .dead, .fix 24 [.d (di .i64 a0.Layout), .d (eS0 a0.Min), .d (eS0 a0.Max)], .dead, .dead, .dead, .fix 110 [.d (di .i64 a0.Layout), .any, .any], .dead, .dead, .dead, .fix 24 [.d (di .i64 a0.Layout), .d (eS0 y73), .d (eS0 y75)], .dead]) (e' := [(4, .ptr 1 0), (5, .ptr 2 0)]) (r := .ag [.d (di .i64 a0.Layout), .d (eS0 y73), .d (eS0 y75)]) rfl rfl rfl ?_
  change AO _ _ _ _ _
  refine AO.op rfl (AOp.store rfl rfl rfl rfl size24 rfl rfl rfl (leb rfl) ?_)
  refine AO.op rfl (AOp.store rfl rfl rfl rfl size4 rfl rfl rfl (leb rfl) ?_)
  refine AO.nil ?_
  change AC _ _ _ _
  refine AC.ret ?_
  change RetQ _ _ _ .ret _
  obtain rfl := Option.some.inj h0
  refine retq rfl rfl

set_option maxRecDepth 100000 in
set_option maxHeartbeats 1000000 in
/-- pub-orthodrome/spec.Cover -/
theorem w_Cover (a0 : Int) (a1 : Int) (r0 : Int) (h0 : p_Cover a0 a1 = some r0) : FnD Try.prog 83 [di .i64 a0, di .i64 a1] (fun r => r = di .i64 r0) := by
  refine FnD.of (by kernel_rfl) Try.func83 rfl Try.ntmps83 rfl (leb rfl) fun W ok => ?_
  unfold p_Cover at h0
  refine AC.seq ?_
  refine AC.region ?_
  refine AO.op rfl (AOp.assign rfl rfl (ltb rfl) rfl ?_)
  refine AO.nil ?_
  change AC _ _ _ _
  refine AC.seq ?_
  refine AC.seq ?_
  refine AC.region ?_
  refine AO.op rfl (AOp.move rfl rfl (ltb rfl) rfl ?_)
  refine AO.op rfl (AOp.ieql rfl rfl (ltb rfl) rfl rfl ?_)
  refine AO.op rfl (AOp.move rfl rfl (ltb rfl) rfl ?_)
  refine AO.dec (decide (a0 = (2 : Int))) (fun q1 => ?_) (fun q1 => ?_)
  · replace h0 := cT h0 q1
    refine AO.guardY rfl rfl rfl q1 (AOp.move rfl rfl (ltb rfl) rfl ?_)
    refine AO.guardY rfl rfl rfl q1 (AOp.ieql rfl rfl (ltb rfl) rfl rfl ?_)
    refine AO.op rfl (AOp.pick rfl rfl (ltb rfl) rfl q1 rfl ?_)
    refine AO.op rfl (AOp.move rfl rfl (ltb rfl) rfl ?_)
    refine AO.dec (decide (a1 = (3 : Int))) (fun q2 => ?_) (fun q2 => ?_)
    · replace h0 := cT h0 q2
      refine AO.guardN rfl rfl rfl (ltb rfl) rfl q2 ?_
      refine AO.guardN rfl rfl rfl (ltb rfl) rfl q2 ?_
      refine AO.guardN rfl rfl rfl (ltb rfl) rfl q2 ?_
      refine AO.guardU rfl rfl rfl (ltb rfl) rfl ?_
      refine AO.guardU rfl rfl rfl (ltb rfl) rfl ?_
      refine AO.guardN rfl rfl rfl (ltb rfl) rfl q2 ?_
      refine AO.op rfl (AOp.pick rfl rfl (ltb rfl) rfl q2 rfl ?_)
      refine AO.nil ?_
      change AC _ _ _ _
      refine AC.condT rfl rfl ?_
      refine AC.seq ?_
      refine AC.region ?_
      refine AO.op rfl (AOp.assign rfl rfl (ltb rfl) rfl ?_)
      refine AO.nil ?_
      change AC _ _ _ _
      refine AC.ret ?_
      change RetQ _ _ _ .ret _
      obtain rfl := Option.some.inj h0
      refine retq rfl rfl
    replace h0 := cF h0 q2
    refine AO.guardY rfl rfl rfl q2 (AOp.move rfl rfl (ltb rfl) rfl ?_)
    refine AO.guardY rfl rfl rfl q2 (AOp.ieql rfl rfl (ltb rfl) rfl rfl ?_)
    refine AO.guardY rfl rfl rfl q2 (AOp.move rfl rfl (ltb rfl) rfl ?_)
    refine AO.dec (decide (a0 = (3 : Int))) (fun q3 => ?_) (fun q3 => ?_)
    · replace h0 := cT h0 q3
      refine AO.guardY rfl rfl rfl q3 (AOp.move rfl rfl (ltb rfl) rfl ?_)
      refine AO.guardY rfl rfl rfl q3 (AOp.ieql rfl rfl (ltb rfl) rfl rfl ?_)
      refine AO.guardY rfl rfl rfl q2 (AOp.pick rfl rfl (ltb rfl) rfl q3 rfl ?_)
      refine AO.op rfl (AOp.pickN rfl rfl (ltb rfl) rfl q2 rfl ?_)
      refine AO.nil ?_
      change AC _ _ _ _
      refine AC.cond rfl (fun q4 => ?_) (fun q4 => ?_)
      · replace h0 := cT h0 q4
        refine AC.seq ?_
        refine AC.region ?_
        refine AO.op rfl (AOp.assign rfl rfl (ltb rfl) rfl ?_)
        refine AO.nil ?_
        change AC _ _ _ _
        refine AC.ret ?_
        change RetQ _ _ _ .ret _
        obtain rfl := Option.some.inj h0
        refine retq rfl rfl
      replace h0 := cF h0 q4
      refine AC.skip ?_
      change AC _ _ _ _
      refine AC.seq ?_
      refine AC.region ?_
      refine AO.op rfl (AOp.move rfl rfl (ltb rfl) rfl ?_)
      refine AO.op rfl (AOp.move rfl rfl (ltb rfl) rfl ?_)
      refine AO.op rfl (AOp.imax rfl rfl (ltb rfl) rfl rfl ?_)
      refine AO.op rfl (AOp.assign rfl rfl (ltb rfl) rfl ?_)
      refine AO.nil ?_
      change AC _ _ _ _
      refine AC.ret ?_
      change RetQ _ _ _ .ret _
      obtain rfl := Option.some.inj h0
      refine retq rfl rfl
    replace h0 := cF h0 q3
    refine AO.guardN rfl rfl rfl (ltb rfl) rfl q3 ?_
    refine AO.guardN rfl rfl rfl (ltb rfl) rfl q3 ?_
    refine AO.guardY rfl rfl rfl q2 (AOp.pickN rfl rfl (ltb rfl) rfl q3 rfl ?_)
    refine AO.op rfl (AOp.pickN rfl rfl (ltb rfl) rfl q2 rfl ?_)
    refine AO.nil ?_
    change AC _ _ _ _
    refine AC.condF rfl rfl ?_
    refine AC.skip ?_
    change AC _ _ _ _
    refine AC.seq ?_
    refine AC.region ?_
    refine AO.op rfl (AOp.move rfl rfl (ltb rfl) rfl ?_)
    refine AO.op rfl (AOp.move rfl rfl (ltb rfl) rfl ?_)
    refine AO.op rfl (AOp.imax rfl rfl (ltb rfl) rfl rfl ?_)
    refine AO.op rfl (AOp.assign rfl rfl (ltb rfl) rfl ?_)
    refine AO.nil ?_
    change AC _ _ _ _
    refine AC.ret ?_
    change RetQ _ _ _ .ret _
    obtain rfl := Option.some.inj h0
    refine retq rfl rfl
  replace h0 := cF h0 q1
  refine AO.guardN rfl rfl rfl (ltb rfl) rfl q1 ?_
  refine AO.guardN rfl rfl rfl (ltb rfl) rfl q1 ?_
  refine AO.op rfl (AOp.pickN rfl rfl (ltb rfl) rfl q1 rfl ?_)
  refine AO.op rfl (AOp.move rfl rfl (ltb rfl) rfl ?_)
  refine AO.guardY rfl rfl rfl rfl (AOp.move rfl rfl (ltb rfl) rfl ?_)
  refine AO.guardY rfl rfl rfl rfl (AOp.ieql rfl rfl (ltb rfl) rfl rfl ?_)
  refine AO.guardY rfl rfl rfl rfl (AOp.move rfl rfl (ltb rfl) rfl ?_)
  refine AO.dec (decide (a0 = (3 : Int))) (fun q5 => ?_) (fun q5 => ?_)
  · replace h0 := cT h0 q5
    refine AO.guardY rfl rfl rfl q5 (AOp.move rfl rfl (ltb rfl) rfl ?_)
    refine AO.guardY rfl rfl rfl q5 (AOp.ieql rfl rfl (ltb rfl) rfl rfl ?_)
    refine AO.guardY rfl rfl rfl rfl (AOp.pick rfl rfl (ltb rfl) rfl q5 rfl ?_)
    refine AO.op rfl (AOp.pickN rfl rfl (ltb rfl) rfl rfl rfl ?_)
    refine AO.nil ?_
    change AC _ _ _ _
    refine AC.cond rfl (fun q6 => ?_) (fun q6 => ?_)
    · replace h0 := cT h0 q6
      refine AC.seq ?_
      refine AC.region ?_
      refine AO.op rfl (AOp.assign rfl rfl (ltb rfl) rfl ?_)
      refine AO.nil ?_
      change AC _ _ _ _
      refine AC.ret ?_
      change RetQ _ _ _ .ret _
      obtain rfl := Option.some.inj h0
      refine retq rfl rfl
    replace h0 := cF h0 q6
    refine AC.skip ?_
    change AC _ _ _ _
    refine AC.seq ?_
    refine AC.region ?_
    refine AO.op rfl (AOp.move rfl rfl (ltb rfl) rfl ?_)
    refine AO.op rfl (AOp.move rfl rfl (ltb rfl) rfl ?_)
    refine AO.op rfl (AOp.imax rfl rfl (ltb rfl) rfl rfl ?_)
    refine AO.op rfl (AOp.assign rfl rfl (ltb rfl) rfl ?_)
    refine AO.nil ?_
    change AC _ _ _ _
    refine AC.ret ?_
    change RetQ _ _ _ .ret _
    obtain rfl := Option.some.inj h0
    refine retq rfl rfl
  replace h0 := cF h0 q5
  refine AO.guardN rfl rfl rfl (ltb rfl) rfl q5 ?_
  refine AO.guardN rfl rfl rfl (ltb rfl) rfl q5 ?_
  refine AO.guardY rfl rfl rfl rfl (AOp.pickN rfl rfl (ltb rfl) rfl q5 rfl ?_)
  refine AO.op rfl (AOp.pickN rfl rfl (ltb rfl) rfl rfl rfl ?_)
  refine AO.nil ?_
  change AC _ _ _ _
  refine AC.condF rfl rfl ?_
  refine AC.skip ?_
  change AC _ _ _ _
  refine AC.seq ?_
  refine AC.region ?_
  refine AO.op rfl (AOp.move rfl rfl (ltb rfl) rfl ?_)
  refine AO.op rfl (AOp.move rfl rfl (ltb rfl) rfl ?_)
  refine AO.op rfl (AOp.imax rfl rfl (ltb rfl) rfl rfl ?_)
  refine AO.op rfl (AOp.assign rfl rfl (ltb rfl) rfl ?_)
  refine AO.nil ?_
  change AC _ _ _ _
  refine AC.ret ?_
  change RetQ _ _ _ .ret _
  obtain rfl := Option.some.inj h0
  refine retq rfl rfl

set_option maxRecDepth 100000 in
set_option maxHeartbeats 1000000 in
/-- pub-orthodrome/spec.BoxCover -/
theorem w_BoxCover (a0 : Int) (a1 : Int) (r0 : Int) (h0 : p_BoxCover a0 a1 = some r0) : FnD Try.prog 57 [di .i64 a0, di .i64 a1] (fun r => r = di .i64 r0) := by
  refine FnD.of (by kernel_rfl) Try.func57 rfl Try.ntmps57 rfl (leb rfl) fun W ok => ?_
  unfold p_BoxCover at h0
  refine AC.seq ?_
  refine AC.region ?_
  refine AO.op rfl (AOp.assign rfl rfl (ltb rfl) rfl ?_)
  refine AO.nil ?_
  change AC _ _ _ _
  refine AC.seq ?_
  refine AC.region ?_
  refine AO.op rfl (AOp.move rfl rfl (ltb rfl) rfl ?_)
  refine AO.op rfl (AOp.move rfl rfl (ltb rfl) rfl ?_)
  obtain ⟨y1, q2, h0⟩ := bind_elim h0
  refine AO.op rfl (AOp.callD rfl rfl (ltb rfl) rfl rfl (w_Cover a0 a1 y1 q2) ?_)
  rintro _ rfl
  refine AO.op rfl (AOp.assign rfl rfl (ltb rfl) rfl ?_)
  refine AO.nil ?_
  change AC _ _ _ _
  refine AC.ret ?_
  change RetQ _ _ _ .ret _
  obtain rfl := Option.some.inj h0
  refine retq rfl rfl

set_option maxRecDepth 100000 in
set_option maxHeartbeats 1000000 in
/-- pub-orthodrome/spec.axis -/
theorem w_axis (a0 : Int) (a1 : Int) (a2 : Int) (r0 : Int) (h0 : p_axis a0 a1 a2 = some r0) : FnD Try.prog 58 [di .i64 a0, di .i64 a1, di .i64 a2] (fun r => r = di .i64 r0) := by
  refine FnD.of (by kernel_rfl) Try.func58 rfl Try.ntmps58 rfl (leb rfl) fun W ok => ?_
  unfold p_axis at h0
  refine AC.seq ?_
  refine AC.region ?_
  refine AO.op rfl (AOp.assign rfl rfl (ltb rfl) rfl ?_)
  refine AO.nil ?_
  change AC _ _ _ _
  refine AC.seq ?_
  refine AC.seq ?_
  refine AC.region ?_
  refine AO.op rfl (AOp.move rfl rfl (ltb rfl) rfl ?_)
  refine AO.op rfl (AOp.ieql rfl rfl (ltb rfl) rfl rfl ?_)
  refine AO.op rfl (AOp.move rfl rfl (ltb rfl) rfl ?_)
  refine AO.dec (decide (a1 = (3 : Int))) (fun q1 => ?_) (fun q1 => ?_)
  · replace h0 := cT h0 q1
    refine AO.guardY rfl rfl rfl q1 (AOp.move rfl rfl (ltb rfl) rfl ?_)
    refine AO.guardY rfl rfl rfl q1 (AOp.ieql rfl rfl (ltb rfl) rfl rfl ?_)
    refine AO.op rfl (AOp.pick rfl rfl (ltb rfl) rfl q1 rfl ?_)
    refine AO.op rfl (AOp.move rfl rfl (ltb rfl) rfl ?_)
    refine AO.dec (decide (a2 = (4 : Int))) (fun q2 => ?_) (fun q2 => ?_)
    · replace h0 := cT h0 q2
      refine AO.guardY rfl rfl rfl q2 (AOp.move rfl rfl (ltb rfl) rfl ?_)
      refine AO.guardY rfl rfl rfl q2 (AOp.ieql rfl rfl (ltb rfl) rfl rfl ?_)
      refine AO.op rfl (AOp.pick rfl rfl (ltb rfl) rfl q2 rfl ?_)
      refine AO.nil ?_
      change AC _ _ _ _
      refine AC.cond rfl (fun q3 => ?_) (fun q3 => ?_)
      · replace h0 := cT h0 q3
        refine AC.seq ?_
        refine AC.region ?_
        refine AO.op rfl (AOp.assign rfl rfl (ltb rfl) rfl ?_)
        refine AO.nil ?_
        change AC _ _ _ _
        refine AC.ret ?_
        change RetQ _ _ _ .ret _
        obtain rfl := Option.some.inj h0
        refine retq rfl rfl
      replace h0 := cF h0 q3
      refine AC.skip ?_
      change AC _ _ _ _
      refine AC.seq ?_
      refine AC.region ?_
      refine AO.op rfl (AOp.move rfl rfl (ltb rfl) rfl ?_)
      refine AO.op rfl (AOp.assign rfl rfl (ltb rfl) rfl ?_)
      refine AO.nil ?_
      change AC _ _ _ _
      refine AC.ret ?_
      change RetQ _ _ _ .ret _
      obtain rfl := Option.some.inj h0
      refine retq rfl rfl
    replace h0 := cF h0 q2
    refine AO.guardN rfl rfl rfl (ltb rfl) rfl q2 ?_
    refine AO.guardN rfl rfl rfl (ltb rfl) rfl q2 ?_
    refine AO.op rfl (AOp.pickN rfl rfl (ltb rfl) rfl q2 rfl ?_)
    refine AO.nil ?_
    change AC _ _ _ _
    refine AC.condF rfl rfl ?_
    refine AC.skip ?_
    change AC _ _ _ _
    refine AC.seq ?_
    refine AC.region ?_
    refine AO.op rfl (AOp.move rfl rfl (ltb rfl) rfl ?_)
    refine AO.op rfl (AOp.assign rfl rfl (ltb rfl) rfl ?_)
    refine AO.nil ?_
    change AC _ _ _ _
    refine AC.ret ?_
    change RetQ _ _ _ .ret _
    obtain rfl := Option.some.inj h0
    refine retq rfl rfl
  replace h0 := cF h0 q1
  refine AO.guardN rfl rfl rfl (ltb rfl) rfl q1 ?_
  refine AO.guardN rfl rfl rfl (ltb rfl) rfl q1 ?_
  refine AO.op rfl (AOp.pickN rfl rfl (ltb rfl) rfl q1 rfl ?_)
  refine AO.op rfl (AOp.move rfl rfl (ltb rfl) rfl ?_)
  refine AO.guardN rfl rfl rfl (ltb rfl) rfl rfl ?_
  refine AO.guardN rfl rfl rfl (ltb rfl) rfl rfl ?_
  refine AO.op rfl (AOp.pickN rfl rfl (ltb rfl) rfl rfl rfl ?_)
  refine AO.nil ?_
  change AC _ _ _ _
  refine AC.condF rfl rfl ?_
  refine AC.skip ?_
  change AC _ _ _ _
  refine AC.seq ?_
  refine AC.region ?_
  refine AO.op rfl (AOp.move rfl rfl (ltb rfl) rfl ?_)
  refine AO.op rfl (AOp.assign rfl rfl (ltb rfl) rfl ?_)
  refine AO.nil ?_
  change AC _ _ _ _
  refine AC.ret ?_
  change RetQ _ _ _ .ret _
  obtain rfl := Option.some.inj h0
  refine retq rfl rfl

set_option maxRecDepth 100000 in
set_option maxHeartbeats 1000000 in
/-- pub-orthodrome/spec.Extend -/
theorem w_Extend (F : Nat) (a0 : TImpl_Box) (a1 : TImpl_Geom) (r0 : TImpl_Box) (h0 : p_Extend F a0 a1 = some r0) : FnD Try.prog 27 [e_TImpl_Box a0, e_TImpl_Geom a1] (fun r => r = e_TImpl_Box r0) := by
  refine FnD.of (by kernel_rfl) Try.func27 rfl Try.ntmps27 rfl (leb rfl) fun W ok => ?_
  unfold p_Extend at h0
  refine AC.seq ?_
  refine AC.region ?_
  refine AO.op rfl (AOp.box rfl rfl (ltb rfl) rfl rfl ?_)
  refine AO.op rfl (AOp.box rfl rfl (ltb rfl) rfl rfl ?_)
  refine AO.op rfl (AOp.alloc rfl rfl (ltb rfl) zero24 rfl ?_)
  refine AO.nil ?_
  change AC _ _ _ _
  refine AC.seq ?_
  refine AC.region ?_
  refine AO.op rfl (AOp.fieldAddr rfl rfl (ltb rfl) rfl fo24_0 ?_)
  refine AO.op rfl (AOp.load1 rfl rfl (ltb rfl) rfl agg3 rfl rfl ?_)
  refine AO.op rfl (AOp.fieldAddr rfl rfl (ltb rfl) rfl fo33_1 ?_)
  refine AO.op rfl (AOp.load1 rfl rfl (ltb rfl) rfl agg3 rfl rfl ?_)
  obtain ⟨y1, q2, h0⟩ := bind_elim h0
  refine AO.op rfl (AOp.callD rfl rfl (ltb rfl) rfl rfl (w_BoxCover a0.Layout a1.Layout y1 q2) ?_)
  rintro _ rfl
  refine AO.op rfl (AOp.inl [2, 3, 4] (by kernel_rfl) Try.func25 rfl Try.ntmps25 rfl rfl (ltb rfl) rfl (leb rfl) rfl ?_)
  intro fr3
  refine AC.seq ?_
  refine AC.region ?_
  refine AO.op rfl (AOp.alloc rfl rfl (ltb rfl) zero24 rfl ?_)
  refine AO.nil ?_
  change AC _ _ _ _
  refine AC.seq ?_
  refine AC.region ?_
  refine AO.op rfl (AOp.move rfl rfl (ltb rfl) rfl ?_)
  refine AO.op rfl (AOp.build rfl rfl (ltb rfl) zero24 rfl places24 rfl rfl ?_)
  refine AO.op rfl (AOp.alloc rfl rfl (ltb rfl) zero24 rfl ?_)
  refine AO.op rfl (AOp.store rfl rfl rfl rfl size24 rfl rfl rfl (leb rfl) ?_)
  refine AO.nil ?_
  change AC _ _ _ _
  refine AC.seq ?_
  refine AC.seq ?_
  refine AC.region ?_
  refine AO.op rfl (AOp.move rfl rfl (ltb rfl) rfl ?_)
  obtain ⟨y4, q5, h0⟩ := bind_elim h0
  refine AO.op rfl (AOp.callD rfl rfl (ltb rfl) rfl rfl (w_Stride y1 y4 q5) ?_)
  rintro _ rfl
  refine AO.op rfl (AOp.move rfl rfl (ltb rfl) rfl ?_)
  refine AO.nil ?_
  change AC _ _ _ _
  refine AC.adoptO 5 1 40 1 rfl rfl ?_
  refine AC.adoptO 5 2 40 1 rfl rfl ?_
  obtain ⟨o6, l7, h0⟩ := bind_elim h0
  refine AC.joinE (V := ((List Nat) × (List Nat))) [2, 3] [] 8 (fun g8 => []) (fun g8 => [.fix 24 [.d (di .i64 a0.Layout), .d (eS0 a0.Min), .d (eS0 a0.Max)], .fix 33 [.d (di .i64 a1.Kind), .d (di .i64 a1.Layout), .d (di .i64 a1.SRID), .d (eS0 a1.Flat), .d (eS3 a1.Ends), .d (eS4 a1.Endss), .d (eS2 a1.Kids)], .fix 24 [.d (di .i64 (0 : Int)), .d (.v (.slice none 0 0)), .d (.v (.slice none 0 0))], .frame fr3 [(2, .ptr 0 0), (3, .ptr 1 0), (4, .ptr 2 0)], .fix 24 [.d (di .i64 (0 : Int)), .d (.v (.slice none 0 0)), .d (.v (.slice none 0 0))], .fix 24 [.d (di .i64 y1), .own 6, .own 7], .grow 40 1 (List.map keS0 g8.1), .grow 40 1 (List.map keS0 g8.2)]) (fun g8 => (p_Extend_k1 a0 a1 F y1) g8 = some r0) rfl ?_ ?_
  · refine AC.block ?_
    refine AC.loopP (V := (Int × (List Nat) × (List Nat))) (p_Extend_l6 y4) o6 [2, 3, 7] [8] 8 (fun g54 => [(8, .d (di .i64 g54.1))]) (fun g54 => [.fix 24 [.d (di .i64 a0.Layout), .d (eS0 a0.Min), .d (eS0 a0.Max)], .fix 33 [.d (di .i64 a1.Kind), .d (di .i64 a1.Layout), .d (di .i64 a1.SRID), .d (eS0 a1.Flat), .d (eS3 a1.Ends), .d (eS4 a1.Endss), .d (eS2 a1.Kids)], .fix 24 [.d (di .i64 (0 : Int)), .d (.v (.slice none 0 0)), .d (.v (.slice none 0 0))], .frame fr3 [(2, .ptr 0 0), (3, .ptr 1 0), (4, .ptr 2 0)], .fix 24 [.d (di .i64 (0 : Int)), .d (.v (.slice none 0 0)), .d (.v (.slice none 0 0))], .fix 24 [.d (di .i64 y1), .own 6, .own 7], .grow 40 1 (List.map keS0 g54.2.1), .grow 40 1 (List.map keS0 g54.2.2)]) F ((0 : Int), [], []) l7 rfl rfl (LeL.refl _) rfl rfl ?_
    intro n56 g54 h1
    unfold p_Extend_l6 at h1
    refine AC.seq ?_
    refine AC.region ?_
    refine AO.op rfl (AOp.ilss rfl rfl (ltb rfl) rfl rfl ?_)
    refine AO.nil ?_
    change AC _ _ _ _
    refine AC.seq ?_
    refine AC.cond rfl (fun q57 => ?_) (fun q57 => ?_)
    · replace h1 := cT h1 q57
      refine AC.skip ?_
      change AC _ _ _ _
      refine AC.seq ?_
      refine AC.block ?_
      refine AC.seq ?_
      refine AC.draw 4 mixed (by kernel_rfl) ?_
      refine AD.op [3] rfl (by kernel_rfl) rfl rfl (fun _ _ h => AOp.fieldAddr rfl rfl (ltb rfl) rfl fo24_1 h) ?_
      refine AD.op [10] rfl (by kernel_rfl) rfl rfl (fun _ _ h => AOp.load1 rfl rfl (ltb rfl) rfl agg22 rfl rfl h) ?_
      obtain ⟨y58, q59, h1⟩ := bind_elim h1
      refine AD.op [] rfl (by kernel_rfl) rfl rfl (fun _ _ h => AOp.callD rfl rfl (ltb rfl) rfl rfl (w_Inf (1 : Int) y58 q59) (by rintro _ rfl; exact h)) ?_
      refine AD.op [12] rfl (by kernel_rfl) rfl rfl (fun _ _ h => AOp.buildSliceD rfl rfl (ltb rfl) el22 zero40 rfl (leb rfl) rfl rfl rfl rfl h) ?_
      refine AD.done ?_
      refine AO.subO 5 rfl (.cons (SVLe.refl _) (.cons (SVLe.any _) (.cons (SVLe.refl _) .nil))) ?_
      obtain ⟨q60, h1⟩ := need_elim h1
      refine AO.op rfl (AOp.appendOwn' (n := g54.2.1.length) (m := [y58].length) (news := (List.map keS0 [y58])) rfl rfl (ltb rfl) rfl rfl el22 info40 rfl (by decide) rfl (len1 _ _) (len1 _ _) (one1 _ (fun _ => rfl) _) q60 (by decide) rfl rfl (cat1 _ _ _) ?_)
      refine AO.op rfl (AOp.fieldAddr rfl rfl (ltb rfl) rfl fo24_1 ?_)
      refine AO.op rfl (AOp.storeOwn rfl rfl rfl rfl rfl rfl size22 rfl rfl (leb rfl) ?_)
      refine AO.nil ?_
      change AC _ _ _ _
      refine AC.draw 4 mixed (by kernel_rfl) ?_
      refine AD.op [3] rfl (by kernel_rfl) rfl rfl (fun _ _ h => AOp.fieldAddr rfl rfl (ltb rfl) rfl fo24_2 h) ?_
      refine AD.op [16] rfl (by kernel_rfl) rfl rfl (fun _ _ h => AOp.load1 rfl rfl (ltb rfl) rfl agg22 rfl rfl h) ?_
      obtain ⟨y61, q62, h1⟩ := bind_elim h1
      refine AD.op [] rfl (by kernel_rfl) rfl rfl (fun _ _ h => AOp.callD rfl rfl (ltb rfl) rfl rfl (w_Inf (-1 : Int) y61 q62) (by rintro _ rfl; exact h)) ?_
      refine AD.op [18] rfl (by kernel_rfl) rfl rfl (fun _ _ h => AOp.buildSliceD rfl rfl (ltb rfl) el22 zero40 rfl (leb rfl) rfl rfl rfl rfl h) ?_
      refine AD.done ?_
      refine AO.subO 5 rfl (.cons (SVLe.refl _) (.cons (SVLe.refl _) (.cons (SVLe.any _) .nil))) ?_
      obtain ⟨q63, h1⟩ := need_elim h1
      refine AO.op rfl (AOp.appendOwn' (n := g54.2.2.length) (m := [y61].length) (news := (List.map keS0 [y61])) rfl rfl (ltb rfl) rfl rfl el22 info40 rfl (by decide) rfl (len1 _ _) (len1 _ _) (one1 _ (fun _ => rfl) _) q63 (by decide) rfl rfl (cat1 _ _ _) ?_)
      refine AO.op rfl (AOp.fieldAddr rfl rfl (ltb rfl) rfl fo24_2 ?_)
      refine AO.op rfl (AOp.storeOwn rfl rfl rfl rfl rfl rfl size22 rfl rfl (leb rfl) ?_)
      refine AO.nil ?_
      change AC _ _ _ _
      refine AC.region ?_
      obtain ⟨q64, h1⟩ := need_elim h1
      refine AO.op rfl (AOp.iadd rfl rfl (ltb rfl) rfl rfl rfl q64.1 q64.2 ?_)
      refine AO.op rfl (AOp.move rfl rfl (ltb rfl) rfl ?_)
      refine AO.nil ?_
      exact ⟨((g54.1 + (1 : Int)), (g54.2.1 ++ [y58]), (g54.2.2 ++ [y61])), _, rfl, (LeL.refl _), rfl, rfl, h1⟩
    replace h1 := cF h1 q57
    refine AC.exit ?_
    obtain rfl := Option.some.inj h1
    exact ⟨(g54.2.1, g54.2.2), _, rfl, (LeL.refl _), rfl, rfl, aftL h0⟩
  intro g8 h0
  unfold p_Extend_k1 at h0
  change AC _ _ _ _
  refine AC.seq ?_
  refine AC.region ?_
  refine AO.op rfl (AOp.loadN rfl rfl (ltb rfl) rfl agg24 size24 rfl (leb rfl) rfl ?_)
  refine AO.op rfl (AOp.store rfl rfl rfl rfl size24 rfl rfl rfl (leb rfl) ?_)
  refine AO.nil ?_
  change AC _ _ _ _
  refine AC.ret ?_
  refine inlret (ob' := [.fix 24 [.d (di .i64 a0.Layout), .d (eS0 a0.Min), .d (eS0 a0.Max)], .fix 33 [.d (di .i64 a1.Kind), .d (di .i64 a1.Layout), .d (di .i64 a1.SRID), .d (eS0 a1.Flat), .d (eS3 a1.Ends), .d (eS4 a1.Endss), .d (eS2 a1.Kids)], .fix 24 [.d (di .i64 (0 : Int)), .d (.v (.slice none 0 0)), .d (.v (.slice none 0 0))], .dead, .fix 24 [.d (di .i64 y1), .own 6, .own 7], .fix 24 [.d (di .i64 y1), .own 6, .own 7], .grow 40 1 (List.map keS0 g8.1), .grow 40 1 (List.map keS0 g8.2)]) (e' := [(2, .ptr 0 0), (3, .ptr 1 0), (4, .ptr 2 0)]) (r := .ag [.d (di .i64 y1), .own 6, .own 7]) rfl rfl rfl ?_
  change AO _ _ _ _ _
  refine AO.op rfl (AOp.alloc rfl rfl (ltb rfl) zero24 rfl ?_)
  refine AO.op rfl (AOp.store rfl rfl rfl rfl size24 rfl rfl rfl (leb rfl) ?_)
  refine AO.nil ?_
  change AC _ _ _ _
  refine AC.seq ?_
  refine AC.seq ?_
  refine AC.region ?_
  refine AO.op rfl (AOp.fieldAddr rfl rfl (ltb rfl) rfl fo24_1 ?_)
  refine AO.op rfl (AOp.load1 rfl rfl (ltb rfl) rfl agg22 rfl rfl ?_)
  refine AO.op rfl (AOp.lenDs (n := a0.Min.length) (cells := (List.map keS0 a0.Min)) rfl rfl (ltb rfl) rfl el22 (by decide) (len1 _ _) ?_)
  refine AO.op rfl (AOp.move rfl rfl (ltb rfl) rfl ?_)
  refine AO.nil ?_
  change AC _ _ _ _
  obtain ⟨o9, l10, h0⟩ := bind_elim h0
  refine AC.joinE (V := ((List Nat) × (List Nat))) [3, 4, 5] [] 9 (fun g11 => []) (fun g11 => [.fix 24 [.d (di .i64 a0.Layout), .d (eS0 a0.Min), .d (eS0 a0.Max)], .fix 33 [.d (di .i64 a1.Kind), .d (di .i64 a1.Layout), .d (di .i64 a1.SRID), .d (eS0 a1.Flat), .d (eS3 a1.Ends), .d (eS4 a1.Endss), .d (eS2 a1.Kids)], .fix 24 [.d (di .i64 (0 : Int)), .d (.v (.slice none 0 0)), .d (.v (.slice none 0 0))], .dead, .fix 24 [.d (di .i64 y1), .own 6, .own 7], .fix 24 [.d (di .i64 y1), .own 6, .own 7], .grow 40 1 (List.map keS0 g11.1), .grow 40 1 (List.map keS0 g11.2), .fix 24 [.d (di .i64 y1), .own 6, .own 7]]) (fun g11 => (p_Extend_k2 a1 F y1) g11 = some r0) rfl ?_ ?_
  · refine AC.block ?_
    refine AC.loopP (V := (Int × (List Nat) × (List Nat))) (p_Extend_l5 a0 y1) o9 [2, 3, 4, 5, 20] [21] 9 (fun g39 => [(21, .d (di .i64 g39.1))]) (fun g39 => [.fix 24 [.d (di .i64 a0.Layout), .d (eS0 a0.Min), .d (eS0 a0.Max)], .fix 33 [.d (di .i64 a1.Kind), .d (di .i64 a1.Layout), .d (di .i64 a1.SRID), .d (eS0 a1.Flat), .d (eS3 a1.Ends), .d (eS4 a1.Endss), .d (eS2 a1.Kids)], .fix 24 [.d (di .i64 (0 : Int)), .d (.v (.slice none 0 0)), .d (.v (.slice none 0 0))], .dead, .fix 24 [.d (di .i64 y1), .own 6, .own 7], .fix 24 [.d (di .i64 y1), .own 6, .own 7], .grow 40 1 (List.map keS0 g39.2.1), .grow 40 1 (List.map keS0 g39.2.2), .fix 24 [.d (di .i64 y1), .own 6, .own 7]]) F ((0 : Int), g8.1, g8.2) l10 rfl rfl (LeL.refl _) rfl rfl ?_
    intro n41 g39 h1
    unfold p_Extend_l5 at h1
    refine AC.seq ?_
    refine AC.region ?_
    refine AO.op rfl (AOp.ilss rfl rfl (ltb rfl) rfl rfl ?_)
    refine AO.nil ?_
    change AC _ _ _ _
    refine AC.seq ?_
    refine AC.cond rfl (fun q42 => ?_) (fun q42 => ?_)
    · replace h1 := cT h1 q42
      refine AC.skip ?_
      change AC _ _ _ _
      refine AC.seq ?_
      refine AC.block ?_
      refine AC.seq ?_
      refine AC.region ?_
      refine AO.op rfl (AOp.move rfl rfl (ltb rfl) rfl ?_)
      refine AO.op rfl (AOp.assign rfl rfl (ltb rfl) rfl ?_)
      refine AO.nil ?_
      change AC _ _ _ _
      refine AC.seq ?_
      refine AC.region ?_
      refine AO.op rfl (AOp.move rfl rfl (ltb rfl) rfl ?_)
      refine AO.op rfl (AOp.fieldAddr rfl rfl (ltb rfl) rfl fo24_0 ?_)
      refine AO.op rfl (AOp.load1 rfl rfl (ltb rfl) rfl agg3 rfl rfl ?_)
      refine AO.op rfl (AOp.fieldAddr rfl rfl (ltb rfl) rfl fo24_0 ?_)
      refine AO.op rfl (AOp.load1 rfl rfl (ltb rfl) rfl agg3 rfl rfl ?_)
      obtain ⟨y43, q44, h1⟩ := bind_elim h1
      refine AO.op rfl (AOp.callD rfl rfl (ltb rfl) rfl rfl (w_axis g39.1 a0.Layout y1 y43 q44) ?_)
      rintro _ rfl
      refine AO.op rfl (AOp.assign rfl rfl (ltb rfl) rfl ?_)
      refine AO.nil ?_
      change AC _ _ _ _
      obtain ⟨x45, q46, h1⟩ := idx_elim h1
      obtain ⟨x47, q48, h1⟩ := idx_elim h1
      obtain ⟨q49, h1⟩ := need_elim h1
      obtain ⟨q50, h1⟩ := need_elim h1
      refine AC.drawS [0, 1, 2, 3, 4, 5, 6, 7, 8, 9, 10, 11, 12, 13, 14, 15, 16, 17] [17] [18, 19] (fun L => [.fix 24 [.d (di .i64 a0.Layout), .d (eS0 a0.Min), .d (eS0 a0.Max)], .fix 33 [.d (di .i64 a1.Kind), .d (di .i64 a1.Layout), .d (di .i64 a1.SRID), .d (eS0 a1.Flat), .d (eS3 a1.Ends), .d (eS4 a1.Endss), .d (eS2 a1.Kids)], .fix 24 [.d (di .i64 (0 : Int)), .d (.v (.slice none 0 0)), .d (.v (.slice none 0 0))], .dead, .fix 24 [.d (di .i64 y1), .own 6, .own 7], .fix 24 [.d (di .i64 y1), .own 6, .own 7], bif L 17 then .grow 40 1 (List.map keS0 (g39.2.1.set (y43).toNat x45)) else .grow 40 1 (List.map keS0 g39.2.1), .grow 40 1 (List.map keS0 g39.2.2), .fix 24 [.d (di .i64 y1), .own 6, .own 7]]) [(17, (fun _ => true))] mixed (by kernel_rfl) (fun L L' h => by simp only [h 17 (by decide)]) rfl ?_
      refine AS.op [5] [] [17] [] rfl rfl rfl (by kernel_rfl) (by kernel_rfl) rfl rfl (fun _ _ _ h => AOp.fieldAddr rfl rfl (ltb rfl) rfl fo24_1 h) (by kernel_rfl) ?_
      refine AS.op [30] [] [17] [] rfl rfl rfl (by kernel_rfl) (by kernel_rfl) rfl rfl (fun _ _ _ h => AOp.load1 rfl rfl (ltb rfl) rfl agg22 rfl rfl h) (by kernel_rfl) ?_
      refine AS.op [7] [] [17] [] rfl rfl rfl (by kernel_rfl) (by kernel_rfl) rfl rfl (fun _ _ _ h => AOp.move rfl rfl (ltb rfl) rfl h) (by kernel_rfl) ?_
      refine AS.op [5] [] [] [17] rfl rfl rfl (by kernel_rfl) (by kernel_rfl) rfl rfl (fun _ _ _ h => AOp.fieldAddr rfl rfl (ltb rfl) rfl fo24_2 h) (by kernel_rfl) ?_
      refine AS.op [33] [] [] [17] rfl rfl rfl (by kernel_rfl) (by kernel_rfl) rfl rfl (fun _ _ _ h => AOp.load1 rfl rfl (ltb rfl) rfl agg22 rfl rfl h) (by kernel_rfl) ?_
      refine AS.op [7] [] [] [17] rfl rfl rfl (by kernel_rfl) (by kernel_rfl) rfl rfl (fun _ _ _ h => AOp.move rfl rfl (ltb rfl) rfl h) (by kernel_rfl) ?_
      refine AS.op [2] [] [17] [] rfl rfl rfl (by kernel_rfl) (by kernel_rfl) rfl rfl (fun _ _ _ h => AOp.fieldAddr rfl rfl (ltb rfl) rfl fo24_1 h) (by kernel_rfl) ?_
      refine AS.op [36] [] [17] [] rfl rfl rfl (by kernel_rfl) (by kernel_rfl) rfl rfl (fun _ _ _ h => AOp.load1 rfl rfl (ltb rfl) rfl agg22 rfl rfl h) (by kernel_rfl) ?_
      refine AS.op [6] [] [17] [] rfl rfl rfl (by kernel_rfl) (by kernel_rfl) rfl rfl (fun _ _ _ h => AOp.move rfl rfl (ltb rfl) rfl h) (by kernel_rfl) ?_
      refine AS.op [37, 38] [] [17] [] rfl rfl rfl (by kernel_rfl) (by kernel_rfl) rfl rfl (fun _ _ _ h => AOp.indexDs (cells := (List.map keS0 a0.Min)) rfl rfl (ltb rfl) rfl rfl el22 (by decide) q46.1 (lt1 q46.2) h) (by kernel_rfl) ?_
      refine AS.op [39] [] [17] [] rfl rfl rfl (by kernel_rfl) (by kernel_rfl) rfl rfl (fun _ _ _ h => AOp.loadEp rfl rfl (ltb rfl) rfl agg40 (at1 q46.2) h) (by kernel_rfl) ?_
      refine AS.op [2] [] [17] [] rfl rfl rfl (by kernel_rfl) (by kernel_rfl) rfl rfl (fun _ _ _ h => AOp.fieldAddr rfl rfl (ltb rfl) rfl fo24_2 h) (by kernel_rfl) ?_
      refine AS.op [41] [] [17] [] rfl rfl rfl (by kernel_rfl) (by kernel_rfl) rfl rfl (fun _ _ _ h => AOp.load1 rfl rfl (ltb rfl) rfl agg22 rfl rfl h) (by kernel_rfl) ?_
      refine AS.op [6] [] [17] [] rfl rfl rfl (by kernel_rfl) (by kernel_rfl) rfl rfl (fun _ _ _ h => AOp.move rfl rfl (ltb rfl) rfl h) (by kernel_rfl) ?_
      refine AS.op [42, 43] [] [17] [] rfl rfl rfl (by kernel_rfl) (by kernel_rfl) rfl rfl (fun _ _ _ h => AOp.indexDs (cells := (List.map keS0 a0.Max)) rfl rfl (ltb rfl) rfl rfl el22 (by decide) q48.1 (lt1 q48.2) h) (by kernel_rfl) ?_
      refine AS.op [44] [] [17] [] rfl rfl rfl (by kernel_rfl) (by kernel_rfl) rfl rfl (fun _ _ _ h => AOp.loadEp rfl rfl (ltb rfl) rfl agg40 (at1 q48.2) h) (by kernel_rfl) ?_
      refine AS.op [31, 32] [] [17] [] rfl rfl rfl (by kernel_rfl) (by kernel_rfl) rfl rfl (fun _ _ _ h => AOp.indexOwn (cells := (List.map keS0 g39.2.1)) (n := g39.2.1.length) rfl rfl (ltb rfl) rfl rfl el22 rfl (by decide) (len1 _ _) q49.1 q49.2 h) (by kernel_rfl) ?_
      refine AS.mid0 [40, 46] [] [17] [] rfl rfl rfl rfl (by kernel_rfl) (by kernel_rfl) rfl rfl (fun _ _ _ h => AOp.storeOL (f := keS0) (l := g39.2.1) (i := (y43).toNat) (v := x45) rfl rfl rfl rfl size40 rfl rfl rfl q50 (AO.dropT h)) (by kernel_rfl) rfl ?_
      refine AS.done ?_
      refine AO.objs (obs' := [.fix 24 [.d (di .i64 a0.Layout), .d (eS0 a0.Min), .d (eS0 a0.Max)], .fix 33 [.d (di .i64 a1.Kind), .d (di .i64 a1.Layout), .d (di .i64 a1.SRID), .d (eS0 a1.Flat), .d (eS3 a1.Ends), .d (eS4 a1.Endss), .d (eS2 a1.Kids)], .fix 24 [.d (di .i64 (0 : Int)), .d (.v (.slice none 0 0)), .d (.v (.slice none 0 0))], .dead, .fix 24 [.d (di .i64 y1), .own 6, .own 7], .fix 24 [.d (di .i64 y1), .own 6, .own 7], .grow 40 1 (List.map keS0 (g39.2.1.set (y43).toNat x45)), .grow 40 1 (List.map keS0 g39.2.2), .fix 24 [.d (di .i64 y1), .own 6, .own 7]]) rfl ?_
      obtain ⟨q51, h1⟩ := need_elim h1
      refine AO.op rfl (AOp.indexOwn (cells := (List.map keS0 g39.2.2)) (n := g39.2.2.length) rfl rfl (ltb rfl) rfl rfl el22 rfl (by decide) (len1 _ _) q51.1 q51.2 ?_)
      obtain ⟨q52, h1⟩ := need_elim h1
      refine AO.op rfl (AOp.storeOL (f := keS0) (l := g39.2.2) (i := (y43).toNat) (v := x47) rfl rfl rfl rfl size40 rfl rfl rfl q52 ?_)
      refine AO.nil ?_
      change AC _ _ _ _
      refine AC.region ?_
      obtain ⟨q53, h1⟩ := need_elim h1
      refine AO.op rfl (AOp.iadd rfl rfl (ltb rfl) rfl rfl rfl q53.1 q53.2 ?_)
      refine AO.op rfl (AOp.move rfl rfl (ltb rfl) rfl ?_)
      refine AO.nil ?_
      exact ⟨((g39.1 + (1 : Int)), (g39.2.1.set (y43).toNat x45), (g39.2.2.set (y43).toNat x47)), _, rfl, (LeL.refl _), rfl, rfl, h1⟩
    replace h1 := cF h1 q42
    refine AC.exit ?_
    obtain rfl := Option.some.inj h1
    exact ⟨(g39.2.1, g39.2.2), _, rfl, (LeL.refl _), rfl, rfl, aftL h0⟩
  intro g11 h0
  unfold p_Extend_k2 at h0
  change AC _ _ _ _
  refine AC.seq ?_
  refine AC.region ?_
  refine AO.op rfl (AOp.fieldAddr rfl rfl (ltb rfl) rfl fo33_1 ?_)
  refine AO.op rfl (AOp.load1 rfl rfl (ltb rfl) rfl agg3 rfl rfl ?_)
  obtain ⟨y12, q13, h0⟩ := bind_elim h0
  refine AO.op rfl (AOp.callD rfl rfl (ltb rfl) rfl rfl (w_Stride a1.Layout y12 q13) ?_)
  rintro _ rfl
  refine AO.op rfl (AOp.assign rfl rfl (ltb rfl) rfl ?_)
  refine AO.nil ?_
  change AC _ _ _ _
  refine AC.seq ?_
  refine AC.seq ?_
  refine AC.region ?_
  refine AO.op rfl (AOp.fieldAddr rfl rfl (ltb rfl) rfl fo33_3 ?_)
  refine AO.op rfl (AOp.load1 rfl rfl (ltb rfl) rfl agg22 rfl rfl ?_)
  refine AO.op rfl (AOp.lenDs (n := a1.Flat.length) (cells := (List.map keS0 a1.Flat)) rfl rfl (ltb rfl) rfl el22 (by decide) (len1 _ _) ?_)
  refine AO.op rfl (AOp.move rfl rfl (ltb rfl) rfl ?_)
  refine AO.nil ?_
  change AC _ _ _ _
  obtain ⟨o14, l15, h0⟩ := bind_elim h0
  refine AC.joinE (V := ((List Nat) × (List Nat))) [4, 5] [] 9 (fun g16 => []) (fun g16 => [.fix 24 [.d (di .i64 a0.Layout), .d (eS0 a0.Min), .d (eS0 a0.Max)], .fix 33 [.d (di .i64 a1.Kind), .d (di .i64 a1.Layout), .d (di .i64 a1.SRID), .d (eS0 a1.Flat), .d (eS3 a1.Ends), .d (eS4 a1.Endss), .d (eS2 a1.Kids)], .fix 24 [.d (di .i64 (0 : Int)), .d (.v (.slice none 0 0)), .d (.v (.slice none 0 0))], .dead, .fix 24 [.d (di .i64 y1), .own 6, .own 7], .fix 24 [.d (di .i64 y1), .own 6, .own 7], .grow 40 1 (List.map keS0 g16.1), .grow 40 1 (List.map keS0 g16.2), .fix 24 [.d (di .i64 y1), .own 6, .own 7]]) (fun g16 => (p_Extend_k3 y1) g16 = some r0) rfl ?_ ?_
  · refine AC.block ?_
    refine AC.loopP (V := (Int × (List Nat) × (List Nat))) (p_Extend_l4 a1 y1 y12) o14 [3, 4, 5, 8, 53, 54] [55] 9 (fun g17 => [(55, .d (di .i64 g17.1))]) (fun g17 => [.fix 24 [.d (di .i64 a0.Layout), .d (eS0 a0.Min), .d (eS0 a0.Max)], .fix 33 [.d (di .i64 a1.Kind), .d (di .i64 a1.Layout), .d (di .i64 a1.SRID), .d (eS0 a1.Flat), .d (eS3 a1.Ends), .d (eS4 a1.Endss), .d (eS2 a1.Kids)], .fix 24 [.d (di .i64 (0 : Int)), .d (.v (.slice none 0 0)), .d (.v (.slice none 0 0))], .dead, .fix 24 [.d (di .i64 y1), .own 6, .own 7], .fix 24 [.d (di .i64 y1), .own 6, .own 7], .grow 40 1 (List.map keS0 g17.2.1), .grow 40 1 (List.map keS0 g17.2.2), .fix 24 [.d (di .i64 y1), .own 6, .own 7]]) F ((0 : Int), g11.1, g11.2) l15 rfl rfl (LeL.refl _) rfl rfl ?_
    intro n19 g17 h1
    unfold p_Extend_l4 at h1
    refine AC.seq ?_
    refine AC.region ?_
    refine AO.op rfl (AOp.ilss rfl rfl (ltb rfl) rfl rfl ?_)
    refine AO.nil ?_
    change AC _ _ _ _
    refine AC.seq ?_
    refine AC.cond rfl (fun q20 => ?_) (fun q20 => ?_)
    · replace h1 := cT h1 q20
      refine AC.skip ?_
      change AC _ _ _ _
      refine AC.seq ?_
      refine AC.block ?_
      refine AC.seq ?_
      refine AC.region ?_
      refine AO.op rfl (AOp.move rfl rfl (ltb rfl) rfl ?_)
      obtain ⟨x21, q22, h1⟩ := idx_elim h1
      refine AO.op rfl (AOp.indexDs (cells := (List.map keS0 a1.Flat)) rfl rfl (ltb rfl) rfl rfl el22 (by decide) q22.1 (lt1 q22.2) ?_)
      refine AO.op rfl (AOp.loadEp rfl rfl (ltb rfl) rfl agg40 (at1 q22.2) ?_)
      refine AO.op rfl (AOp.assign rfl rfl (ltb rfl) rfl ?_)
      refine AO.op rfl (AOp.assign rfl rfl (ltb rfl) rfl ?_)
      refine AO.nil ?_
      change AC _ _ _ _
      refine AC.seq ?_
      refine AC.draw 9 mixed (by kernel_rfl) ?_
      refine AD.op [9] rfl (by kernel_rfl) rfl rfl (fun _ _ h => AOp.move rfl rfl (ltb rfl) rfl h) ?_
      refine AD.op [8] rfl (by kernel_rfl) rfl rfl (fun _ _ h => AOp.move rfl rfl (ltb rfl) rfl h) ?_
      obtain ⟨q23, h1⟩ := need_elim h1
      refine AD.op [60, 61] rfl (by kernel_rfl) rfl rfl (fun _ _ h => AOp.irem rfl rfl (ltb rfl) rfl rfl q23 rfl h) ?_
      refine AD.op [3] rfl (by kernel_rfl) rfl rfl (fun _ _ h => AOp.fieldAddr rfl rfl (ltb rfl) rfl fo33_1 h) ?_
      refine AD.op [63] rfl (by kernel_rfl) rfl rfl (fun _ _ h => AOp.load1 rfl rfl (ltb rfl) rfl agg3 rfl rfl h) ?_
      refine AD.op [5] rfl (by kernel_rfl) rfl rfl (fun _ _ h => AOp.fieldAddr rfl rfl (ltb rfl) rfl fo24_0 h) ?_
      refine AD.op [65] rfl (by kernel_rfl) rfl rfl (fun _ _ h => AOp.load1 rfl rfl (ltb rfl) rfl agg3 rfl rfl h) ?_
      obtain ⟨y24, q25, h1⟩ := bind_elim h1
      refine AD.op [62, 64, 66] rfl (by kernel_rfl) rfl rfl (fun _ _ h => AOp.callD rfl rfl (ltb rfl) rfl rfl (w_axis (Int.tmod g17.1 y12) a1.Layout y1 y24 q25) (by rintro _ rfl; exact h)) ?_
      refine AD.op [67] rfl (by kernel_rfl) rfl rfl (fun _ _ h => AOp.assign rfl rfl (ltb rfl) rfl h) ?_
      refine AD.done ?_
      refine AO.nil ?_
      change AC _ _ _ _
      obtain ⟨q26, h1⟩ := need_elim h1
      obtain ⟨x27, q28, h1⟩ := idx_elim h1
      obtain ⟨q29, h1⟩ := need_elim h1
      obtain ⟨q30, h1⟩ := need_elim h1
      obtain ⟨x31, q32, h1⟩ := idx_elim h1
      obtain ⟨q33, h1⟩ := need_elim h1
      obtain ⟨q34, h1⟩ := need_elim h1
      obtain ⟨q35, h1⟩ := need_elim h1
      refine AC.drawS [0, 1, 2, 3, 4, 5, 6, 7, 8, 9, 10, 11, 12, 13, 14, 15, 16, 17, 18, 19, 20, 21] [21] [22, 23] (fun L => [.fix 24 [.d (di .i64 a0.Layout), .d (eS0 a0.Min), .d (eS0 a0.Max)], .fix 33 [.d (di .i64 a1.Kind), .d (di .i64 a1.Layout), .d (di .i64 a1.SRID), .d (eS0 a1.Flat), .d (eS3 a1.Ends), .d (eS4 a1.Endss), .d (eS2 a1.Kids)], .fix 24 [.d (di .i64 (0 : Int)), .d (.v (.slice none 0 0)), .d (.v (.slice none 0 0))], .dead, .fix 24 [.d (di .i64 y1), .own 6, .own 7], .fix 24 [.d (di .i64 y1), .own 6, .own 7], bif L 21 then .grow 40 1 (List.map keS0 (g17.2.1.set (y24).toNat (bmin x27 x21))) else .grow 40 1 (List.map keS0 g17.2.1), .grow 40 1 (List.map keS0 g17.2.2), .fix 24 [.d (di .i64 y1), .own 6, .own 7]]) [(21, (fun _ => true))] mixed (by kernel_rfl) (fun L L' h => by simp only [h 21 (by decide)]) rfl ?_
      refine AS.op [5] [] [21] [] rfl rfl rfl (by kernel_rfl) (by kernel_rfl) rfl rfl (fun _ _ _ h => AOp.fieldAddr rfl rfl (ltb rfl) rfl fo24_1 h) (by kernel_rfl) ?_
      refine AS.op [68] [] [21] [] rfl rfl rfl (by kernel_rfl) (by kernel_rfl) rfl rfl (fun _ _ _ h => AOp.load1 rfl rfl (ltb rfl) rfl agg22 rfl rfl h) (by kernel_rfl) ?_
      refine AS.op [11] [] [21] [] rfl rfl rfl (by kernel_rfl) (by kernel_rfl) rfl rfl (fun _ _ _ h => AOp.move rfl rfl (ltb rfl) rfl h) (by kernel_rfl) ?_
      refine AS.op [5] [] [] [21] rfl rfl rfl (by kernel_rfl) (by kernel_rfl) rfl rfl (fun _ _ _ h => AOp.fieldAddr rfl rfl (ltb rfl) rfl fo24_2 h) (by kernel_rfl) ?_
      refine AS.op [71] [] [] [21] rfl rfl rfl (by kernel_rfl) (by kernel_rfl) rfl rfl (fun _ _ _ h => AOp.load1 rfl rfl (ltb rfl) rfl agg22 rfl rfl h) (by kernel_rfl) ?_
      refine AS.op [11] [] [] [21] rfl rfl rfl (by kernel_rfl) (by kernel_rfl) rfl rfl (fun _ _ _ h => AOp.move rfl rfl (ltb rfl) rfl h) (by kernel_rfl) ?_
      refine AS.op [5] [] [21] [] rfl rfl rfl (by kernel_rfl) (by kernel_rfl) rfl rfl (fun _ _ _ h => AOp.fieldAddr rfl rfl (ltb rfl) rfl fo24_1 h) (by kernel_rfl) ?_
      refine AS.op [74] [] [21] [] rfl rfl rfl (by kernel_rfl) (by kernel_rfl) rfl rfl (fun _ _ _ h => AOp.load1 rfl rfl (ltb rfl) rfl agg22 rfl rfl h) (by kernel_rfl) ?_
      refine AS.op [11] [] [21] [] rfl rfl rfl (by kernel_rfl) (by kernel_rfl) rfl rfl (fun _ _ _ h => AOp.move rfl rfl (ltb rfl) rfl h) (by kernel_rfl) ?_
      refine AS.op [75, 76] [] [21] [] rfl rfl rfl (by kernel_rfl) (by kernel_rfl) rfl rfl (fun _ _ _ h => AOp.indexOwn (cells := (List.map keS0 g17.2.1)) (n := g17.2.1.length) rfl rfl (ltb rfl) rfl rfl el22 rfl (by decide) (len1 _ _) q26.1 q26.2 h) (by kernel_rfl) ?_
      refine AS.op [77] [] [21] [] rfl rfl rfl (by kernel_rfl) (by kernel_rfl) rfl rfl (fun _ _ _ h => AOp.loadO1 rfl rfl (ltb rfl) rfl agg40 rfl (at1 q28.2) h) (by kernel_rfl) ?_
      refine AS.op [10] [] [21] [] rfl rfl rfl (by kernel_rfl) (by kernel_rfl) rfl rfl (fun _ _ _ h => AOp.move rfl rfl (ltb rfl) rfl h) (by kernel_rfl) ?_
      refine AS.op [78, 79] [] [21] [] rfl rfl rfl (by kernel_rfl) (by kernel_rfl) rfl rfl (fun _ _ _ h => AOp.fmin rfl rfl (ltb rfl) rfl rfl q29 h) (by kernel_rfl) ?_
      refine AS.op [5] [] [21] [] rfl rfl rfl (by kernel_rfl) (by kernel_rfl) rfl rfl (fun _ _ _ h => AOp.fieldAddr rfl rfl (ltb rfl) rfl fo24_2 h) (by kernel_rfl) ?_
      refine AS.op [81] [] [21] [] rfl rfl rfl (by kernel_rfl) (by kernel_rfl) rfl rfl (fun _ _ _ h => AOp.load1 rfl rfl (ltb rfl) rfl agg22 rfl rfl h) (by kernel_rfl) ?_
      refine AS.op [11] [] [21] [] rfl rfl rfl (by kernel_rfl) (by kernel_rfl) rfl rfl (fun _ _ _ h => AOp.move rfl rfl (ltb rfl) rfl h) (by kernel_rfl) ?_
      refine AS.op [82, 83] [] [21] [] rfl rfl rfl (by kernel_rfl) (by kernel_rfl) rfl rfl (fun _ _ _ h => AOp.indexOwn (cells := (List.map keS0 g17.2.2)) (n := g17.2.2.length) rfl rfl (ltb rfl) rfl rfl el22 rfl (by decide) (len1 _ _) q30.1 q30.2 h) (by kernel_rfl) ?_
      refine AS.op [84] [] [21] [] rfl rfl rfl (by kernel_rfl) (by kernel_rfl) rfl rfl (fun _ _ _ h => AOp.loadO1 rfl rfl (ltb rfl) rfl agg40 rfl (at1 q32.2) h) (by kernel_rfl) ?_
      refine AS.op [10] [] [] [21] rfl rfl rfl (by kernel_rfl) (by kernel_rfl) rfl rfl (fun _ _ _ h => AOp.move rfl rfl (ltb rfl) rfl h) (by kernel_rfl) ?_
      refine AS.op [85, 86] [] [] [21] rfl rfl rfl (by kernel_rfl) (by kernel_rfl) rfl rfl (fun _ _ _ h => AOp.fmax rfl rfl (ltb rfl) rfl rfl q33 h) (by kernel_rfl) ?_
      refine AS.op [69, 70] [] [21] [] rfl rfl rfl (by kernel_rfl) (by kernel_rfl) rfl rfl (fun _ _ _ h => AOp.indexOwn (cells := (List.map keS0 g17.2.1)) (n := g17.2.1.length) rfl rfl (ltb rfl) rfl rfl el22 rfl (by decide) (len1 _ _) q34.1 q34.2 h) (by kernel_rfl) ?_
      refine AS.mid0 [80, 88] [] [21] [] rfl rfl rfl rfl (by kernel_rfl) (by kernel_rfl) rfl rfl (fun _ _ _ h => AOp.storeOL (f := keS0) (l := g17.2.1) (i := (y24).toNat) (v := (bmin x27 x21)) rfl rfl rfl rfl size40 rfl rfl rfl q35 (AO.dropT h)) (by kernel_rfl) rfl ?_
      refine AS.done ?_
      refine AO.objs (obs' := [.fix 24 [.d (di .i64 a0.Layout), .d (eS0 a0.Min), .d (eS0 a0.Max)], .fix 33 [.d (di .i64 a1.Kind), .d (di .i64 a1.Layout), .d (di .i64 a1.SRID), .d (eS0 a1.Flat), .d (eS3 a1.Ends), .d (eS4 a1.Endss), .d (eS2 a1.Kids)], .fix 24 [.d (di .i64 (0 : Int)), .d (.v (.slice none 0 0)), .d (.v (.slice none 0 0))], .dead, .fix 24 [.d (di .i64 y1), .own 6, .own 7], .fix 24 [.d (di .i64 y1), .own 6, .own 7], .grow 40 1 (List.map keS0 (g17.2.1.set (y24).toNat (bmin x27 x21))), .grow 40 1 (List.map keS0 g17.2.2), .fix 24 [.d (di .i64 y1), .own 6, .own 7]]) rfl ?_
      obtain ⟨q36, h1⟩ := need_elim h1
      refine AO.op rfl (AOp.indexOwn (cells := (List.map keS0 g17.2.2)) (n := g17.2.2.length) rfl rfl (ltb rfl) rfl rfl el22 rfl (by decide) (len1 _ _) q36.1 q36.2 ?_)
      obtain ⟨q37, h1⟩ := need_elim h1
      refine AO.op rfl (AOp.storeOL (f := keS0) (l := g17.2.2) (i := (y24).toNat) (v := (bmax x31 x21)) rfl rfl rfl rfl size40 rfl rfl rfl q37 ?_)
      refine AO.nil ?_
      change AC _ _ _ _
      refine AC.region ?_
      obtain ⟨q38, h1⟩ := need_elim h1
      refine AO.op rfl (AOp.iadd rfl rfl (ltb rfl) rfl rfl rfl q38.1 q38.2 ?_)
      refine AO.op rfl (AOp.move rfl rfl (ltb rfl) rfl ?_)
      refine AO.nil ?_
      exact ⟨((g17.1 + (1 : Int)), (g17.2.1.set (y24).toNat (bmin x27 x21)), (g17.2.2.set (y24).toNat (bmax x31 x21))), _, rfl, (LeL.refl _), rfl, rfl, h1⟩
    replace h1 := cF h1 q20
    refine AC.exit ?_
    obtain rfl := Option.some.inj h1
    exact ⟨(g17.2.1, g17.2.2), _, rfl, (LeL.refl _), rfl, rfl, aftL h0⟩
  intro g16 h0
  unfold p_Extend_k3 at h0
  change AC _ _ _ _
  refine AC.seq ?_
  refine AC.region ?_
  refine AO.op rfl (AOp.loadN rfl rfl (ltb rfl) rfl agg24 size24 rfl (leb rfl) rfl ?_)
  refine AO.op rfl (AOp.store rfl rfl rfl rfl size24 rfl rfl rfl (leb rfl) ?_)
  refine AO.nil ?_
  change AC _ _ _ _
  refine AC.ret ?_
  change RetQ _ _ _ .ret _
  obtain rfl := Option.some.inj h0
  refine retq rfl rfl

set_option maxRecDepth 100000 in
set_option maxHeartbeats 1000000 in
/-- pub-orthodrome/spec.SameBox -/
theorem w_SameBox (F : Nat) (a0 : TImpl_Box) (a1 : TImpl_Box) (r0 : Bool) (h0 : p_SameBox F a0 a1 = some r0) : FnD Try.prog 24 [e_TImpl_Box a0, e_TImpl_Box a1] (fun r => r = dbool r0) := by
  refine FnD.of (by kernel_rfl) Try.func24 rfl Try.ntmps24 rfl (leb rfl) fun W ok => ?_
  unfold p_SameBox at h0
  refine AC.seq ?_
  refine AC.region ?_
  refine AO.op rfl (AOp.box rfl rfl (ltb rfl) rfl rfl ?_)
  refine AO.op rfl (AOp.box rfl rfl (ltb rfl) rfl rfl ?_)
  refine AO.op rfl (AOp.assign rfl rfl (ltb rfl) rfl ?_)
  refine AO.nil ?_
  change AC _ _ _ _
  refine AC.seq ?_
  refine AC.joinP (V := Bool) [2, 3] [37] 2 (fun g1 => [(37, .d (dbool g1))]) (fun g1 => [.fix 24 [.d (di .i64 a0.Layout), .d (eS0 a0.Min), .d (eS0 a0.Max)], .fix 24 [.d (di .i64 a1.Layout), .d (eS0 a1.Min), .d (eS0 a1.Max)]]) (fun g1 => (p_SameBox_k1 a0 a1 F) g1 = some r0) rfl ?_ ?_
  · refine AC.region ?_
    refine AO.op rfl (AOp.fieldAddr rfl rfl (ltb rfl) rfl fo24_0 ?_)
    refine AO.op rfl (AOp.load1 rfl rfl (ltb rfl) rfl agg3 rfl rfl ?_)
    refine AO.op rfl (AOp.fieldAddr rfl rfl (ltb rfl) rfl fo24_0 ?_)
    refine AO.op rfl (AOp.load1 rfl rfl (ltb rfl) rfl agg3 rfl rfl ?_)
    refine AO.op rfl (AOp.ineq rfl rfl (ltb rfl) rfl rfl ?_)
    refine AO.op rfl (AOp.move rfl rfl (ltb rfl) rfl ?_)
    refine AO.dec (!decide (a0.Layout = a1.Layout)) (fun q21 => ?_) (fun q21 => ?_)
    · replace h0 := cT h0 q21
      refine AO.guardN rfl rfl rfl (ltb rfl) rfl q21 ?_
      refine AO.guardN rfl rfl rfl (ltb rfl) rfl q21 ?_
      refine AO.guardN rfl rfl rfl (ltb rfl) rfl q21 ?_
      refine AO.guardN rfl rfl rfl (ltb rfl) rfl q21 ?_
      refine AO.guardN rfl rfl rfl (ltb rfl) rfl q21 ?_
      refine AO.guardN rfl rfl rfl (ltb rfl) rfl q21 ?_
      refine AO.guardN rfl rfl rfl (ltb rfl) rfl q21 ?_
      refine AO.op rfl (AOp.pick rfl rfl (ltb rfl) rfl q21 rfl ?_)
      refine AO.op rfl (AOp.move rfl rfl (ltb rfl) rfl ?_)
      refine AO.guardN rfl rfl rfl (ltb rfl) rfl rfl ?_
      refine AO.guardN rfl rfl rfl (ltb rfl) rfl rfl ?_
      refine AO.guardN rfl rfl rfl (ltb rfl) rfl rfl ?_
      refine AO.guardN rfl rfl rfl (ltb rfl) rfl rfl ?_
      refine AO.guardN rfl rfl rfl (ltb rfl) rfl rfl ?_
      refine AO.guardN rfl rfl rfl (ltb rfl) rfl rfl ?_
      refine AO.guardN rfl rfl rfl (ltb rfl) rfl rfl ?_
      refine AO.op rfl (AOp.pick rfl rfl (ltb rfl) rfl rfl rfl ?_)
      refine AO.op rfl (AOp.move rfl rfl (ltb rfl) rfl ?_)
      refine AO.guardN rfl rfl rfl (ltb rfl) rfl rfl ?_
      refine AO.guardN rfl rfl rfl (ltb rfl) rfl rfl ?_
      refine AO.guardN rfl rfl rfl (ltb rfl) rfl rfl ?_
      refine AO.guardN rfl rfl rfl (ltb rfl) rfl rfl ?_
      refine AO.guardN rfl rfl rfl (ltb rfl) rfl rfl ?_
      refine AO.guardN rfl rfl rfl (ltb rfl) rfl rfl ?_
      refine AO.guardN rfl rfl rfl (ltb rfl) rfl rfl ?_
      refine AO.op rfl (AOp.pick rfl rfl (ltb rfl) rfl rfl rfl ?_)
      refine AO.nil ?_
      exact ⟨true, _, rfl, (LeL.refl _), rfl, rfl, h0⟩
    replace h0 := cF h0 q21
    refine AO.guardY rfl rfl rfl q21 (AOp.fieldAddr rfl rfl (ltb rfl) rfl fo24_1 ?_)
    refine AO.guardY rfl rfl rfl q21 (AOp.load1 rfl rfl (ltb rfl) rfl agg22 rfl rfl ?_)
    refine AO.guardY rfl rfl rfl q21 (AOp.lenDs (n := a0.Min.length) (cells := (List.map keS0 a0.Min)) rfl rfl (ltb rfl) rfl el22 (by decide) (len1 _ _) ?_)
    refine AO.guardY rfl rfl rfl q21 (AOp.fieldAddr rfl rfl (ltb rfl) rfl fo24_1 ?_)
    refine AO.guardY rfl rfl rfl q21 (AOp.load1 rfl rfl (ltb rfl) rfl agg22 rfl rfl ?_)
    refine AO.guardY rfl rfl rfl q21 (AOp.lenDs (n := a1.Min.length) (cells := (List.map keS0 a1.Min)) rfl rfl (ltb rfl) rfl el22 (by decide) (len1 _ _) ?_)
    refine AO.guardY rfl rfl rfl q21 (AOp.ineq rfl rfl (ltb rfl) rfl rfl ?_)
    refine AO.op rfl (AOp.pickN rfl rfl (ltb rfl) rfl q21 rfl ?_)
    refine AO.op rfl (AOp.move rfl rfl (ltb rfl) rfl ?_)
    refine AO.dec (!decide (((a0.Min.length : Nat) : Int) = ((a1.Min.length : Nat) : Int))) (fun q22 => ?_) (fun q22 => ?_)
    · replace h0 := cT h0 q22
      refine AO.guardN rfl rfl rfl (ltb rfl) rfl q22 ?_
      refine AO.guardN rfl rfl rfl (ltb rfl) rfl q22 ?_
      refine AO.guardN rfl rfl rfl (ltb rfl) rfl q22 ?_
      refine AO.guardN rfl rfl rfl (ltb rfl) rfl q22 ?_
      refine AO.guardN rfl rfl rfl (ltb rfl) rfl q22 ?_
      refine AO.guardN rfl rfl rfl (ltb rfl) rfl q22 ?_
      refine AO.guardN rfl rfl rfl (ltb rfl) rfl q22 ?_
      refine AO.op rfl (AOp.pick rfl rfl (ltb rfl) rfl q22 rfl ?_)
      refine AO.op rfl (AOp.move rfl rfl (ltb rfl) rfl ?_)
      refine AO.guardN rfl rfl rfl (ltb rfl) rfl rfl ?_
      refine AO.guardN rfl rfl rfl (ltb rfl) rfl rfl ?_
      refine AO.guardN rfl rfl rfl (ltb rfl) rfl rfl ?_
      refine AO.guardN rfl rfl rfl (ltb rfl) rfl rfl ?_
      refine AO.guardN rfl rfl rfl (ltb rfl) rfl rfl ?_
      refine AO.guardN rfl rfl rfl (ltb rfl) rfl rfl ?_
      refine AO.guardN rfl rfl rfl (ltb rfl) rfl rfl ?_
      refine AO.op rfl (AOp.pick rfl rfl (ltb rfl) rfl rfl rfl ?_)
      refine AO.nil ?_
      exact ⟨true, _, rfl, (LeL.refl _), rfl, rfl, h0⟩
    replace h0 := cF h0 q22
    refine AO.guardY rfl rfl rfl q22 (AOp.fieldAddr rfl rfl (ltb rfl) rfl fo24_2 ?_)
    refine AO.guardY rfl rfl rfl q22 (AOp.load1 rfl rfl (ltb rfl) rfl agg22 rfl rfl ?_)
    refine AO.guardY rfl rfl rfl q22 (AOp.lenDs (n := a0.Max.length) (cells := (List.map keS0 a0.Max)) rfl rfl (ltb rfl) rfl el22 (by decide) (len1 _ _) ?_)
    refine AO.guardY rfl rfl rfl q22 (AOp.fieldAddr rfl rfl (ltb rfl) rfl fo24_2 ?_)
    refine AO.guardY rfl rfl rfl q22 (AOp.load1 rfl rfl (ltb rfl) rfl agg22 rfl rfl ?_)
    refine AO.guardY rfl rfl rfl q22 (AOp.lenDs (n := a1.Max.length) (cells := (List.map keS0 a1.Max)) rfl rfl (ltb rfl) rfl el22 (by decide) (len1 _ _) ?_)
    refine AO.guardY rfl rfl rfl q22 (AOp.ineq rfl rfl (ltb rfl) rfl rfl ?_)
    refine AO.op rfl (AOp.pickN rfl rfl (ltb rfl) rfl q22 rfl ?_)
    refine AO.op rfl (AOp.move rfl rfl (ltb rfl) rfl ?_)
    refine AO.dec (!decide (((a0.Max.length : Nat) : Int) = ((a1.Max.length : Nat) : Int))) (fun q23 => ?_) (fun q23 => ?_)
    · replace h0 := cT h0 q23
      refine AO.guardN rfl rfl rfl (ltb rfl) rfl q23 ?_
      refine AO.guardN rfl rfl rfl (ltb rfl) rfl q23 ?_
      refine AO.guardN rfl rfl rfl (ltb rfl) rfl q23 ?_
      refine AO.guardN rfl rfl rfl (ltb rfl) rfl q23 ?_
      refine AO.guardN rfl rfl rfl (ltb rfl) rfl q23 ?_
      refine AO.guardN rfl rfl rfl (ltb rfl) rfl q23 ?_
      refine AO.guardN rfl rfl rfl (ltb rfl) rfl q23 ?_
      refine AO.op rfl (AOp.pick rfl rfl (ltb rfl) rfl q23 rfl ?_)
      refine AO.nil ?_
      exact ⟨true, _, rfl, (LeL.refl _), rfl, rfl, h0⟩
    replace h0 := cF h0 q23
    refine AO.guardY rfl rfl rfl q23 (AOp.fieldAddr rfl rfl (ltb rfl) rfl fo24_1 ?_)
    refine AO.guardY rfl rfl rfl q23 (AOp.load1 rfl rfl (ltb rfl) rfl agg22 rfl rfl ?_)
    refine AO.guardY rfl rfl rfl q23 (AOp.lenDs (n := a0.Min.length) (cells := (List.map keS0 a0.Min)) rfl rfl (ltb rfl) rfl el22 (by decide) (len1 _ _) ?_)
    refine AO.guardY rfl rfl rfl q23 (AOp.fieldAddr rfl rfl (ltb rfl) rfl fo24_2 ?_)
    refine AO.guardY rfl rfl rfl q23 (AOp.load1 rfl rfl (ltb rfl) rfl agg22 rfl rfl ?_)
    refine AO.guardY rfl rfl rfl q23 (AOp.lenDs (n := a0.Max.length) (cells := (List.map keS0 a0.Max)) rfl rfl (ltb rfl) rfl el22 (by decide) (len1 _ _) ?_)
    refine AO.guardY rfl rfl rfl q23 (AOp.ineq rfl rfl (ltb rfl) rfl rfl ?_)
    refine AO.op rfl (AOp.pickN rfl rfl (ltb rfl) rfl q23 rfl ?_)
    refine AO.nil ?_
    exact ⟨(!decide (((a0.Min.length : Nat) : Int) = ((a0.Max.length : Nat) : Int))), _, rfl, (LeL.refl _), rfl, rfl, h0⟩
  intro g1 h0
  unfold p_SameBox_k1 at h0
  refine AC.cond rfl (fun q2 => ?_) (fun q2 => ?_)
  · replace h0 := cT h0 q2
    refine AC.seq ?_
    refine AC.region ?_
    refine AO.op rfl (AOp.assign rfl rfl (ltb rfl) rfl ?_)
    refine AO.nil ?_
    change AC _ _ _ _
    refine AC.ret ?_
    change RetQ _ _ _ .ret _
    obtain rfl := Option.some.inj h0
    refine retq rfl rfl
  replace h0 := cF h0 q2
  refine AC.skip ?_
  change AC _ _ _ _
  refine AC.seq ?_
  refine AC.seq ?_
  refine AC.region ?_
  refine AO.op rfl (AOp.fieldAddr rfl rfl (ltb rfl) rfl fo24_1 ?_)
  refine AO.op rfl (AOp.load1 rfl rfl (ltb rfl) rfl agg22 rfl rfl ?_)
  refine AO.op rfl (AOp.lenDs (n := a0.Min.length) (cells := (List.map keS0 a0.Min)) rfl rfl (ltb rfl) rfl el22 (by decide) (len1 _ _) ?_)
  refine AO.op rfl (AOp.move rfl rfl (ltb rfl) rfl ?_)
  refine AO.nil ?_
  change AC _ _ _ _
  obtain ⟨o3, l4, h0⟩ := bind_elim h0
  refine AC.joinE (V := Unit) [] [] 2 (fun g5 => []) (fun g5 => [.fix 24 [.d (di .i64 a0.Layout), .d (eS0 a0.Min), .d (eS0 a0.Max)], .fix 24 [.d (di .i64 a1.Layout), .d (eS0 a1.Min), .d (eS0 a1.Max)]]) (fun g5 => p_SameBox_k2 g5 = some r0) rfl ?_ ?_
  · refine AC.block ?_
    refine AC.loopP (V := Int) (p_SameBox_l3 a0 a1) o3 [2, 3, 40] [41] 2 (fun g6 => [(41, .d (di .i64 g6))]) (fun g6 => [.fix 24 [.d (di .i64 a0.Layout), .d (eS0 a0.Min), .d (eS0 a0.Max)], .fix 24 [.d (di .i64 a1.Layout), .d (eS0 a1.Min), .d (eS0 a1.Max)]]) F (0 : Int) l4 rfl rfl (LeL.refl _) rfl rfl ?_
    intro n8 g6 h1
    unfold p_SameBox_l3 at h1
    refine AC.seq ?_
    refine AC.region ?_
    refine AO.op rfl (AOp.ilss rfl rfl (ltb rfl) rfl rfl ?_)
    refine AO.nil ?_
    change AC _ _ _ _
    refine AC.seq ?_
    refine AC.cond rfl (fun q9 => ?_) (fun q9 => ?_)
    · replace h1 := cT h1 q9
      refine AC.skip ?_
      change AC _ _ _ _
      refine AC.seq ?_
      refine AC.block ?_
      refine AC.seq ?_
      refine AC.region ?_
      refine AO.op rfl (AOp.move rfl rfl (ltb rfl) rfl ?_)
      refine AO.op rfl (AOp.assign rfl rfl (ltb rfl) rfl ?_)
      refine AO.nil ?_
      change AC _ _ _ _
      refine AC.seq ?_
      refine AC.draw 24 mixed (by kernel_rfl) ?_
      refine AD.op [2] rfl (by kernel_rfl) rfl rfl (fun _ _ h => AOp.fieldAddr rfl rfl (ltb rfl) rfl fo24_1 h) ?_
      refine AD.op [44] rfl (by kernel_rfl) rfl rfl (fun _ _ h => AOp.load1 rfl rfl (ltb rfl) rfl agg22 rfl rfl h) ?_
      refine AD.op [5] rfl (by kernel_rfl) rfl rfl (fun _ _ h => AOp.move rfl rfl (ltb rfl) rfl h) ?_
      obtain ⟨x10, q11, h1⟩ := idx_elim h1
      refine AD.op [45, 46] rfl (by kernel_rfl) rfl rfl (fun _ _ h => AOp.indexDs (cells := (List.map keS0 a0.Min)) rfl rfl (ltb rfl) rfl rfl el22 (by decide) q11.1 (lt1 q11.2) h) ?_
      refine AD.op [47] rfl (by kernel_rfl) rfl rfl (fun _ _ h => AOp.loadEp rfl rfl (ltb rfl) rfl agg40 (at1 q11.2) h) ?_
      refine AD.op [3] rfl (by kernel_rfl) rfl rfl (fun _ _ h => AOp.fieldAddr rfl rfl (ltb rfl) rfl fo24_1 h) ?_
      refine AD.op [49] rfl (by kernel_rfl) rfl rfl (fun _ _ h => AOp.load1 rfl rfl (ltb rfl) rfl agg22 rfl rfl h) ?_
      refine AD.op [5] rfl (by kernel_rfl) rfl rfl (fun _ _ h => AOp.move rfl rfl (ltb rfl) rfl h) ?_
      obtain ⟨x12, q13, h1⟩ := idx_elim h1
      refine AD.op [50, 51] rfl (by kernel_rfl) rfl rfl (fun _ _ h => AOp.indexDs (cells := (List.map keS0 a1.Min)) rfl rfl (ltb rfl) rfl rfl el22 (by decide) q13.1 (lt1 q13.2) h) ?_
      refine AD.op [52] rfl (by kernel_rfl) rfl rfl (fun _ _ h => AOp.loadEp rfl rfl (ltb rfl) rfl agg40 (at1 q13.2) h) ?_
      refine AD.op [48, 53] rfl (by kernel_rfl) rfl rfl (fun _ _ h => AOp.fneq rfl rfl (ltb rfl) rfl rfl h) ?_
      refine AD.op [54] rfl (by kernel_rfl) rfl rfl (fun _ _ h => AOp.move rfl rfl (ltb rfl) rfl h) ?_
      refine AD.dec (!feq x10 x12) (fun q14 => ?_) (fun q14 => ?_)
      · replace h1 := cT h1 q14
        refine AD.opN rfl rfl rfl (ltb rfl) rfl q14 ?_
        refine AD.opN rfl rfl rfl (ltb rfl) rfl q14 ?_
        refine AD.opN rfl rfl rfl (ltb rfl) rfl q14 ?_
        refine AD.opN rfl rfl rfl (ltb rfl) rfl q14 ?_
        refine AD.opN rfl rfl rfl (ltb rfl) rfl q14 ?_
        refine AD.opN rfl rfl rfl (ltb rfl) rfl q14 ?_
        refine AD.opN rfl rfl rfl (ltb rfl) rfl q14 ?_
        refine AD.opN rfl rfl rfl (ltb rfl) rfl q14 ?_
        refine AD.opN rfl rfl rfl (ltb rfl) rfl q14 ?_
        refine AD.opN rfl rfl rfl (ltb rfl) rfl q14 ?_
        refine AD.opN rfl rfl rfl (ltb rfl) rfl q14 ?_
        refine AD.op [55, 66] rfl (by kernel_rfl) rfl rfl (fun _ _ h => AOp.pick rfl rfl (ltb rfl) rfl q14 rfl h) ?_
        refine AD.done ?_
        refine AO.nil ?_
        change AC _ _ _ _
        refine AC.condT rfl rfl ?_
        refine AC.seq ?_
        refine AC.region ?_
        refine AO.op rfl (AOp.assign rfl rfl (ltb rfl) rfl ?_)
        refine AO.nil ?_
        change AC _ _ _ _
        refine AC.ret ?_
        change RetQ _ _ _ .ret _
        obtain rfl := Option.some.inj h1
        replace h0 := aftR h0
        obtain rfl := Option.some.inj h0
        refine retq rfl rfl
      replace h1 := cF h1 q14
      refine AD.opY [2, 55] rfl rfl rfl q14 (by kernel_rfl) rfl rfl (fun _ _ h => AOp.fieldAddr rfl rfl (ltb rfl) rfl fo24_2 h) ?_
      refine AD.opY [55, 56] rfl rfl rfl q14 (by kernel_rfl) rfl rfl (fun _ _ h => AOp.load1 rfl rfl (ltb rfl) rfl agg22 rfl rfl h) ?_
      refine AD.opY [5, 55] rfl rfl rfl q14 (by kernel_rfl) rfl rfl (fun _ _ h => AOp.move rfl rfl (ltb rfl) rfl h) ?_
      obtain ⟨x15, q16, h1⟩ := idx_elim h1
      refine AD.opY [55, 57, 58] rfl rfl rfl q14 (by kernel_rfl) rfl rfl (fun _ _ h => AOp.indexDs (cells := (List.map keS0 a0.Max)) rfl rfl (ltb rfl) rfl rfl el22 (by decide) q16.1 (lt1 q16.2) h) ?_
      refine AD.opY [55, 59] rfl rfl rfl q14 (by kernel_rfl) rfl rfl (fun _ _ h => AOp.loadEp rfl rfl (ltb rfl) rfl agg40 (at1 q16.2) h) ?_
      refine AD.opY [3, 55] rfl rfl rfl q14 (by kernel_rfl) rfl rfl (fun _ _ h => AOp.fieldAddr rfl rfl (ltb rfl) rfl fo24_2 h) ?_
      refine AD.opY [55, 61] rfl rfl rfl q14 (by kernel_rfl) rfl rfl (fun _ _ h => AOp.load1 rfl rfl (ltb rfl) rfl agg22 rfl rfl h) ?_
      refine AD.opY [5, 55] rfl rfl rfl q14 (by kernel_rfl) rfl rfl (fun _ _ h => AOp.move rfl rfl (ltb rfl) rfl h) ?_
      obtain ⟨x17, q18, h1⟩ := idx_elim h1
      refine AD.opY [55, 62, 63] rfl rfl rfl q14 (by kernel_rfl) rfl rfl (fun _ _ h => AOp.indexDs (cells := (List.map keS0 a1.Max)) rfl rfl (ltb rfl) rfl rfl el22 (by decide) q18.1 (lt1 q18.2) h) ?_
      refine AD.opY [55, 64] rfl rfl rfl q14 (by kernel_rfl) rfl rfl (fun _ _ h => AOp.loadEp rfl rfl (ltb rfl) rfl agg40 (at1 q18.2) h) ?_
      refine AD.opY [55, 60, 65] rfl rfl rfl q14 (by kernel_rfl) rfl rfl (fun _ _ h => AOp.fneq rfl rfl (ltb rfl) rfl rfl h) ?_
      refine AD.op [55, 66] rfl (by kernel_rfl) rfl rfl (fun _ _ h => AOp.pickN rfl rfl (ltb rfl) rfl q14 rfl h) ?_
      refine AD.done ?_
      refine AO.nil ?_
      change AC _ _ _ _
      refine AC.cond rfl (fun q19 => ?_) (fun q19 => ?_)
      · replace h1 := cT h1 q19
        refine AC.seq ?_
        refine AC.region ?_
        refine AO.op rfl (AOp.assign rfl rfl (ltb rfl) rfl ?_)
        refine AO.nil ?_
        change AC _ _ _ _
        refine AC.ret ?_
        change RetQ _ _ _ .ret _
        obtain rfl := Option.some.inj h1
        replace h0 := aftR h0
        obtain rfl := Option.some.inj h0
        refine retq rfl rfl
      replace h1 := cF h1 q19
      refine AC.skip ?_
      change AC _ _ _ _
      refine AC.region ?_
      obtain ⟨q20, h1⟩ := need_elim h1
      refine AO.op rfl (AOp.iadd rfl rfl (ltb rfl) rfl rfl rfl q20.1 q20.2 ?_)
      refine AO.op rfl (AOp.move rfl rfl (ltb rfl) rfl ?_)
      refine AO.nil ?_
      exact ⟨(g6 + (1 : Int)), _, rfl, (LeL.refl _), rfl, rfl, h1⟩
    replace h1 := cF h1 q9
    refine AC.exit ?_
    obtain rfl := Option.some.inj h1
    exact ⟨(), _, rfl, (LeL.refl _), rfl, rfl, aftL h0⟩
  intro g5 h0
  unfold p_SameBox_k2 at h0
  change AC _ _ _ _
  refine AC.seq ?_
  refine AC.region ?_
  refine AO.op rfl (AOp.assign rfl rfl (ltb rfl) rfl ?_)
  refine AO.nil ?_
  change AC _ _ _ _
  refine AC.ret ?_
  change RetQ _ _ _ .ret _
  obtain rfl := Option.some.inj h0
  refine retq rfl rfl

set_option maxRecDepth 100000 in
set_option maxHeartbeats 1000000 in
/-- pub-orthodrome/laws.FnBoxExtendLayout -/
theorem w_FnBoxExtendLayout (F : Nat) (a0 : TImpl_Box) (a1 : Int) (r0 : Bool) (h0 : p_FnBoxExtendLayout F a0 a1 = some r0) : FnD Try.prog 7 [e_TImpl_Box a0, di .i64 a1] (fun r => r = dbool r0) := by
  refine FnD.of (by kernel_rfl) Try.func7 rfl Try.ntmps7 rfl (leb rfl) fun W ok => ?_
  unfold p_FnBoxExtendLayout at h0
  refine AC.seq ?_
  refine AC.region ?_
  refine AO.op rfl (AOp.box rfl rfl (ltb rfl) rfl rfl ?_)
  refine AO.op rfl (AOp.assign rfl rfl (ltb rfl) rfl ?_)
  refine AO.nil ?_
  change AC _ _ _ _
  refine AC.seq ?_
  refine AC.seq ?_
  refine AC.region ?_
  refine AO.op rfl (AOp.loadN rfl rfl (ltb rfl) rfl agg24 size24 rfl (leb rfl) rfl ?_)
  obtain ⟨y1, q2, h0⟩ := bind_elim h0
  refine AO.op rfl (AOp.callD rfl rfl (ltb rfl) rfl rfl (w_zzFits1 a0 y1 q2) ?_)
  rintro _ rfl
  refine AO.op rfl (AOp.bnot rfl rfl (ltb rfl) rfl ?_)
  refine AO.nil ?_
  change AC _ _ _ _
  refine AC.cond rfl (fun q3 => ?_) (fun q3 => ?_)
  · replace h0 := cT h0 q3
    refine AC.seq ?_
    refine AC.region ?_
    refine AO.op rfl (AOp.assign rfl rfl (ltb rfl) rfl ?_)
    refine AO.nil ?_
    change AC _ _ _ _
    refine AC.ret ?_
    change RetQ _ _ _ .ret _
    obtain rfl := Option.some.inj h0
    refine retq rfl rfl
  replace h0 := cF h0 q3
  refine AC.skip ?_
  change AC _ _ _ _
  refine AC.seq ?_
  refine AC.joinP (V := Bool) [1, 2] [26] 1 (fun g4 => [(26, .d (dbool g4))]) (fun g4 => [.fix 24 [.d (di .i64 a0.Layout), .d (eS0 a0.Min), .d (eS0 a0.Max)]]) (fun g4 => (p_FnBoxExtendLayout_k1 a0 a1 F) g4 = some r0) rfl ?_ ?_
  · refine AC.region ?_
    refine AO.op rfl (AOp.loadN rfl rfl (ltb rfl) rfl agg24 size24 rfl (leb rfl) rfl ?_)
    refine AO.op rfl (AOp.buildSliceD rfl rfl (ltb rfl) el75 zero24 rfl (leb rfl) rfl rfl rfl rfl ?_)
    obtain ⟨y13, q14, h0⟩ := bind_elim h0
    refine AO.op rfl (AOp.callD rfl rfl (ltb rfl) rfl rfl (w_bBox F [a0] y13 q14) ?_)
    rintro _ rfl
    refine AO.op rfl (AOp.bnot rfl rfl (ltb rfl) rfl ?_)
    refine AO.op rfl (AOp.move rfl rfl (ltb rfl) rfl ?_)
    refine AO.dec (!y13) (fun q15 => ?_) (fun q15 => ?_)
    · replace h0 := cT h0 q15
      refine AO.guardN rfl rfl rfl (ltb rfl) rfl q15 ?_
      refine AO.guardN rfl rfl rfl (ltb rfl) rfl q15 ?_
      refine AO.guardN rfl rfl rfl (ltb rfl) rfl q15 ?_
      refine AO.op rfl (AOp.pick rfl rfl (ltb rfl) rfl q15 rfl ?_)
      refine AO.op rfl (AOp.move rfl rfl (ltb rfl) rfl ?_)
      refine AO.guardN rfl rfl rfl (ltb rfl) rfl rfl ?_
      refine AO.guardN rfl rfl rfl (ltb rfl) rfl rfl ?_
      refine AO.op rfl (AOp.pick rfl rfl (ltb rfl) rfl rfl rfl ?_)
      refine AO.op rfl (AOp.move rfl rfl (ltb rfl) rfl ?_)
      refine AO.guardN rfl rfl rfl (ltb rfl) rfl rfl ?_
      refine AO.guardN rfl rfl rfl (ltb rfl) rfl rfl ?_
      refine AO.op rfl (AOp.pick rfl rfl (ltb rfl) rfl rfl rfl ?_)
      refine AO.nil ?_
      exact ⟨true, _, rfl, (LeL.refl _), rfl, rfl, h0⟩
    replace h0 := cF h0 q15
    refine AO.guardY rfl rfl rfl q15 (AOp.fieldAddr rfl rfl (ltb rfl) rfl fo24_0 ?_)
    refine AO.guardY rfl rfl rfl q15 (AOp.load1 rfl rfl (ltb rfl) rfl agg3 rfl rfl ?_)
    refine AO.guardY rfl rfl rfl q15 (AOp.igtr rfl rfl (ltb rfl) rfl rfl ?_)
    refine AO.op rfl (AOp.pickN rfl rfl (ltb rfl) rfl q15 rfl ?_)
    refine AO.op rfl (AOp.move rfl rfl (ltb rfl) rfl ?_)
    refine AO.dec (decide ((4 : Int) < a0.Layout)) (fun q16 => ?_) (fun q16 => ?_)
    · replace h0 := cT h0 q16
      refine AO.guardN rfl rfl rfl (ltb rfl) rfl q16 ?_
      refine AO.guardN rfl rfl rfl (ltb rfl) rfl q16 ?_
      refine AO.op rfl (AOp.pick rfl rfl (ltb rfl) rfl q16 rfl ?_)
      refine AO.op rfl (AOp.move rfl rfl (ltb rfl) rfl ?_)
      refine AO.guardN rfl rfl rfl (ltb rfl) rfl rfl ?_
      refine AO.guardN rfl rfl rfl (ltb rfl) rfl rfl ?_
      refine AO.op rfl (AOp.pick rfl rfl (ltb rfl) rfl rfl rfl ?_)
      refine AO.nil ?_
      exact ⟨true, _, rfl, (LeL.refl _), rfl, rfl, h0⟩
    replace h0 := cF h0 q16
    refine AO.guardY rfl rfl rfl q16 (AOp.move rfl rfl (ltb rfl) rfl ?_)
    refine AO.guardY rfl rfl rfl q16 (AOp.ilss rfl rfl (ltb rfl) rfl rfl ?_)
    refine AO.op rfl (AOp.pickN rfl rfl (ltb rfl) rfl q16 rfl ?_)
    refine AO.op rfl (AOp.move rfl rfl (ltb rfl) rfl ?_)
    refine AO.dec (decide (a1 < (1 : Int))) (fun q17 => ?_) (fun q17 => ?_)
    · replace h0 := cT h0 q17
      refine AO.guardN rfl rfl rfl (ltb rfl) rfl q17 ?_
      refine AO.guardN rfl rfl rfl (ltb rfl) rfl q17 ?_
      refine AO.op rfl (AOp.pick rfl rfl (ltb rfl) rfl q17 rfl ?_)
      refine AO.nil ?_
      exact ⟨true, _, rfl, (LeL.refl _), rfl, rfl, h0⟩
    replace h0 := cF h0 q17
    refine AO.guardY rfl rfl rfl q17 (AOp.move rfl rfl (ltb rfl) rfl ?_)
    refine AO.guardY rfl rfl rfl q17 (AOp.igtr rfl rfl (ltb rfl) rfl rfl ?_)
    refine AO.op rfl (AOp.pickN rfl rfl (ltb rfl) rfl q17 rfl ?_)
    refine AO.nil ?_
    exact ⟨(decide ((4 : Int) < a1)), _, rfl, (LeL.refl _), rfl, rfl, h0⟩
  intro g4 h0
  unfold p_FnBoxExtendLayout_k1 at h0
  refine AC.cond rfl (fun q5 => ?_) (fun q5 => ?_)
  · replace h0 := cT h0 q5
    refine AC.seq ?_
    refine AC.region ?_
    refine AO.op rfl (AOp.assign rfl rfl (ltb rfl) rfl ?_)
    refine AO.nil ?_
    change AC _ _ _ _
    refine AC.ret ?_
    change RetQ _ _ _ .ret _
    obtain rfl := Option.some.inj h0
    refine retq rfl rfl
  replace h0 := cF h0 q5
  refine AC.skip ?_
  change AC _ _ _ _
  refine AC.seq ?_
  refine AC.region ?_
  refine AO.op rfl (AOp.loadN rfl rfl (ltb rfl) rfl agg24 size24 rfl (leb rfl) rfl ?_)
  refine AO.op rfl (AOp.move rfl rfl (ltb rfl) rfl ?_)
  obtain ⟨y6, q7, h0⟩ := bind_elim h0
  refine AO.op rfl (AOp.callD rfl rfl (ltb rfl) rfl rfl (w_BoxExtendLayout F a0 a1 y6 q7) ?_)
  rintro _ rfl
  refine AO.op rfl (AOp.move rfl rfl (ltb rfl) rfl ?_)
  first | refine AO.op rfl (AOp.extractD rfl rfl (ltb rfl) rfl rfl ?_) | refine AO.op rfl (AOp.extract rfl rfl (ltb rfl) rfl rfl ?_)
  first | refine AO.op rfl (AOp.extractD rfl rfl (ltb rfl) rfl rfl ?_) | refine AO.op rfl (AOp.extract rfl rfl (ltb rfl) rfl rfl ?_)
  refine AO.op rfl (AOp.alloc rfl rfl (ltb rfl) zero24 rfl ?_)
  refine AO.op rfl (AOp.store rfl rfl rfl rfl size24 rfl rfl rfl (leb rfl) ?_)
  refine AO.op rfl (AOp.assign rfl rfl (ltb rfl) rfl ?_)
  refine AO.nil ?_
  change AC _ _ _ _
  refine AC.seq ?_
  refine AC.draw 10 mixed (by kernel_rfl) ?_
  refine AD.op [6] rfl (by kernel_rfl) rfl rfl (fun _ _ h => AOp.move rfl rfl (ltb rfl) rfl h) ?_
  refine AD.op [33] rfl (by kernel_rfl) rfl rfl (fun _ _ h => AOp.move rfl rfl (ltb rfl) rfl h) ?_
  refine AD.dec y6.2 (fun q8 => ?_) (fun q8 => ?_)
  · replace h0 := cT h0 q8
    refine AD.opY [5, 34] rfl rfl rfl q8 (by kernel_rfl) rfl rfl (fun _ _ h => AOp.loadN rfl rfl (ltb rfl) rfl agg24 size24 rfl (leb rfl) rfl h) ?_
    refine AD.opY [2, 34] rfl rfl rfl q8 (by kernel_rfl) rfl rfl (fun _ _ h => AOp.loadN rfl rfl (ltb rfl) rfl agg24 size24 rfl (leb rfl) rfl h) ?_
    refine AD.opY [1, 34] rfl rfl rfl q8 (by kernel_rfl) rfl rfl (fun _ _ h => AOp.move rfl rfl (ltb rfl) rfl h) ?_
    refine AD.opY [34, 37] rfl rfl rfl q8 (by kernel_rfl) rfl rfl (fun _ _ h => AOp.build rfl rfl (ltb rfl) zero33 rfl places33 rfl rfl h) ?_
    obtain ⟨y9, q10, h0⟩ := bind_elim h0
    refine AD.opY [34, 36, 38] rfl rfl rfl q8 (by kernel_rfl) rfl rfl (fun _ _ h => AOp.callD rfl rfl (ltb rfl) rfl rfl ((w_Extend F a0 (TImpl_Geom.mk (2 : Int) a1 (0 : Int) [] [] [] []) y9 q10).nils (.cons (.le (SVLe.agd (.cons (SVLe.refl _) (.cons (SVLe.refl _) (.cons (SVLe.refl _) (.cons (SVLe.nil 1) (.cons (SVLe.nil 1) (.cons (SVLe.nil 1) (.cons (SVLe.nil 7) .nil)))))))) .nil))) (by rintro _ rfl; exact h)) ?_
    obtain ⟨y11, q12, h0⟩ := bind_elim h0
    refine AD.opY [34, 35, 39] rfl rfl rfl q8 (by kernel_rfl) rfl rfl (fun _ _ h => AOp.callD rfl rfl (ltb rfl) rfl rfl (w_SameBox F y6.1 y9 y11 q12) (by rintro _ rfl; exact h)) ?_
    refine AD.op [34, 40] rfl (by kernel_rfl) rfl rfl (fun _ _ h => AOp.pick rfl rfl (ltb rfl) rfl q8 rfl h) ?_
    refine AD.op [41] rfl (by kernel_rfl) rfl rfl (fun _ _ h => AOp.assign rfl rfl (ltb rfl) rfl h) ?_
    refine AD.done ?_
    refine AO.nil ?_
    change AC _ _ _ _
    refine AC.ret ?_
    change RetQ _ _ _ .ret _
    obtain rfl := Option.some.inj h0
    refine retq rfl rfl
  replace h0 := cF h0 q8
  refine AD.opN rfl rfl rfl (ltb rfl) rfl q8 ?_
  refine AD.opN rfl rfl rfl (ltb rfl) rfl q8 ?_
  refine AD.opN rfl rfl rfl (ltb rfl) rfl q8 ?_
  refine AD.opN rfl rfl rfl (ltb rfl) rfl q8 ?_
  refine AD.opN rfl rfl rfl (ltb rfl) rfl q8 ?_
  refine AD.opN rfl rfl rfl (ltb rfl) rfl q8 ?_
  refine AD.op [34, 40] rfl (by kernel_rfl) rfl rfl (fun _ _ h => AOp.pickN rfl rfl (ltb rfl) rfl q8 rfl h) ?_
  refine AD.op [41] rfl (by kernel_rfl) rfl rfl (fun _ _ h => AOp.assign rfl rfl (ltb rfl) rfl h) ?_
  refine AD.done ?_
  refine AO.nil ?_
  change AC _ _ _ _
  refine AC.ret ?_
  change RetQ _ _ _ .ret _
  obtain rfl := Option.some.inj h0
  refine retq rfl rfl

end Go.Proofs.Ythijpgkejnnjeaa.Wk
