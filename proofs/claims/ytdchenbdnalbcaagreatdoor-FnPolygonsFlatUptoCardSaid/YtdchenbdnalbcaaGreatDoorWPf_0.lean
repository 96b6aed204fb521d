/- Proved: functions of the program compute what the printed functions say, wherever these say something. -/
import Derived.Test.YtdchenbdnalbcaaGreatDoorPPf
import Derived.Test.YtdchenbdnalbcaaGreatDoorLibB
import Derived.Test.YtdchenbdnalbcaaGreatDoorProg
namespace Go.Proofs.YtdchenbdnalbcaaGreatDoor.Wk
open Go.Vm
set_option linter.unusedVariables false
set_option linter.unusedSimpArgs false
theorem agg134 : aggT Tryz.prog 134 = some false := by kernel_rfl
theorem agg22 : aggT Tryz.prog 22 = some false := by kernel_rfl
theorem agg26 : aggT Tryz.prog 26 = some false := by kernel_rfl
theorem agg28 : aggT Tryz.prog 28 = some true := by kernel_rfl
theorem agg3 : aggT Tryz.prog 3 = some false := by kernel_rfl
theorem agg30 : aggT Tryz.prog 30 = some true := by kernel_rfl
theorem agg32 : aggT Tryz.prog 32 = some true := by kernel_rfl
theorem agg35 : aggT Tryz.prog 35 = some false := by kernel_rfl
theorem agg38 : aggT Tryz.prog 38 = some true := by kernel_rfl
theorem agg4 : aggT Tryz.prog 4 = some false := by kernel_rfl
theorem agg40 : aggT Tryz.prog 40 = some false := by kernel_rfl
theorem agg46 : aggT Tryz.prog 46 = some false := by kernel_rfl
theorem agg47 : aggT Tryz.prog 47 = some false := by kernel_rfl
theorem agg49 : aggT Tryz.prog 49 = some true := by kernel_rfl
theorem agg54 : aggT Tryz.prog 54 = some false := by kernel_rfl
theorem agg62 : aggT Tryz.prog 62 = some false := by kernel_rfl
theorem agg69 : aggT Tryz.prog 69 = some false := by kernel_rfl
theorem agg76 : aggT Tryz.prog 76 = some true := by kernel_rfl
theorem conc64 : concT Tryz.prog 64 = true := by kernel_rfl
theorem el22 : elemT Tryz.prog 22 = some (49, 7) := by kernel_rfl
theorem el23 : elemT Tryz.prog 23 = some (35, 1) := by kernel_rfl
theorem el26 : elemT Tryz.prog 26 = some (134, 1) := by kernel_rfl
theorem el35 : elemT Tryz.prog 35 = some (38, 6) := by kernel_rfl
theorem el40 : elemT Tryz.prog 40 = some (54, 1) := by kernel_rfl
theorem el46 : elemT Tryz.prog 46 = some (3, 1) := by kernel_rfl
theorem el47 : elemT Tryz.prog 47 = some (46, 1) := by kernel_rfl
theorem el51 : elemT Tryz.prog 51 = some (76, 2) := by kernel_rfl
theorem el69 : elemT Tryz.prog 69 = some (54, 1) := by kernel_rfl
theorem fo28_0 : fieldOff Tryz.prog 28 0 = some 0 := by kernel_rfl
theorem fo28_1 : fieldOff Tryz.prog 28 1 = some 1 := by kernel_rfl
theorem fo30_0 : fieldOff Tryz.prog 30 0 = some 0 := by kernel_rfl
theorem fo30_1 : fieldOff Tryz.prog 30 1 = some 2 := by kernel_rfl
theorem fo32_0 : fieldOff Tryz.prog 32 0 = some 0 := by kernel_rfl
theorem fo32_1 : fieldOff Tryz.prog 32 1 = some 3 := by kernel_rfl
theorem fo38_0 : fieldOff Tryz.prog 38 0 = some 0 := by kernel_rfl
theorem fo38_1 : fieldOff Tryz.prog 38 1 = some 3 := by kernel_rfl
theorem fo49_0 : fieldOff Tryz.prog 49 0 = some 0 := by kernel_rfl
theorem fo49_1 : fieldOff Tryz.prog 49 1 = some 1 := by kernel_rfl
theorem fo49_2 : fieldOff Tryz.prog 49 2 = some 2 := by kernel_rfl
theorem fo49_3 : fieldOff Tryz.prog 49 3 = some 3 := by kernel_rfl
theorem fo49_4 : fieldOff Tryz.prog 49 4 = some 4 := by kernel_rfl
theorem fo49_5 : fieldOff Tryz.prog 49 5 = some 5 := by kernel_rfl
theorem fo49_6 : fieldOff Tryz.prog 49 6 = some 6 := by kernel_rfl
theorem fo76_0 : fieldOff Tryz.prog 76 0 = some 0 := by kernel_rfl
theorem fo76_1 : fieldOff Tryz.prog 76 1 = some 1 := by kernel_rfl
theorem fo82_0 : fieldOff Tryz.prog 82 0 = some 0 := by kernel_rfl
theorem fo82_1 : fieldOff Tryz.prog 82 1 = some 1 := by kernel_rfl
theorem fo82_2 : fieldOff Tryz.prog 82 2 = some 2 := by kernel_rfl
theorem fo82_3 : fieldOff Tryz.prog 82 3 = some 3 := by kernel_rfl
theorem fo82_4 : fieldOff Tryz.prog 82 4 = some 4 := by kernel_rfl
theorem fo82_5 : fieldOff Tryz.prog 82 5 = some 5 := by kernel_rfl
theorem fo82_6 : fieldOff Tryz.prog 82 6 = some 6 := by kernel_rfl
theorem fo82_7 : fieldOff Tryz.prog 82 7 = some 7 := by kernel_rfl
theorem fo86_0 : fieldOff Tryz.prog 86 0 = some 0 := by kernel_rfl
theorem fo86_1 : fieldOff Tryz.prog 86 1 = some 1 := by kernel_rfl
theorem fo86_2 : fieldOff Tryz.prog 86 2 = some 2 := by kernel_rfl
theorem fo86_3 : fieldOff Tryz.prog 86 3 = some 3 := by kernel_rfl
theorem fo88_0 : fieldOff Tryz.prog 88 0 = some 0 := by kernel_rfl
theorem fo90_0 : fieldOff Tryz.prog 90 0 = some 0 := by kernel_rfl
theorem fo90_1 : fieldOff Tryz.prog 90 1 = some 4 := by kernel_rfl
theorem fo92_0 : fieldOff Tryz.prog 92 0 = some 0 := by kernel_rfl
theorem fo98_0 : fieldOff Tryz.prog 98 0 = some 0 := by kernel_rfl
theorem idle20 (vs : Array Value) (w : World) (h : vs.size = 2) : CallsD Tryz.prog 20 vs .returning w fun e u' w' => e = .returned (.tuple #[]) ∧ u' = .returning ∧ w' = w := by
 obtain ⟨x0, x1, rfl⟩ : ∃ x0 x1, vs = #[x0, x1] := by
  obtain ⟨l⟩ := vs
  match l, h with
  | [x0, x1], _ => exact ⟨x0, x1, rfl⟩
 refine callsD_of_wpS Tryz.func20 rfl fun c₀ cs hu => ?_
 apply wpS_seq
 apply wpS_region
 simp [wpOpsS, go_sem, recoverD, hu, Tryz.ntmps20, Exit.thenS]
 refine wpS_cond (t := false) (by simp [Act.eval, Array.replicate]) ?_
 simp only [Bool.false_eq_true, if_false]
 refine wpS_of_wp (wp_skip ?_)
 cases c₀
 simp_all [bodyPostS, results, Tryz.results20]
theorem info134 : (Tryz.prog.info? 134).map (fun i => (i.zero, i.size, i.bytes)) = some (some (.int .u32 0), 1, 4) := by kernel_rfl
theorem info3 : (Tryz.prog.info? 3).map (fun i => (i.zero, i.size, i.bytes)) = some (some (.int .i64 0), 1, 8) := by kernel_rfl
theorem info35 : (Tryz.prog.info? 35).map (fun i => (i.zero, i.size, i.bytes)) = some (some (.slice none 0 0), 1, 24) := by kernel_rfl
theorem info38 : (Tryz.prog.info? 38).map (fun i => (i.zero, i.size, i.bytes)) = some (some (.agg #[.bool false, .slice none 0 0, .int .i64 0, .bool false, .slice none 0 0, .int .i64 0]), 6, 80) := by kernel_rfl
theorem info54 : (Tryz.prog.info? 54).map (fun i => (i.zero, i.size, i.bytes)) = some (some (.float .f64 0), 1, 8) := by kernel_rfl
theorem info76 : (Tryz.prog.info? 76).map (fun i => (i.zero, i.size, i.bytes)) = some (some (.agg #[.float .f64 0, .float .f64 0]), 2, 16) := by kernel_rfl
theorem mixed : Tryz.prog.follows .mixedOrders = true := by kernel_rfl
theorem pass64_64 : passT Tryz.prog 64 64 = some true := by kernel_rfl
def pl28 : Nat → Option (Nat × Nat) := fun i => ([(0, 1), (1, 1)] : List (Nat × Nat))[i]?
theorem places28 : placesT Tryz.prog 28 = some pl28 := by kernel_rfl
def pl30 : Nat → Option (Nat × Nat) := fun i => ([(0, 2), (2, 1)] : List (Nat × Nat))[i]?
theorem places30 : placesT Tryz.prog 30 = some pl30 := by kernel_rfl
def pl32 : Nat → Option (Nat × Nat) := fun i => ([(0, 3), (3, 3)] : List (Nat × Nat))[i]?
theorem places32 : placesT Tryz.prog 32 = some pl32 := by kernel_rfl
def pl38 : Nat → Option (Nat × Nat) := fun i => ([(0, 3), (3, 3)] : List (Nat × Nat))[i]?
theorem places38 : placesT Tryz.prog 38 = some pl38 := by kernel_rfl
def pl76 : Nat → Option (Nat × Nat) := fun i => ([(0, 1), (1, 1)] : List (Nat × Nat))[i]?
theorem places76 : placesT Tryz.prog 76 = some pl76 := by kernel_rfl
def pl82 : Nat → Option (Nat × Nat) := fun i => ([(0, 1), (1, 1), (2, 1), (3, 1), (4, 1), (5, 1), (6, 1), (7, 1)] : List (Nat × Nat))[i]?
theorem places82 : placesT Tryz.prog 82 = some pl82 := by kernel_rfl
theorem size134 : sizeT Tryz.prog 134 = some 1 := by kernel_rfl
theorem size28 : sizeT Tryz.prog 28 = some 2 := by kernel_rfl
theorem size3 : sizeT Tryz.prog 3 = some 1 := by kernel_rfl
theorem size30 : sizeT Tryz.prog 30 = some 3 := by kernel_rfl
theorem size32 : sizeT Tryz.prog 32 = some 6 := by kernel_rfl
theorem size38 : sizeT Tryz.prog 38 = some 6 := by kernel_rfl
theorem size4 : sizeT Tryz.prog 4 = some 1 := by kernel_rfl
theorem size40 : sizeT Tryz.prog 40 = some 1 := by kernel_rfl
theorem size46 : sizeT Tryz.prog 46 = some 1 := by kernel_rfl
theorem size49 : sizeT Tryz.prog 49 = some 7 := by kernel_rfl
theorem size54 : sizeT Tryz.prog 54 = some 1 := by kernel_rfl
theorem size62 : sizeT Tryz.prog 62 = some 1 := by kernel_rfl
theorem size69 : sizeT Tryz.prog 69 = some 1 := by kernel_rfl
theorem size76 : sizeT Tryz.prog 76 = some 2 := by kernel_rfl
theorem zero134 : (Tryz.prog.info? 134).map (·.zero) = some (some (.int .u32 0)) := by kernel_rfl
theorem zero28 : (Tryz.prog.info? 28).map (·.zero) = some (some (.agg #[.bool false, .slice none 0 0])) := by kernel_rfl
theorem zero3 : (Tryz.prog.info? 3).map (·.zero) = some (some (.int .i64 0)) := by kernel_rfl
theorem zero30 : (Tryz.prog.info? 30).map (·.zero) = some (some (.agg #[.bool false, .slice none 0 0, .int .i64 0])) := by kernel_rfl
theorem zero32 : (Tryz.prog.info? 32).map (·.zero) = some (some (.agg #[.bool false, .slice none 0 0, .int .i64 0, .bool false, .slice none 0 0, .int .i64 0])) := by kernel_rfl
theorem zero35 : (Tryz.prog.info? 35).map (·.zero) = some (some (.slice none 0 0)) := by kernel_rfl
theorem zero38 : (Tryz.prog.info? 38).map (·.zero) = some (some (.agg #[.bool false, .slice none 0 0, .int .i64 0, .bool false, .slice none 0 0, .int .i64 0])) := by kernel_rfl
theorem zero4 : (Tryz.prog.info? 4).map (·.zero) = some (some (.bool false)) := by kernel_rfl
theorem zero40 : (Tryz.prog.info? 40).map (·.zero) = some (some (.slice none 0 0)) := by kernel_rfl
theorem zero49 : (Tryz.prog.info? 49).map (·.zero) = some (some (.agg #[.int .i64 0, .int .i64 0, .int .i64 0, .slice none 0 0, .slice none 0 0, .slice none 0 0, .slice none 0 0])) := by kernel_rfl
theorem zero54 : (Tryz.prog.info? 54).map (·.zero) = some (some (.float .f64 0)) := by kernel_rfl
theorem zero76 : (Tryz.prog.info? 76).map (·.zero) = some (some (.agg #[.float .f64 0, .float .f64 0])) := by kernel_rfl
theorem zero82 : (Tryz.prog.info? 82).map (·.zero) = some (some (.agg #[.int .i64 0, .int .i64 0, .slice none 0 0, .slice none 0 0, .float .f64 0, .slice none 0 0, .slice none 0 0, .float .f64 0])) := by kernel_rfl
theorem zero92 : (Tryz.prog.info? 92).map (·.zero) = some (some (.agg #[.int .i64 0, .int .i64 0, .slice none 0 0, .int .i64 0, .slice none 0 0])) := by kernel_rfl
theorem zero98 : (Tryz.prog.info? 98).map (·.zero) = some (some (.agg #[.int .i64 0, .int .i64 0, .slice none 0 0, .int .i64 0])) := by kernel_rfl
set_option maxRecDepth 100000 in
set_option maxHeartbeats 4000000 in
/-- pub-orthodrome/spec.Stride -/
theorem w_Stride (a0 : Int) (r0 : Int) (h0 : p_Stride a0 = some r0) : FnD Tryz.prog 10 [di .i64 a0] (fun r => r = di .i64 r0) := by
 refine FnD.of (by kernel_rfl) Tryz.func10 rfl Tryz.ntmps10 rfl (leb rfl) fun W ok => ?_
 unfold p_Stride at h0
 refine AC.seq ?_
 refine AC.region ?_
 refine AO.op rfl (AOp.assign rfl rfl (ltb rfl) rfl ?_)
 refine AO.nil ?_
 change AC _ _ _ _
 refine AC.seq ?_
 refine AC.block ?_
 refine AC.seq ?_
 refine AC.region ?_
 refine AO.op rfl (AOp.move rfl rfl (ltb rfl) rfl ?_)
 refine AO.op rfl (AOp.ilss rfl rfl (ltb rfl) rfl rfl ?_)
 refine AO.op rfl (AOp.assign rfl rfl (ltb rfl) rfl ?_)
 refine AO.nil ?_
 change AC _ _ _ _
 refine AC.cond rfl (fun q1 => ?_) (fun q1 => ?_)
 ·replace h0 := cT h0 q1
  refine AC.seq ?_
  refine AC.region ?_
  refine AO.op rfl (AOp.assign rfl rfl (ltb rfl) rfl ?_)
  refine AO.nil ?_
  change AC _ _ _ _
  refine AC.ret ?_
  change RetQ _ _ _ .ret _
  obtain rfl := Option.some.inj h0
  refine retq rfl rfl
 replace h0 := cF h0 q1
 refine AC.seq ?_
 refine AC.region ?_
 refine AO.op rfl (AOp.move rfl rfl (ltb rfl) rfl ?_)
 refine AO.op rfl (AOp.ieql rfl rfl (ltb rfl) rfl rfl ?_)
 refine AO.op rfl (AOp.assign rfl rfl (ltb rfl) rfl ?_)
 refine AO.nil ?_
 change AC _ _ _ _
 refine AC.cond rfl (fun q2 => ?_) (fun q2 => ?_)
 ·replace h0 := cT h0 q2
  refine AC.seq ?_
  refine AC.region ?_
  refine AO.op rfl (AOp.assign rfl rfl (ltb rfl) rfl ?_)
  refine AO.nil ?_
  change AC _ _ _ _
  refine AC.ret ?_
  change RetQ _ _ _ .ret _
  obtain rfl := Option.some.inj h0
  refine retq rfl rfl
 replace h0 := cF h0 q2
 refine AC.seq ?_
 refine AC.region ?_
 refine AO.op rfl (AOp.move rfl rfl (ltb rfl) rfl ?_)
 refine AO.op rfl (AOp.ieql rfl rfl (ltb rfl) rfl rfl ?_)
 refine AO.op rfl (AOp.move rfl rfl (ltb rfl) rfl ?_)
 refine AO.dec (decide (a0 = (2 : Int))) (fun q3 => ?_) (fun q3 => ?_)
 ·replace h0 := cT h0 q3
  refine AO.guardN rfl rfl rfl (ltb rfl) rfl q3 ?_
  refine AO.guardN rfl rfl rfl (ltb rfl) rfl q3 ?_
  refine AO.op rfl (AOp.pick rfl rfl (ltb rfl) rfl q3 rfl ?_)
  refine AO.op rfl (AOp.assign rfl rfl (ltb rfl) rfl ?_)
  refine AO.nil ?_
  change AC _ _ _ _
  refine AC.condT rfl rfl ?_
  refine AC.seq ?_
  refine AC.region ?_
  refine AO.op rfl (AOp.assign rfl rfl (ltb rfl) rfl ?_)
  refine AO.nil ?_
  change AC _ _ _ _
  refine AC.ret ?_
  change RetQ _ _ _ .ret _
  obtain rfl := Option.some.inj h0
  refine retq rfl rfl
 replace h0 := cF h0 q3
 refine AO.guardY rfl rfl rfl q3 (AOp.move rfl rfl (ltb rfl) rfl ?_)
 refine AO.guardY rfl rfl rfl q3 (AOp.ieql rfl rfl (ltb rfl) rfl rfl ?_)
 refine AO.op rfl (AOp.pickN rfl rfl (ltb rfl) rfl q3 rfl ?_)
 refine AO.op rfl (AOp.assign rfl rfl (ltb rfl) rfl ?_)
 refine AO.nil ?_
 change AC _ _ _ _
 refine AC.cond rfl (fun q4 => ?_) (fun q4 => ?_)
 ·replace h0 := cT h0 q4
  refine AC.seq ?_
  refine AC.region ?_
  refine AO.op rfl (AOp.assign rfl rfl (ltb rfl) rfl ?_)
  refine AO.nil ?_
  change AC _ _ _ _
  refine AC.ret ?_
  change RetQ _ _ _ .ret _
  obtain rfl := Option.some.inj h0
  refine retq rfl rfl
 replace h0 := cF h0 q4
 refine AC.skip ?_
 change AC _ _ _ _
 refine AC.seq ?_
 refine AC.region ?_
 refine AO.op rfl (AOp.move rfl rfl (ltb rfl) rfl ?_)
 refine AO.op rfl (AOp.assign rfl rfl (ltb rfl) rfl ?_)
 refine AO.nil ?_
 change AC _ _ _ _
 refine AC.ret ?_
 change RetQ _ _ _ .ret _
 obtain rfl := Option.some.inj h0
 refine retq rfl rfl

set_option maxRecDepth 100000 in
set_option maxHeartbeats 4000000 in
/-- pub-orthodrome/spec.Cover -/
theorem w_Cover (a0 : Int) (a1 : Int) (r0 : Int) (h0 : p_Cover a0 a1 = some r0) : FnD Tryz.prog 68 [di .i64 a0, di .i64 a1] (fun r => r = di .i64 r0) := by
 refine FnD.of (by kernel_rfl) Tryz.func68 rfl Tryz.ntmps68 rfl (leb rfl) fun W ok => ?_
 unfold p_Cover at h0
 refine AC.seq ?_
 refine AC.region ?_
 refine AO.op rfl (AOp.assign rfl rfl (ltb rfl) rfl ?_)
 refine AO.nil ?_
 change AC _ _ _ _
 refine AC.seq ?_
 refine AC.seq ?_
 refine AC.region ?_
 refine AO.op rfl (AOp.move rfl rfl (ltb rfl) rfl ?_)
 refine AO.op rfl (AOp.ieql rfl rfl (ltb rfl) rfl rfl ?_)
 refine AO.op rfl (AOp.move rfl rfl (ltb rfl) rfl ?_)
 refine AO.dec (decide (a0 = (2 : Int))) (fun q1 => ?_) (fun q1 => ?_)
 ·replace h0 := cT h0 q1
  refine AO.guardY rfl rfl rfl q1 (AOp.move rfl rfl (ltb rfl) rfl ?_)
  refine AO.guardY rfl rfl rfl q1 (AOp.ieql rfl rfl (ltb rfl) rfl rfl ?_)
  refine AO.op rfl (AOp.pick rfl rfl (ltb rfl) rfl q1 rfl ?_)
  refine AO.op rfl (AOp.move rfl rfl (ltb rfl) rfl ?_)
  refine AO.dec (decide (a1 = (3 : Int))) (fun q2 => ?_) (fun q2 => ?_)
  ·replace h0 := cT h0 q2
   refine AO.guardN rfl rfl rfl (ltb rfl) rfl q2 ?_
   refine AO.guardN rfl rfl rfl (ltb rfl) rfl q2 ?_
   refine AO.guardN rfl rfl rfl (ltb rfl) rfl q2 ?_
   refine AO.guardU rfl rfl rfl (ltb rfl) rfl ?_
   refine AO.guardU rfl rfl rfl (ltb rfl) rfl ?_
   refine AO.guardN rfl rfl rfl (ltb rfl) rfl q2 ?_
   refine AO.op rfl (AOp.pick rfl rfl (ltb rfl) rfl q2 rfl ?_)
   refine AO.nil ?_
   change AC _ _ _ _
   refine AC.condT rfl rfl ?_
   refine AC.seq ?_
   refine AC.region ?_
   refine AO.op rfl (AOp.assign rfl rfl (ltb rfl) rfl ?_)
   refine AO.nil ?_
   change AC _ _ _ _
   refine AC.ret ?_
   change RetQ _ _ _ .ret _
   obtain rfl := Option.some.inj h0
   refine retq rfl rfl
  replace h0 := cF h0 q2
  refine AO.guardY rfl rfl rfl q2 (AOp.move rfl rfl (ltb rfl) rfl ?_)
  refine AO.guardY rfl rfl rfl q2 (AOp.ieql rfl rfl (ltb rfl) rfl rfl ?_)
  refine AO.guardY rfl rfl rfl q2 (AOp.move rfl rfl (ltb rfl) rfl ?_)
  refine AO.dec (decide (a0 = (3 : Int))) (fun q3 => ?_) (fun q3 => ?_)
  ·replace h0 := cT h0 q3
   refine AO.guardY rfl rfl rfl q3 (AOp.move rfl rfl (ltb rfl) rfl ?_)
   refine AO.guardY rfl rfl rfl q3 (AOp.ieql rfl rfl (ltb rfl) rfl rfl ?_)
   refine AO.guardY rfl rfl rfl q2 (AOp.pick rfl rfl (ltb rfl) rfl q3 rfl ?_)
   refine AO.op rfl (AOp.pickN rfl rfl (ltb rfl) rfl q2 rfl ?_)
   refine AO.nil ?_
   change AC _ _ _ _
   refine AC.cond rfl (fun q4 => ?_) (fun q4 => ?_)
   ·replace h0 := cT h0 q4
    refine AC.seq ?_
    refine AC.region ?_
    refine AO.op rfl (AOp.assign rfl rfl (ltb rfl) rfl ?_)
    refine AO.nil ?_
    change AC _ _ _ _
    refine AC.ret ?_
    change RetQ _ _ _ .ret _
    obtain rfl := Option.some.inj h0
    refine retq rfl rfl
   replace h0 := cF h0 q4
   refine AC.skip ?_
   change AC _ _ _ _
   refine AC.seq ?_
   refine AC.region ?_
   refine AO.op rfl (AOp.move rfl rfl (ltb rfl) rfl ?_)
   refine AO.op rfl (AOp.move rfl rfl (ltb rfl) rfl ?_)
   refine AO.op rfl (AOp.imax rfl rfl (ltb rfl) rfl rfl ?_)
   refine AO.op rfl (AOp.assign rfl rfl (ltb rfl) rfl ?_)
   refine AO.nil ?_
   change AC _ _ _ _
   refine AC.ret ?_
   change RetQ _ _ _ .ret _
   obtain rfl := Option.some.inj h0
   refine retq rfl rfl
  replace h0 := cF h0 q3
  refine AO.guardN rfl rfl rfl (ltb rfl) rfl q3 ?_
  refine AO.guardN rfl rfl rfl (ltb rfl) rfl q3 ?_
  refine AO.guardY rfl rfl rfl q2 (AOp.pickN rfl rfl (ltb rfl) rfl q3 rfl ?_)
  refine AO.op rfl (AOp.pickN rfl rfl (ltb rfl) rfl q2 rfl ?_)
  refine AO.nil ?_
  change AC _ _ _ _
  refine AC.condF rfl rfl ?_
  refine AC.skip ?_
  change AC _ _ _ _
  refine AC.seq ?_
  refine AC.region ?_
  refine AO.op rfl (AOp.move rfl rfl (ltb rfl) rfl ?_)
  refine AO.op rfl (AOp.move rfl rfl (ltb rfl) rfl ?_)
  refine AO.op rfl (AOp.imax rfl rfl (ltb rfl) rfl rfl ?_)
  refine AO.op rfl (AOp.assign rfl rfl (ltb rfl) rfl ?_)
  refine AO.nil ?_
  change AC _ _ _ _
  refine AC.ret ?_
  change RetQ _ _ _ .ret _
  obtain rfl := Option.some.inj h0
  refine retq rfl rfl
 replace h0 := cF h0 q1
 refine AO.guardN rfl rfl rfl (ltb rfl) rfl q1 ?_
 refine AO.guardN rfl rfl rfl (ltb rfl) rfl q1 ?_
 refine AO.op rfl (AOp.pickN rfl rfl (ltb rfl) rfl q1 rfl ?_)
 refine AO.op rfl (AOp.move rfl rfl (ltb rfl) rfl ?_)
 refine AO.guardY rfl rfl rfl rfl (AOp.move rfl rfl (ltb rfl) rfl ?_)
 refine AO.guardY rfl rfl rfl rfl (AOp.ieql rfl rfl (ltb rfl) rfl rfl ?_)
 refine AO.guardY rfl rfl rfl rfl (AOp.move rfl rfl (ltb rfl) rfl ?_)
 refine AO.dec (decide (a0 = (3 : Int))) (fun q5 => ?_) (fun q5 => ?_)
 ·replace h0 := cT h0 q5
  refine AO.guardY rfl rfl rfl q5 (AOp.move rfl rfl (ltb rfl) rfl ?_)
  refine AO.guardY rfl rfl rfl q5 (AOp.ieql rfl rfl (ltb rfl) rfl rfl ?_)
  refine AO.guardY rfl rfl rfl rfl (AOp.pick rfl rfl (ltb rfl) rfl q5 rfl ?_)
  refine AO.op rfl (AOp.pickN rfl rfl (ltb rfl) rfl rfl rfl ?_)
  refine AO.nil ?_
  change AC _ _ _ _
  refine AC.cond rfl (fun q6 => ?_) (fun q6 => ?_)
  ·replace h0 := cT h0 q6
   refine AC.seq ?_
   refine AC.region ?_
   refine AO.op rfl (AOp.assign rfl rfl (ltb rfl) rfl ?_)
   refine AO.nil ?_
   change AC _ _ _ _
   refine AC.ret ?_
   change RetQ _ _ _ .ret _
   obtain rfl := Option.some.inj h0
   refine retq rfl rfl
  replace h0 := cF h0 q6
  refine AC.skip ?_
  change AC _ _ _ _
  refine AC.seq ?_
  refine AC.region ?_
  refine AO.op rfl (AOp.move rfl rfl (ltb rfl) rfl ?_)
  refine AO.op rfl (AOp.move rfl rfl (ltb rfl) rfl ?_)
  refine AO.op rfl (AOp.imax rfl rfl (ltb rfl) rfl rfl ?_)
  refine AO.op rfl (AOp.assign rfl rfl (ltb rfl) rfl ?_)
  refine AO.nil ?_
  change AC _ _ _ _
  refine AC.ret ?_
  change RetQ _ _ _ .ret _
  obtain rfl := Option.some.inj h0
  refine retq rfl rfl
 replace h0 := cF h0 q5
 refine AO.guardN rfl rfl rfl (ltb rfl) rfl q5 ?_
 refine AO.guardN rfl rfl rfl (ltb rfl) rfl q5 ?_
 refine AO.guardY rfl rfl rfl rfl (AOp.pickN rfl rfl (ltb rfl) rfl q5 rfl ?_)
 refine AO.op rfl (AOp.pickN rfl rfl (ltb rfl) rfl rfl rfl ?_)
 refine AO.nil ?_
 change AC _ _ _ _
 refine AC.condF rfl rfl ?_
 refine AC.skip ?_
 change AC _ _ _ _
 refine AC.seq ?_
 refine AC.region ?_
 refine AO.op rfl (AOp.move rfl rfl (ltb rfl) rfl ?_)
 refine AO.op rfl (AOp.move rfl rfl (ltb rfl) rfl ?_)
 refine AO.op rfl (AOp.imax rfl rfl (ltb rfl) rfl rfl ?_)
 refine AO.op rfl (AOp.assign rfl rfl (ltb rfl) rfl ?_)
 refine AO.nil ?_
 change AC _ _ _ _
 refine AC.ret ?_
 change RetQ _ _ _ .ret _
 obtain rfl := Option.some.inj h0
 refine retq rfl rfl

set_option maxRecDepth 100000 in
set_option maxHeartbeats 4000000 in
/-- pub-orthodrome/spec.LayoutOf -/
theorem w_LayoutOf_b (Rec_ : TImpl_Geom → Option Int) (hR : ∀ (a0 : TImpl_Geom) (r0 : Int), Rec_ a0 = some r0 → FnD Tryz.prog 27 [e_TImpl_Geom a0] (fun r => r = di .i64 r0)) (F : Nat) (a0 : TImpl_Geom) (r0 : Int) (h0 : p_LayoutOf_b Rec_ F a0 = some r0) : FnD Tryz.prog 27 [e_TImpl_Geom a0] (fun r => r = di .i64 r0) := by
 refine FnD.of (by kernel_rfl) Tryz.func27 rfl Tryz.ntmps27 rfl (leb rfl) fun W ok => ?_
 unfold p_LayoutOf_b at h0
 refine AC.seq ?_
 refine AC.region ?_
 refine AO.op rfl (AOp.box rfl rfl (ltb rfl) rfl rfl ?_)
 refine AO.op rfl (AOp.assign rfl rfl (ltb rfl) rfl ?_)
 refine AO.nil ?_
 change AC _ _ _ _
 refine AC.seq ?_
 refine AC.region ?_
 refine AO.op rfl (AOp.fieldAddr rfl rfl (ltb rfl) rfl fo49_1 ?_)
 refine AO.op rfl (AOp.load1 rfl rfl (ltb rfl) rfl agg3 rfl rfl ?_)
 refine AO.op rfl (AOp.assign rfl rfl (ltb rfl) rfl ?_)
 refine AO.nil ?_
 change AC _ _ _ _
 refine AC.seq ?_
 refine AC.joinP (V := Bool) [1, 3] [14] 1 (fun g1 => [(14, .d (dbool g1))]) (fun g1 => [.fix 49 [.d (di .i64 a0.Kind), .d (di .i64 a0.Layout), .d (di .i64 a0.SRID), .d (eS1 a0.Flat), .d (eS2 a0.Ends), .d (eS3 a0.Endss), .d (eS0 a0.Kids)]]) (fun g1 => (p_LayoutOf_k1 a0 F Rec_) g1 = some r0) rfl ?_ ?_
 ·refine AC.region ?_
  refine AO.op rfl (AOp.fieldAddr rfl rfl (ltb rfl) rfl fo49_0 ?_)
  refine AO.op rfl (AOp.load1 rfl rfl (ltb rfl) rfl agg3 rfl rfl ?_)
  refine AO.op rfl (AOp.ineq rfl rfl (ltb rfl) rfl rfl ?_)
  refine AO.op rfl (AOp.move rfl rfl (ltb rfl) rfl ?_)
  refine AO.dec (!decide (a0.Kind = (7 : Int))) (fun q17 => ?_) (fun q17 => ?_)
  ·replace h0 := cT h0 q17
   refine AO.guardN rfl rfl rfl (ltb rfl) rfl q17 ?_
   refine AO.guardN rfl rfl rfl (ltb rfl) rfl q17 ?_
   refine AO.op rfl (AOp.pick rfl rfl (ltb rfl) rfl q17 rfl ?_)
   refine AO.nil ?_
   exact ⟨true, _, rfl, (LeL.refl _), rfl, rfl, h0⟩
  replace h0 := cF h0 q17
  refine AO.guardY rfl rfl rfl q17 (AOp.move rfl rfl (ltb rfl) rfl ?_)
  refine AO.guardY rfl rfl rfl q17 (AOp.ineq rfl rfl (ltb rfl) rfl rfl ?_)
  refine AO.op rfl (AOp.pickN rfl rfl (ltb rfl) rfl q17 rfl ?_)
  refine AO.nil ?_
  exact ⟨(!decide (a0.Layout = (0 : Int))), _, rfl, (LeL.refl _), rfl, rfl, h0⟩
 intro g1 h0
 unfold p_LayoutOf_k1 at h0
 refine AC.cond rfl (fun q2 => ?_) (fun q2 => ?_)
 ·replace h0 := cT h0 q2
  refine AC.seq ?_
  refine AC.region ?_
  refine AO.op rfl (AOp.move rfl rfl (ltb rfl) rfl ?_)
  refine AO.op rfl (AOp.assign rfl rfl (ltb rfl) rfl ?_)
  refine AO.nil ?_
  change AC _ _ _ _
  refine AC.ret ?_
  change RetQ _ _ _ .ret _
  obtain rfl := Option.some.inj h0
  refine retq rfl rfl
 replace h0 := cF h0 q2
 refine AC.skip ?_
 change AC _ _ _ _
 refine AC.seq ?_
 refine AC.seq ?_
 refine AC.region ?_
 refine AO.op rfl (AOp.fieldAddr rfl rfl (ltb rfl) rfl fo49_6 ?_)
 refine AO.op rfl (AOp.load1 rfl rfl (ltb rfl) rfl agg22 rfl rfl ?_)
 refine AO.op rfl (AOp.lenDs (n := a0.Kids.length) (cells := (List.flatMap c0_TImpl_Geom a0.Kids)) rfl rfl (ltb rfl) rfl el22 (by decide) (lenN _ 7 c0_TImpl_Geom_len _) ?_)
 refine AO.op rfl (AOp.move rfl rfl (ltb rfl) rfl ?_)
 refine AO.nil ?_
 change AC _ _ _ _
 obtain ⟨o3, l4, h0⟩ := bind_elim h0
 refine AC.joinE (V := Int) [] [3] 1 (fun g5 => [(3, .d (di .i64 g5))]) (fun g5 => [.fix 49 [.d (di .i64 a0.Kind), .d (di .i64 a0.Layout), .d (di .i64 a0.SRID), .d (eS1 a0.Flat), .d (eS2 a0.Ends), .d (eS3 a0.Endss), .d (eS0 a0.Kids)]]) (fun g5 => p_LayoutOf_k2 g5 = some r0) rfl ?_ ?_
 ·refine AC.block ?_
  refine AC.loopP (V := (Int × Int)) (p_LayoutOf_l3 a0 Rec_) o3 [17, 18] [3, 19] 1 (fun g6 => [(3, .d (di .i64 g6.1)), (19, .d (di .i64 g6.2))]) (fun g6 => [.fix 49 [.d (di .i64 a0.Kind), .d (di .i64 a0.Layout), .d (di .i64 a0.SRID), .d (eS1 a0.Flat), .d (eS2 a0.Ends), .d (eS3 a0.Endss), .d (eS0 a0.Kids)]]) F (a0.Layout, (0 : Int)) l4 rfl rfl (LeL.refl _) rfl rfl ?_
  intro n8 g6 h1
  unfold p_LayoutOf_l3 at h1
  refine AC.seq ?_
  refine AC.region ?_
  refine AO.op rfl (AOp.ilss rfl rfl (ltb rfl) rfl rfl ?_)
  refine AO.nil ?_
  change AC _ _ _ _
  refine AC.seq ?_
  refine AC.cond rfl (fun q9 => ?_) (fun q9 => ?_)
  ·replace h1 := cT h1 q9
   refine AC.skip ?_
   change AC _ _ _ _
   refine AC.seq ?_
   refine AC.block ?_
   refine AC.seq ?_
   refine AC.region ?_
   obtain ⟨x10, q11, h1⟩ := idx_elim h1
   refine AO.op rfl (AOp.indexDs (cells := (List.flatMap c0_TImpl_Geom a0.Kids)) rfl rfl (ltb rfl) rfl rfl el22 (by decide) q11.1 (ltN 7 c0_TImpl_Geom_len (by decide) q11.2) ?_)
   refine AO.op rfl (AOp.loadEpN rfl rfl (ltb rfl) rfl agg49 size49 (leN 7 c0_TImpl_Geom_len q11.2) ((atN 7 c0_TImpl_Geom_len q11.2).trans (c0_TImpl_Geom_eq x10)) ?_)
   refine AO.op rfl (AOp.alloc rfl rfl (ltb rfl) zero49 rfl ?_)
   refine AO.op rfl (AOp.store rfl rfl rfl rfl size49 rfl rfl rfl (leb rfl) ?_)
   refine AO.nil ?_
   change AC _ _ _ _
   refine AC.region ?_
   refine AO.op rfl (AOp.move rfl rfl (ltb rfl) rfl ?_)
   refine AO.op rfl (AOp.loadN rfl rfl (ltb rfl) rfl agg49 size49 rfl (leb rfl) rfl ?_)
   obtain ⟨y12, q13, h1⟩ := bind_elim h1
   refine AO.op rfl (AOp.callD rfl rfl (ltb rfl) rfl rfl (hR x10 y12 q13) ?_)
   rintro _ rfl
   obtain ⟨y14, q15, h1⟩ := bind_elim h1
   refine AO.op rfl (AOp.callD rfl rfl (ltb rfl) rfl rfl (w_Cover g6.1 y12 y14 q15) ?_)
   rintro _ rfl
   refine AO.op rfl (AOp.assign rfl rfl (ltb rfl) rfl ?_)
   refine AO.nil ?_
   change AC _ _ _ _
   refine AC.region ?_
   obtain ⟨q16, h1⟩ := need_elim h1
   refine AO.op rfl (AOp.iadd rfl rfl (ltb rfl) rfl rfl rfl q16.1 q16.2 ?_)
   refine AO.op rfl (AOp.move rfl rfl (ltb rfl) rfl ?_)
   refine AO.nil ?_
   exact ⟨(y14, (g6.2 + (1 : Int))), _, rfl, (LeL.refl _), rfl, rfl, h1⟩
  replace h1 := cF h1 q9
  refine AC.exit ?_
  obtain rfl := Option.some.inj h1
  exact ⟨g6.1, _, rfl, (LeL.refl _), rfl, rfl, aftL h0⟩
 intro g5 h0
 unfold p_LayoutOf_k2 at h0
 change AC _ _ _ _
 refine AC.seq ?_
 refine AC.region ?_
 refine AO.op rfl (AOp.move rfl rfl (ltb rfl) rfl ?_)
 refine AO.op rfl (AOp.assign rfl rfl (ltb rfl) rfl ?_)
 refine AO.nil ?_
 change AC _ _ _ _
 refine AC.ret ?_
 change RetQ _ _ _ .ret _
 obtain rfl := Option.some.inj h0
 refine retq rfl rfl
theorem w_LayoutOf : ∀ (F : Nat) (a0 : TImpl_Geom) (r0 : Int), p_LayoutOf F a0 = some r0 → FnD Tryz.prog 27 [e_TImpl_Geom a0] (fun r => r = di .i64 r0)
 | 0, _, _, h => by cases h
 | F + 1, a0, r0, h => w_LayoutOf_b _ (fun a0 r0 h => w_LayoutOf F a0 r0 h) F a0 r0 h

set_option maxRecDepth 100000 in
set_option maxHeartbeats 4000000 in
/-- pub-orthodrome/spec.goodEnds -/
theorem w_goodEnds (F : Nat) (a0 : (List Int)) (a1 : Int) (a2 : Int) (a3 : Bool) (r0 : (Int × Bool)) (h0 : p_goodEnds F a0 a1 a2 a3 = some r0) : FnD Tryz.prog 28 [eS2 a0, di .i64 a1, di .i64 a2, dbool a3] (fun r => r = .tu [di .i64 r0.1, dbool r0.2]) := by
 refine FnD.of (by kernel_rfl) Tryz.func28 rfl Tryz.ntmps28 rfl (leb rfl) fun W ok => ?_
 unfold p_goodEnds at h0
 refine AC.seq ?_
 refine AC.region ?_
 refine AO.op rfl (AOp.assign rfl rfl (ltb rfl) rfl ?_)
 refine AO.op rfl (AOp.assign rfl rfl (ltb rfl) rfl ?_)
 refine AO.nil ?_
 change AC _ _ _ _
 refine AC.seq ?_
 refine AC.seq ?_
 refine AC.region ?_
 refine AO.op rfl (AOp.move rfl rfl (ltb rfl) rfl ?_)
 refine AO.op rfl (AOp.lenDs (n := a0.length) (cells := (List.map keS2 a0)) rfl rfl (ltb rfl) rfl el46 (by decide) (len1 _ _) ?_)
 refine AO.op rfl (AOp.move rfl rfl (ltb rfl) rfl ?_)
 refine AO.nil ?_
 change AC _ _ _ _
 obtain ⟨o1, l2, h0⟩ := bind_elim h0
 refine AC.joinE (V := Int) [] [1] 0 (fun g3 => [(1, .d (di .i64 g3))]) (fun g3 => []) (fun g3 => p_goodEnds_k1 g3 = some r0) rfl ?_ ?_
 ·refine AC.block ?_
  refine AC.loopP (V := (Int × Int)) (p_goodEnds_l2 a0 a2 a3) o1 [2, 3, 12, 13] [1, 14] 0 (fun g4 => [(1, .d (di .i64 g4.1)), (14, .d (di .i64 g4.2))]) (fun g4 => []) F (a1, (0 : Int)) l2 rfl rfl (LeL.refl _) rfl rfl ?_
  intro n6 g4 h1
  unfold p_goodEnds_l2 at h1
  refine AC.seq ?_
  refine AC.region ?_
  refine AO.op rfl (AOp.ilss rfl rfl (ltb rfl) rfl rfl ?_)
  refine AO.nil ?_
  change AC _ _ _ _
  refine AC.seq ?_
  refine AC.cond rfl (fun q7 => ?_) (fun q7 => ?_)
  ·replace h1 := cT h1 q7
   refine AC.skip ?_
   change AC _ _ _ _
   refine AC.seq ?_
   refine AC.block ?_
   refine AC.seq ?_
   refine AC.region ?_
   obtain ⟨x8, q9, h1⟩ := idx_elim h1
   refine AO.op rfl (AOp.indexDs (cells := (List.map keS2 a0)) rfl rfl (ltb rfl) rfl rfl el46 (by decide) q9.1 (lt1 q9.2) ?_)
   refine AO.op rfl (AOp.loadEp rfl rfl (ltb rfl) rfl agg3 (at1 q9.2) ?_)
   refine AO.op rfl (AOp.assign rfl rfl (ltb rfl) rfl ?_)
   refine AO.nil ?_
   change AC _ _ _ _
   refine AC.seq ?_
   refine AC.joinP (V := Bool) [1, 2, 3, 11, 12, 13, 14] [38] 0 (fun g10 => [(38, .d (dbool g10))]) (fun g10 => []) (fun g10 => (p_goodEnds_k3 g4 (iter (p_goodEnds_l2 a0 a2 a3) n6) x8) g10 = some o1) rfl ?_ ?_
   ·refine AC.region ?_
    refine AO.op rfl (AOp.move rfl rfl (ltb rfl) rfl ?_)
    refine AO.op rfl (AOp.move rfl rfl (ltb rfl) rfl ?_)
    refine AO.op rfl (AOp.ilss rfl rfl (ltb rfl) rfl rfl ?_)
    refine AO.op rfl (AOp.move rfl rfl (ltb rfl) rfl ?_)
    refine AO.dec (decide (x8 < g4.1)) (fun q13 => ?_) (fun q13 => ?_)
    ·replace h1 := cT h1 q13
     refine AO.guardN rfl rfl rfl (ltb rfl) rfl q13 ?_
     refine AO.guardN rfl rfl rfl (ltb rfl) rfl q13 ?_
     refine AO.guardN rfl rfl rfl (ltb rfl) rfl q13 ?_
     refine AO.guardN rfl rfl rfl (ltb rfl) rfl q13 ?_
     refine AO.guardN rfl rfl rfl (ltb rfl) rfl q13 ?_
     refine AO.guardN rfl rfl rfl (ltb rfl) rfl q13 ?_
     refine AO.op rfl (AOp.pick rfl rfl (ltb rfl) rfl q13 rfl ?_)
     refine AO.op rfl (AOp.move rfl rfl (ltb rfl) rfl ?_)
     refine AO.guardN rfl rfl rfl (ltb rfl) rfl rfl ?_
     refine AO.guardN rfl rfl rfl (ltb rfl) rfl rfl ?_
     refine AO.guardU rfl rfl rfl (ltb rfl) rfl ?_
     refine AO.guardU rfl rfl rfl (ltb rfl) rfl ?_
     refine AO.guardU rfl rfl rfl (ltb rfl) rfl ?_
     refine AO.guardU rfl rfl rfl (ltb rfl) rfl ?_
     refine AO.guardU rfl rfl rfl (ltb rfl) rfl ?_
     refine AO.guardN rfl rfl rfl (ltb rfl) rfl rfl ?_
     refine AO.op rfl (AOp.pick rfl rfl (ltb rfl) rfl rfl rfl ?_)
     refine AO.nil ?_
     exact ⟨true, _, rfl, (LeL.refl _), rfl, rfl, h1⟩
    replace h1 := cF h1 q13
    refine AO.guardY rfl rfl rfl q13 (AOp.move rfl rfl (ltb rfl) rfl ?_)
    refine AO.guardY rfl rfl rfl q13 (AOp.move rfl rfl (ltb rfl) rfl ?_)
    obtain ⟨q14, h1⟩ := need_elim h1
    refine AO.guardY rfl rfl rfl q13 (AOp.isub rfl rfl (ltb rfl) rfl rfl rfl q14.1 q14.2 ?_)
    refine AO.guardY rfl rfl rfl q13 (AOp.move rfl rfl (ltb rfl) rfl ?_)
    obtain ⟨q15, h1⟩ := need_elim h1
    refine AO.guardY rfl rfl rfl q13 (AOp.irem rfl rfl (ltb rfl) rfl rfl q15 rfl ?_)
    refine AO.guardY rfl rfl rfl q13 (AOp.ineq rfl rfl (ltb rfl) rfl rfl ?_)
    refine AO.op rfl (AOp.pickN rfl rfl (ltb rfl) rfl q13 rfl ?_)
    refine AO.op rfl (AOp.move rfl rfl (ltb rfl) rfl ?_)
    refine AO.dec (!decide ((Int.tmod (x8 - g4.1) a2) = (0 : Int))) (fun q16 => ?_) (fun q16 => ?_)
    ·replace h1 := cT h1 q16
     refine AO.guardN rfl rfl rfl (ltb rfl) rfl q16 ?_
     refine AO.guardN rfl rfl rfl (ltb rfl) rfl q16 ?_
     refine AO.guardU rfl rfl rfl (ltb rfl) rfl ?_
     refine AO.guardU rfl rfl rfl (ltb rfl) rfl ?_
     refine AO.guardU rfl rfl rfl (ltb rfl) rfl ?_
     refine AO.guardU rfl rfl rfl (ltb rfl) rfl ?_
     refine AO.guardU rfl rfl rfl (ltb rfl) rfl ?_
     refine AO.guardN rfl rfl rfl (ltb rfl) rfl q16 ?_
     refine AO.op rfl (AOp.pick rfl rfl (ltb rfl) rfl q16 rfl ?_)
     refine AO.nil ?_
     exact ⟨true, _, rfl, (LeL.refl _), rfl, rfl, h1⟩
    replace h1 := cF h1 q16
    refine AO.guardY rfl rfl rfl q16 (AOp.move rfl rfl (ltb rfl) rfl ?_)
    refine AO.guardY rfl rfl rfl q16 (AOp.move rfl rfl (ltb rfl) rfl ?_)
    refine AO.dec a3 (fun q17 => ?_) (fun q17 => ?_)
    ·replace h1 := cT h1 q17
     refine AO.guardY rfl rfl rfl q17 (AOp.move rfl rfl (ltb rfl) rfl ?_)
     refine AO.guardY rfl rfl rfl q17 (AOp.move rfl rfl (ltb rfl) rfl ?_)
     obtain ⟨q18, h1⟩ := need_elim h1
     refine AO.guardY rfl rfl rfl q17 (AOp.isub rfl rfl (ltb rfl) rfl rfl rfl q18.1 q18.2 ?_)
     refine AO.guardY rfl rfl rfl q17 (AOp.move rfl rfl (ltb rfl) rfl ?_)
     refine AO.guardY rfl rfl rfl q17 (AOp.igtr rfl rfl (ltb rfl) rfl rfl ?_)
     refine AO.guardY rfl rfl rfl q16 (AOp.pick rfl rfl (ltb rfl) rfl q17 rfl ?_)
     refine AO.op rfl (AOp.pickN rfl rfl (ltb rfl) rfl q16 rfl ?_)
     refine AO.nil ?_
     exact ⟨(decide (a2 < (x8 - g4.1))), _, rfl, (LeL.refl _), rfl, rfl, h1⟩
    replace h1 := cF h1 q17
    refine AO.guardN rfl rfl rfl (ltb rfl) rfl q17 ?_
    refine AO.guardN rfl rfl rfl (ltb rfl) rfl q17 ?_
    refine AO.guardN rfl rfl rfl (ltb rfl) rfl q17 ?_
    refine AO.guardN rfl rfl rfl (ltb rfl) rfl q17 ?_
    refine AO.guardN rfl rfl rfl (ltb rfl) rfl q17 ?_
    refine AO.guardY rfl rfl rfl q16 (AOp.pickN rfl rfl (ltb rfl) rfl q17 rfl ?_)
    refine AO.op rfl (AOp.pickN rfl rfl (ltb rfl) rfl q16 rfl ?_)
    refine AO.nil ?_
    exact ⟨false, _, rfl, (LeL.refl _), rfl, rfl, h1⟩
   intro g10 h1
   unfold p_goodEnds_k3 at h1
   refine AC.cond rfl (fun q11 => ?_) (fun q11 => ?_)
   ·replace h1 := cT h1 q11
    refine AC.seq ?_
    refine AC.region ?_
    refine AO.op rfl (AOp.move rfl rfl (ltb rfl) rfl ?_)
    refine AO.op rfl (AOp.assign rfl rfl (ltb rfl) rfl ?_)
    refine AO.op rfl (AOp.assign rfl rfl (ltb rfl) rfl ?_)
    refine AO.nil ?_
    change AC _ _ _ _
    refine AC.ret ?_
    change RetQ _ _ _ .ret _
    obtain rfl := Option.some.inj h1
    replace h0 := aftR h0
    obtain rfl := Option.some.inj h0
    refine retq rfl rfl
   replace h1 := cF h1 q11
   refine AC.skip ?_
   change AC _ _ _ _
   refine AC.region ?_
   refine AO.op rfl (AOp.move rfl rfl (ltb rfl) rfl ?_)
   refine AO.op rfl (AOp.assign rfl rfl (ltb rfl) rfl ?_)
   refine AO.nil ?_
   change AC _ _ _ _
   refine AC.region ?_
   obtain ⟨q12, h1⟩ := need_elim h1
   refine AO.op rfl (AOp.iadd rfl rfl (ltb rfl) rfl rfl rfl q12.1 q12.2 ?_)
   refine AO.op rfl (AOp.move rfl rfl (ltb rfl) rfl ?_)
   refine AO.nil ?_
   exact ⟨(x8, (g4.2 + (1 : Int))), _, rfl, (LeL.refl _), rfl, rfl, h1⟩
  replace h1 := cF h1 q7
  refine AC.exit ?_
  obtain rfl := Option.some.inj h1
  exact ⟨g4.1, _, rfl, (LeL.refl _), rfl, rfl, aftL h0⟩
 intro g3 h0
 unfold p_goodEnds_k1 at h0
 change AC _ _ _ _
 refine AC.seq ?_
 refine AC.region ?_
 refine AO.op rfl (AOp.move rfl rfl (ltb rfl) rfl ?_)
 refine AO.op rfl (AOp.assign rfl rfl (ltb rfl) rfl ?_)
 refine AO.op rfl (AOp.assign rfl rfl (ltb rfl) rfl ?_)
 refine AO.nil ?_
 change AC _ _ _ _
 refine AC.ret ?_
 change RetQ _ _ _ .ret _
 obtain rfl := Option.some.inj h0
 refine retq rfl rfl

set_option maxRecDepth 100000 in
set_option maxHeartbeats 4000000 in
/-- pub-orthodrome/spec.Good -/
theorem w_Good_b (Rec_ : TImpl_Geom → Option Bool) (hR : ∀ (a0 : TImpl_Geom) (r0 : Bool), Rec_ a0 = some r0 → FnD Tryz.prog 11 [e_TImpl_Geom a0] (fun r => r = dbool r0)) (F : Nat) (a0 : TImpl_Geom) (r0 : Bool) (h0 : p_Good_b Rec_ F a0 = some r0) : FnD Tryz.prog 11 [e_TImpl_Geom a0] (fun r => r = dbool r0) := by
 refine FnD.of (by kernel_rfl) Tryz.func11 rfl Tryz.ntmps11 rfl (leb rfl) fun W ok => ?_
 unfold p_Good_b at h0
 refine AC.seq ?_
 refine AC.region ?_
 refine AO.op rfl (AOp.box rfl rfl (ltb rfl) rfl rfl ?_)
 refine AO.op rfl (AOp.assign rfl rfl (ltb rfl) rfl ?_)
 refine AO.nil ?_
 change AC _ _ _ _
 refine AC.seq ?_
 refine AC.region ?_
 refine AO.op rfl (AOp.fieldAddr rfl rfl (ltb rfl) rfl fo49_1 ?_)
 refine AO.op rfl (AOp.load1 rfl rfl (ltb rfl) rfl agg3 rfl rfl ?_)
 obtain ⟨y1, q2, h0⟩ := bind_elim h0
 refine AO.op rfl (AOp.callD rfl rfl (ltb rfl) rfl rfl (w_Stride a0.Layout y1 q2) ?_)
 rintro _ rfl
 refine AO.op rfl (AOp.assign rfl rfl (ltb rfl) rfl ?_)
 refine AO.nil ?_
 change AC _ _ _ _
 refine AC.seq ?_
 refine AC.seq ?_
 refine AC.region ?_
 refine AO.op rfl (AOp.fieldAddr rfl rfl (ltb rfl) rfl fo49_0 ?_)
 refine AO.op rfl (AOp.load1 rfl rfl (ltb rfl) rfl agg3 rfl rfl ?_)
 refine AO.op rfl (AOp.ieql rfl rfl (ltb rfl) rfl rfl ?_)
 refine AO.nil ?_
 change AC _ _ _ _
 refine AC.cond rfl (fun q3 => ?_) (fun q3 => ?_)
 ·replace h0 := cT h0 q3
  refine AC.seq ?_
  refine AC.seq ?_
  refine AC.region ?_
  refine AO.op rfl (AOp.fieldAddr rfl rfl (ltb rfl) rfl fo49_6 ?_)
  refine AO.op rfl (AOp.load1 rfl rfl (ltb rfl) rfl agg22 rfl rfl ?_)
  refine AO.op rfl (AOp.lenDs (n := a0.Kids.length) (cells := (List.flatMap c0_TImpl_Geom a0.Kids)) rfl rfl (ltb rfl) rfl el22 (by decide) (lenN _ 7 c0_TImpl_Geom_len _) ?_)
  refine AO.op rfl (AOp.move rfl rfl (ltb rfl) rfl ?_)
  refine AO.nil ?_
  change AC _ _ _ _
  obtain ⟨o4, l5, h0⟩ := bind_elim h0
  refine AC.joinE (V := Unit) [1] [] 1 (fun g6 => []) (fun g6 => [.fix 49 [.d (di .i64 a0.Kind), .d (di .i64 a0.Layout), .d (di .i64 a0.SRID), .d (eS1 a0.Flat), .d (eS2 a0.Ends), .d (eS3 a0.Endss), .d (eS0 a0.Kids)]]) (fun g6 => (p_Good_k1 a0) g6 = some r0) rfl ?_ ?_
  ·refine AC.block ?_
   refine AC.loopP (V := Int) (p_Good_l3 a0 F Rec_) o4 [1, 20, 21] [22] 1 (fun g9 => [(22, .d (di .i64 g9))]) (fun g9 => [.fix 49 [.d (di .i64 a0.Kind), .d (di .i64 a0.Layout), .d (di .i64 a0.SRID), .d (eS1 a0.Flat), .d (eS2 a0.Ends), .d (eS3 a0.Endss), .d (eS0 a0.Kids)]]) F (0 : Int) l5 rfl rfl (LeL.refl _) rfl rfl ?_
   intro n11 g9 h1
   unfold p_Good_l3 at h1
   refine AC.seq ?_
   refine AC.region ?_
   refine AO.op rfl (AOp.ilss rfl rfl (ltb rfl) rfl rfl ?_)
   refine AO.nil ?_
   change AC _ _ _ _
   refine AC.seq ?_
   refine AC.cond rfl (fun q12 => ?_) (fun q12 => ?_)
   ·replace h1 := cT h1 q12
    refine AC.skip ?_
    change AC _ _ _ _
    refine AC.seq ?_
    refine AC.block ?_
    refine AC.seq ?_
    refine AC.region ?_
    obtain ⟨x13, q14, h1⟩ := idx_elim h1
    refine AO.op rfl (AOp.indexDs (cells := (List.flatMap c0_TImpl_Geom a0.Kids)) rfl rfl (ltb rfl) rfl rfl el22 (by decide) q14.1 (ltN 7 c0_TImpl_Geom_len (by decide) q14.2) ?_)
    refine AO.op rfl (AOp.loadEpN rfl rfl (ltb rfl) rfl agg49 size49 (leN 7 c0_TImpl_Geom_len q14.2) ((atN 7 c0_TImpl_Geom_len q14.2).trans (c0_TImpl_Geom_eq x13)) ?_)
    refine AO.op rfl (AOp.alloc rfl rfl (ltb rfl) zero49 rfl ?_)
    refine AO.op rfl (AOp.store rfl rfl rfl rfl size49 rfl rfl rfl (leb rfl) ?_)
    refine AO.nil ?_
    change AC _ _ _ _
    refine AC.seq ?_
    refine AC.draw 15 mixed (by kernel_rfl) ?_
    refine AD.op [5] rfl (by kernel_rfl) rfl rfl (fun _ _ h => AOp.loadN rfl rfl (ltb rfl) rfl agg49 size49 rfl (leb rfl) rfl h) ?_
    obtain ⟨y15, q16, h1⟩ := bind_elim h1
    refine AD.op [26] rfl (by kernel_rfl) rfl rfl (fun _ _ h => AOp.callD rfl rfl (ltb rfl) rfl rfl (hR x13 y15 q16) (by rintro _ rfl; exact h)) ?_
    refine AD.op [27] rfl (by kernel_rfl) rfl rfl (fun _ _ h => AOp.bnot rfl rfl (ltb rfl) rfl h) ?_
    refine AD.op [28] rfl (by kernel_rfl) rfl rfl (fun _ _ h => AOp.move rfl rfl (ltb rfl) rfl h) ?_
    refine AD.dec (!y15) (fun q17 => ?_) (fun q17 => ?_)
    ·replace h1 := cT h1 q17
     refine AD.opN rfl rfl rfl (ltb rfl) rfl q17 ?_
     refine AD.opN rfl rfl rfl (ltb rfl) rfl q17 ?_
     refine AD.opN rfl rfl rfl (ltb rfl) rfl q17 ?_
     refine AD.opN rfl rfl rfl (ltb rfl) rfl q17 ?_
     refine AD.opU rfl rfl rfl (ltb rfl) rfl ?_
     refine AD.opU rfl rfl rfl (ltb rfl) rfl ?_
     refine AD.opU rfl rfl rfl (ltb rfl) rfl ?_
     refine AD.opU rfl rfl rfl (ltb rfl) rfl ?_
     refine AD.opU rfl rfl rfl (ltb rfl) rfl ?_
     refine AD.opN rfl rfl rfl (ltb rfl) rfl q17 ?_
     refine AD.op [29, 39] rfl (by kernel_rfl) rfl rfl (fun _ _ h => AOp.pick rfl rfl (ltb rfl) rfl q17 rfl h) ?_
     refine AD.done ?_
     refine AO.nil ?_
     change AC _ _ _ _
     refine AC.condT rfl rfl ?_
     refine AC.seq ?_
     refine AC.region ?_
     refine AO.op rfl (AOp.assign rfl rfl (ltb rfl) rfl ?_)
     refine AO.nil ?_
     change AC _ _ _ _
     refine AC.ret ?_
     change RetQ _ _ _ .ret _
     obtain rfl := Option.some.inj h1
     replace h0 := aftR h0
     obtain rfl := Option.some.inj h0
     refine retq rfl rfl
    replace h1 := cF h1 q17
    refine AD.opY [1, 29] rfl rfl rfl q17 (by kernel_rfl) rfl rfl (fun _ _ h => AOp.fieldAddr rfl rfl (ltb rfl) rfl fo49_1 h) ?_
    refine AD.opY [29, 30] rfl rfl rfl q17 (by kernel_rfl) rfl rfl (fun _ _ h => AOp.load1 rfl rfl (ltb rfl) rfl agg3 rfl rfl h) ?_
    refine AD.opY [29, 31] rfl rfl rfl q17 (by kernel_rfl) rfl rfl (fun _ _ h => AOp.ineq rfl rfl (ltb rfl) rfl rfl h) ?_
    refine AD.opY [29, 32] rfl rfl rfl q17 (by kernel_rfl) rfl rfl (fun _ _ h => AOp.move rfl rfl (ltb rfl) rfl h) ?_
    refine AD.dec (!decide (a0.Layout = (0 : Int))) (fun q18 => ?_) (fun q18 => ?_)
    ·replace h1 := cT h1 q18
     refine AD.opY [5, 33] rfl rfl rfl q18 (by kernel_rfl) rfl rfl (fun _ _ h => AOp.loadN rfl rfl (ltb rfl) rfl agg49 size49 rfl (leb rfl) rfl h) ?_
     obtain ⟨y19, q20, h1⟩ := bind_elim h1
     refine AD.opY [33, 34] rfl rfl rfl q18 (by kernel_rfl) rfl rfl (fun _ _ h => AOp.callD rfl rfl (ltb rfl) rfl rfl (w_LayoutOf F x13 y19 q20) (by rintro _ rfl; exact h)) ?_
     refine AD.opY [1, 33] rfl rfl rfl q18 (by kernel_rfl) rfl rfl (fun _ _ h => AOp.fieldAddr rfl rfl (ltb rfl) rfl fo49_1 h) ?_
     refine AD.opY [33, 36] rfl rfl rfl q18 (by kernel_rfl) rfl rfl (fun _ _ h => AOp.load1 rfl rfl (ltb rfl) rfl agg3 rfl rfl h) ?_
     refine AD.opY [33, 35, 37] rfl rfl rfl q18 (by kernel_rfl) rfl rfl (fun _ _ h => AOp.ineq rfl rfl (ltb rfl) rfl rfl h) ?_
     refine AD.opY [29, 33, 38] rfl rfl rfl q17 (by kernel_rfl) rfl rfl (fun _ _ h => AOp.pick rfl rfl (ltb rfl) rfl q18 rfl h) ?_
     refine AD.op [29, 39] rfl (by kernel_rfl) rfl rfl (fun _ _ h => AOp.pickN rfl rfl (ltb rfl) rfl q17 rfl h) ?_
     refine AD.done ?_
     refine AO.nil ?_
     change AC _ _ _ _
     refine AC.cond rfl (fun q21 => ?_) (fun q21 => ?_)
     ·replace h1 := cT h1 q21
      refine AC.seq ?_
      refine AC.region ?_
      refine AO.op rfl (AOp.assign rfl rfl (ltb rfl) rfl ?_)
      refine AO.nil ?_
      change AC _ _ _ _
      refine AC.ret ?_
      change RetQ _ _ _ .ret _
      obtain rfl := Option.some.inj h1
      replace h0 := aftR h0
      obtain rfl := Option.some.inj h0
      refine retq rfl rfl
     replace h1 := cF h1 q21
     refine AC.skip ?_
     change AC _ _ _ _
     refine AC.region ?_
     obtain ⟨q22, h1⟩ := need_elim h1
     refine AO.op rfl (AOp.iadd rfl rfl (ltb rfl) rfl rfl rfl q22.1 q22.2 ?_)
     refine AO.op rfl (AOp.move rfl rfl (ltb rfl) rfl ?_)
     refine AO.nil ?_
     exact ⟨(g9 + (1 : Int)), _, rfl, (LeL.refl _), rfl, rfl, h1⟩
    replace h1 := cF h1 q18
    refine AD.opN rfl rfl rfl (ltb rfl) rfl q18 ?_
    refine AD.opN rfl rfl rfl (ltb rfl) rfl q18 ?_
    refine AD.opN rfl rfl rfl (ltb rfl) rfl q18 ?_
    refine AD.opN rfl rfl rfl (ltb rfl) rfl q18 ?_
    refine AD.opN rfl rfl rfl (ltb rfl) rfl q18 ?_
    refine AD.opY [29, 33, 38] rfl rfl rfl q17 (by kernel_rfl) rfl rfl (fun _ _ h => AOp.pickN rfl rfl (ltb rfl) rfl q18 rfl h) ?_
    refine AD.op [29, 39] rfl (by kernel_rfl) rfl rfl (fun _ _ h => AOp.pickN rfl rfl (ltb rfl) rfl q17 rfl h) ?_
    refine AD.done ?_
    refine AO.nil ?_
    change AC _ _ _ _
    refine AC.condF rfl rfl ?_
    refine AC.skip ?_
    change AC _ _ _ _
    refine AC.region ?_
    obtain ⟨q23, h1⟩ := need_elim h1
    refine AO.op rfl (AOp.iadd rfl rfl (ltb rfl) rfl rfl rfl q23.1 q23.2 ?_)
    refine AO.op rfl (AOp.move rfl rfl (ltb rfl) rfl ?_)
    refine AO.nil ?_
    exact ⟨(g9 + (1 : Int)), _, rfl, (LeL.refl _), rfl, rfl, h1⟩
   replace h1 := cF h1 q12
   refine AC.exit ?_
   obtain rfl := Option.some.inj h1
   exact ⟨(), _, rfl, (LeL.refl _), rfl, rfl, aftL h0⟩
  intro g6 h0
  unfold p_Good_k1 at h0
  change AC _ _ _ _
  refine AC.joinP (V := Bool) [] [2] 1 (fun g7 => [(2, .d (dbool g7))]) (fun g7 => [.fix 49 [.d (di .i64 a0.Kind), .d (di .i64 a0.Layout), .d (di .i64 a0.SRID), .d (eS1 a0.Flat), .d (eS2 a0.Ends), .d (eS3 a0.Endss), .d (eS0 a0.Kids)]]) (fun g7 => p_Good_k2 g7 = some r0) rfl ?_ ?_
  ·refine AC.region ?_
   refine AO.op rfl (AOp.fieldAddr rfl rfl (ltb rfl) rfl fo49_1 ?_)
   refine AO.op rfl (AOp.load1 rfl rfl (ltb rfl) rfl agg3 rfl rfl ?_)
   refine AO.op rfl (AOp.igeq rfl rfl (ltb rfl) rfl rfl ?_)
   refine AO.op rfl (AOp.move rfl rfl (ltb rfl) rfl ?_)
   refine AO.dec (decide ((0 : Int) ≤ a0.Layout)) (fun q8 => ?_) (fun q8 => ?_)
   ·replace h0 := cT h0 q8
    refine AO.guardY rfl rfl rfl q8 (AOp.fieldAddr rfl rfl (ltb rfl) rfl fo49_3 ?_)
    refine AO.guardY rfl rfl rfl q8 (AOp.load1 rfl rfl (ltb rfl) rfl agg40 rfl rfl ?_)
    refine AO.guardY rfl rfl rfl q8 (AOp.lenDs (n := a0.Flat.length) (cells := (List.map keS1 a0.Flat)) rfl rfl (ltb rfl) rfl el40 (by decide) (len1 _ _) ?_)
    refine AO.guardY rfl rfl rfl q8 (AOp.fieldAddr rfl rfl (ltb rfl) rfl fo49_4 ?_)
    refine AO.guardY rfl rfl rfl q8 (AOp.load1 rfl rfl (ltb rfl) rfl agg46 rfl rfl ?_)
    refine AO.guardY rfl rfl rfl q8 (AOp.lenDs (n := a0.Ends.length) (cells := (List.map keS2 a0.Ends)) rfl rfl (ltb rfl) rfl el46 (by decide) (len1 _ _) ?_)
    refine AO.guardY rfl rfl rfl q8 (AOp.iwAdd rfl rfl (ltb rfl) rfl rfl ?_)
    refine AO.guardY rfl rfl rfl q8 (AOp.fieldAddr rfl rfl (ltb rfl) rfl fo49_5 ?_)
    refine AO.guardY rfl rfl rfl q8 (AOp.load1 rfl rfl (ltb rfl) rfl agg47 rfl rfl ?_)
    refine AO.guardY rfl rfl rfl q8 (AOp.lenDs (n := a0.Endss.length) (cells := (List.map keS3 a0.Endss)) rfl rfl (ltb rfl) rfl el47 (by decide) (len1 _ _) ?_)
    refine AO.guardY rfl rfl rfl q8 (AOp.iwAdd rfl rfl (ltb rfl) rfl rfl ?_)
    refine AO.guardY rfl rfl rfl q8 (AOp.ieql rfl rfl (ltb rfl) rfl rfl ?_)
    refine AO.op rfl (AOp.pick rfl rfl (ltb rfl) rfl q8 rfl ?_)
    refine AO.op rfl (AOp.assign rfl rfl (ltb rfl) rfl ?_)
    refine AO.nil ?_
    exact ⟨(decide ((IntKind.i64.wrap ((IntKind.i64.wrap (((a0.Flat.length : Nat) : Int) + ((a0.Ends.length : Nat) : Int))) + ((a0.Endss.length : Nat) : Int))) = (0 : Int))), _, rfl, (LeL.refl _), rfl, rfl, h0⟩
   replace h0 := cF h0 q8
   refine AO.guardN rfl rfl rfl (ltb rfl) rfl q8 ?_
   refine AO.guardN rfl rfl rfl (ltb rfl) rfl q8 ?_
   refine AO.guardN rfl rfl rfl (ltb rfl) rfl q8 ?_
   refine AO.guardN rfl rfl rfl (ltb rfl) rfl q8 ?_
   refine AO.guardN rfl rfl rfl (ltb rfl) rfl q8 ?_
   refine AO.guardN rfl rfl rfl (ltb rfl) rfl q8 ?_
   refine AO.guardN rfl rfl rfl (ltb rfl) rfl q8 ?_
   refine AO.guardN rfl rfl rfl (ltb rfl) rfl q8 ?_
   refine AO.guardN rfl rfl rfl (ltb rfl) rfl q8 ?_
   refine AO.guardN rfl rfl rfl (ltb rfl) rfl q8 ?_
   refine AO.guardN rfl rfl rfl (ltb rfl) rfl q8 ?_
   refine AO.guardN rfl rfl rfl (ltb rfl) rfl q8 ?_
   refine AO.op rfl (AOp.pickN rfl rfl (ltb rfl) rfl q8 rfl ?_)
   refine AO.op rfl (AOp.assign rfl rfl (ltb rfl) rfl ?_)
   refine AO.nil ?_
   exact ⟨false, _, rfl, (LeL.refl _), rfl, rfl, h0⟩
  intro g7 h0
  unfold p_Good_k2 at h0
  refine AC.ret ?_
  change RetQ _ _ _ .ret _
  obtain rfl := Option.some.inj h0
  refine retq rfl rfl
 replace h0 := cF h0 q3
 refine AC.skip ?_
 change AC _ _ _ _
 refine AC.joinP (V := Unit) [1, 3] [] 1 (fun g24 => []) (fun g24 => [.fix 49 [.d (di .i64 a0.Kind), .d (di .i64 a0.Layout), .d (di .i64 a0.SRID), .d (eS1 a0.Flat), .d (eS2 a0.Ends), .d (eS3 a0.Endss), .d (eS0 a0.Kids)]]) (fun g24 => (p_Good_k4 a0 F y1) g24 = some r0) rfl ?_ ?_
 ·refine AC.seq ?_
  refine AC.region ?_
  refine AO.op rfl (AOp.move rfl rfl (ltb rfl) rfl ?_)
  refine AO.op rfl (AOp.ieql rfl rfl (ltb rfl) rfl rfl ?_)
  refine AO.op rfl (AOp.move rfl rfl (ltb rfl) rfl ?_)
  refine AO.dec (decide (y1 = (0 : Int))) (fun q54 => ?_) (fun q54 => ?_)
  ·replace h0 := cT h0 q54
   refine AO.guardN rfl rfl rfl (ltb rfl) rfl q54 ?_
   refine AO.guardN rfl rfl rfl (ltb rfl) rfl q54 ?_
   refine AO.guardN rfl rfl rfl (ltb rfl) rfl q54 ?_
   refine AO.guardN rfl rfl rfl (ltb rfl) rfl q54 ?_
   refine AO.guardN rfl rfl rfl (ltb rfl) rfl q54 ?_
   refine AO.guardN rfl rfl rfl (ltb rfl) rfl q54 ?_
   refine AO.op rfl (AOp.pick rfl rfl (ltb rfl) rfl q54 rfl ?_)
   refine AO.op rfl (AOp.move rfl rfl (ltb rfl) rfl ?_)
   refine AO.guardN rfl rfl rfl (ltb rfl) rfl rfl ?_
   refine AO.guardN rfl rfl rfl (ltb rfl) rfl rfl ?_
   refine AO.guardN rfl rfl rfl (ltb rfl) rfl rfl ?_
   refine AO.guardN rfl rfl rfl (ltb rfl) rfl rfl ?_
   refine AO.op rfl (AOp.pick rfl rfl (ltb rfl) rfl rfl rfl ?_)
   refine AO.op rfl (AOp.move rfl rfl (ltb rfl) rfl ?_)
   refine AO.guardN rfl rfl rfl (ltb rfl) rfl rfl ?_
   refine AO.guardN rfl rfl rfl (ltb rfl) rfl rfl ?_
   refine AO.guardN rfl rfl rfl (ltb rfl) rfl rfl ?_
   refine AO.guardN rfl rfl rfl (ltb rfl) rfl rfl ?_
   refine AO.guardN rfl rfl rfl (ltb rfl) rfl rfl ?_
   refine AO.guardU rfl rfl rfl (ltb rfl) rfl ?_
   refine AO.guardU rfl rfl rfl (ltb rfl) rfl ?_
   refine AO.guardU rfl rfl rfl (ltb rfl) rfl ?_
   refine AO.guardN rfl rfl rfl (ltb rfl) rfl rfl ?_
   refine AO.op rfl (AOp.pick rfl rfl (ltb rfl) rfl rfl rfl ?_)
   refine AO.nil ?_
   change AC _ _ _ _
   refine AC.condT rfl rfl ?_
   refine AC.seq ?_
   refine AC.region ?_
   refine AO.op rfl (AOp.assign rfl rfl (ltb rfl) rfl ?_)
   refine AO.nil ?_
   change AC _ _ _ _
   refine AC.ret ?_
   change RetQ _ _ _ .ret _
   obtain rfl := Option.some.inj h0
   refine retq rfl rfl
  replace h0 := cF h0 q54
  refine AO.guardY rfl rfl rfl q54 (AOp.fieldAddr rfl rfl (ltb rfl) rfl fo49_3 ?_)
  refine AO.guardY rfl rfl rfl q54 (AOp.load1 rfl rfl (ltb rfl) rfl agg40 rfl rfl ?_)
  refine AO.guardY rfl rfl rfl q54 (AOp.lenDs (n := a0.Flat.length) (cells := (List.map keS1 a0.Flat)) rfl rfl (ltb rfl) rfl el40 (by decide) (len1 _ _) ?_)
  refine AO.guardY rfl rfl rfl q54 (AOp.move rfl rfl (ltb rfl) rfl ?_)
  obtain ⟨q55, h0⟩ := need_elim h0
  refine AO.guardY rfl rfl rfl q54 (AOp.irem rfl rfl (ltb rfl) rfl rfl q55 rfl ?_)
  refine AO.guardY rfl rfl rfl q54 (AOp.ineq rfl rfl (ltb rfl) rfl rfl ?_)
  refine AO.op rfl (AOp.pickN rfl rfl (ltb rfl) rfl q54 rfl ?_)
  refine AO.op rfl (AOp.move rfl rfl (ltb rfl) rfl ?_)
  refine AO.dec (!decide ((Int.tmod ((a0.Flat.length : Nat) : Int) y1) = (0 : Int))) (fun q56 => ?_) (fun q56 => ?_)
  ·replace h0 := cT h0 q56
   refine AO.guardN rfl rfl rfl (ltb rfl) rfl q56 ?_
   refine AO.guardN rfl rfl rfl (ltb rfl) rfl q56 ?_
   refine AO.guardN rfl rfl rfl (ltb rfl) rfl q56 ?_
   refine AO.guardN rfl rfl rfl (ltb rfl) rfl q56 ?_
   refine AO.op rfl (AOp.pick rfl rfl (ltb rfl) rfl q56 rfl ?_)
   refine AO.op rfl (AOp.move rfl rfl (ltb rfl) rfl ?_)
   refine AO.guardN rfl rfl rfl (ltb rfl) rfl rfl ?_
   refine AO.guardN rfl rfl rfl (ltb rfl) rfl rfl ?_
   refine AO.guardN rfl rfl rfl (ltb rfl) rfl rfl ?_
   refine AO.guardN rfl rfl rfl (ltb rfl) rfl rfl ?_
   refine AO.guardN rfl rfl rfl (ltb rfl) rfl rfl ?_
   refine AO.guardU rfl rfl rfl (ltb rfl) rfl ?_
   refine AO.guardU rfl rfl rfl (ltb rfl) rfl ?_
   refine AO.guardU rfl rfl rfl (ltb rfl) rfl ?_
   refine AO.guardN rfl rfl rfl (ltb rfl) rfl rfl ?_
   refine AO.op rfl (AOp.pick rfl rfl (ltb rfl) rfl rfl rfl ?_)
   refine AO.nil ?_
   change AC _ _ _ _
   refine AC.condT rfl rfl ?_
   refine AC.seq ?_
   refine AC.region ?_
   refine AO.op rfl (AOp.assign rfl rfl (ltb rfl) rfl ?_)
   refine AO.nil ?_
   change AC _ _ _ _
   refine AC.ret ?_
   change RetQ _ _ _ .ret _
   obtain rfl := Option.some.inj h0
   refine retq rfl rfl
  replace h0 := cF h0 q56
  refine AO.guardY rfl rfl rfl q56 (AOp.fieldAddr rfl rfl (ltb rfl) rfl fo49_6 ?_)
  refine AO.guardY rfl rfl rfl q56 (AOp.load1 rfl rfl (ltb rfl) rfl agg22 rfl rfl ?_)
  refine AO.guardY rfl rfl rfl q56 (AOp.lenDs (n := a0.Kids.length) (cells := (List.flatMap c0_TImpl_Geom a0.Kids)) rfl rfl (ltb rfl) rfl el22 (by decide) (lenN _ 7 c0_TImpl_Geom_len _) ?_)
  refine AO.guardY rfl rfl rfl q56 (AOp.igtr rfl rfl (ltb rfl) rfl rfl ?_)
  refine AO.op rfl (AOp.pickN rfl rfl (ltb rfl) rfl q56 rfl ?_)
  refine AO.op rfl (AOp.move rfl rfl (ltb rfl) rfl ?_)
  refine AO.dec (decide ((0 : Int) < ((a0.Kids.length : Nat) : Int))) (fun q57 => ?_) (fun q57 => ?_)
  ·replace h0 := cT h0 q57
   refine AO.guardN rfl rfl rfl (ltb rfl) rfl q57 ?_
   refine AO.guardN rfl rfl rfl (ltb rfl) rfl q57 ?_
   refine AO.guardN rfl rfl rfl (ltb rfl) rfl q57 ?_
   refine AO.guardN rfl rfl rfl (ltb rfl) rfl q57 ?_
   refine AO.guardN rfl rfl rfl (ltb rfl) rfl q57 ?_
   refine AO.guardU rfl rfl rfl (ltb rfl) rfl ?_
   refine AO.guardU rfl rfl rfl (ltb rfl) rfl ?_
   refine AO.guardU rfl rfl rfl (ltb rfl) rfl ?_
   refine AO.guardN rfl rfl rfl (ltb rfl) rfl q57 ?_
   refine AO.op rfl (AOp.pick rfl rfl (ltb rfl) rfl q57 rfl ?_)
   refine AO.nil ?_
   change AC _ _ _ _
   refine AC.condT rfl rfl ?_
   refine AC.seq ?_
   refine AC.region ?_
   refine AO.op rfl (AOp.assign rfl rfl (ltb rfl) rfl ?_)
   refine AO.nil ?_
   change AC _ _ _ _
   refine AC.ret ?_
   change RetQ _ _ _ .ret _
   obtain rfl := Option.some.inj h0
   refine retq rfl rfl
  replace h0 := cF h0 q57
  refine AO.guardY rfl rfl rfl q57 (AOp.fieldAddr rfl rfl (ltb rfl) rfl fo49_5 ?_)
  refine AO.guardY rfl rfl rfl q57 (AOp.load1 rfl rfl (ltb rfl) rfl agg47 rfl rfl ?_)
  refine AO.guardY rfl rfl rfl q57 (AOp.lenDs (n := a0.Endss.length) (cells := (List.map keS3 a0.Endss)) rfl rfl (ltb rfl) rfl el47 (by decide) (len1 _ _) ?_)
  refine AO.guardY rfl rfl rfl q57 (AOp.igtr rfl rfl (ltb rfl) rfl rfl ?_)
  refine AO.guardY rfl rfl rfl q57 (AOp.move rfl rfl (ltb rfl) rfl ?_)
  refine AO.dec (decide ((0 : Int) < ((a0.Endss.length : Nat) : Int))) (fun q58 => ?_) (fun q58 => ?_)
  ·replace h0 := cT h0 q58
   refine AO.guardY rfl rfl rfl q58 (AOp.fieldAddr rfl rfl (ltb rfl) rfl fo49_0 ?_)
   refine AO.guardY rfl rfl rfl q58 (AOp.load1 rfl rfl (ltb rfl) rfl agg3 rfl rfl ?_)
   refine AO.guardY rfl rfl rfl q58 (AOp.ineq rfl rfl (ltb rfl) rfl rfl ?_)
   refine AO.guardY rfl rfl rfl q57 (AOp.pick rfl rfl (ltb rfl) rfl q58 rfl ?_)
   refine AO.op rfl (AOp.pickN rfl rfl (ltb rfl) rfl q57 rfl ?_)
   refine AO.nil ?_
   change AC _ _ _ _
   refine AC.cond rfl (fun q59 => ?_) (fun q59 => ?_)
   ·replace h0 := cT h0 q59
    refine AC.seq ?_
    refine AC.region ?_
    refine AO.op rfl (AOp.assign rfl rfl (ltb rfl) rfl ?_)
    refine AO.nil ?_
    change AC _ _ _ _
    refine AC.ret ?_
    change RetQ _ _ _ .ret _
    obtain rfl := Option.some.inj h0
    refine retq rfl rfl
   replace h0 := cF h0 q59
   refine AC.skip ?_
   exact ⟨(), _, rfl, (LeL.refl _), rfl, rfl, h0⟩
  replace h0 := cF h0 q58
  refine AO.guardN rfl rfl rfl (ltb rfl) rfl q58 ?_
  refine AO.guardN rfl rfl rfl (ltb rfl) rfl q58 ?_
  refine AO.guardN rfl rfl rfl (ltb rfl) rfl q58 ?_
  refine AO.guardY rfl rfl rfl q57 (AOp.pickN rfl rfl (ltb rfl) rfl q58 rfl ?_)
  refine AO.op rfl (AOp.pickN rfl rfl (ltb rfl) rfl q57 rfl ?_)
  refine AO.nil ?_
  change AC _ _ _ _
  refine AC.condF rfl rfl ?_
  refine AC.skip ?_
  exact ⟨(), _, rfl, (LeL.refl _), rfl, rfl, h0⟩
 intro g24 h0
 unfold p_Good_k4 at h0
 refine AC.seq ?_
 refine AC.seq ?_
 refine AC.region ?_
 refine AO.op rfl (AOp.fieldAddr rfl rfl (ltb rfl) rfl fo49_0 ?_)
 refine AO.op rfl (AOp.load1 rfl rfl (ltb rfl) rfl agg3 rfl rfl ?_)
 refine AO.nil ?_
 change AC _ _ _ _
 refine AC.block ?_
 refine AC.seq ?_
 refine AC.region ?_
 refine AO.op rfl (AOp.ieql rfl rfl (ltb rfl) rfl rfl ?_)
 refine AO.op rfl (AOp.assign rfl rfl (ltb rfl) rfl ?_)
 refine AO.nil ?_
 change AC _ _ _ _
 refine AC.cond rfl (fun q25 => ?_) (fun q25 => ?_)
 ·replace h0 := cT h0 q25
  refine AC.seq ?_
  refine AC.region ?_
  refine AO.op rfl (AOp.fieldAddr rfl rfl (ltb rfl) rfl fo49_4 ?_)
  refine AO.op rfl (AOp.load1 rfl rfl (ltb rfl) rfl agg46 rfl rfl ?_)
  refine AO.op rfl (AOp.lenDs (n := a0.Ends.length) (cells := (List.map keS2 a0.Ends)) rfl rfl (ltb rfl) rfl el46 (by decide) (len1 _ _) ?_)
  refine AO.op rfl (AOp.ieql rfl rfl (ltb rfl) rfl rfl ?_)
  refine AO.op rfl (AOp.move rfl rfl (ltb rfl) rfl ?_)
  refine AO.dec (decide (((a0.Ends.length : Nat) : Int) = (0 : Int))) (fun q26 => ?_) (fun q26 => ?_)
  ·replace h0 := cT h0 q26
   refine AO.guardY rfl rfl rfl q26 (AOp.fieldAddr rfl rfl (ltb rfl) rfl fo49_3 ?_)
   refine AO.guardY rfl rfl rfl q26 (AOp.load1 rfl rfl (ltb rfl) rfl agg40 rfl rfl ?_)
   refine AO.guardY rfl rfl rfl q26 (AOp.lenDs (n := a0.Flat.length) (cells := (List.map keS1 a0.Flat)) rfl rfl (ltb rfl) rfl el40 (by decide) (len1 _ _) ?_)
   refine AO.guardY rfl rfl rfl q26 (AOp.move rfl rfl (ltb rfl) rfl ?_)
   refine AO.guardY rfl rfl rfl q26 (AOp.ileq rfl rfl (ltb rfl) rfl rfl ?_)
   refine AO.op rfl (AOp.pick rfl rfl (ltb rfl) rfl q26 rfl ?_)
   refine AO.op rfl (AOp.assign rfl rfl (ltb rfl) rfl ?_)
   refine AO.nil ?_
   change AC _ _ _ _
   refine AC.ret ?_
   change RetQ _ _ _ .ret _
   obtain rfl := Option.some.inj h0
   refine retq rfl rfl
  replace h0 := cF h0 q26
  refine AO.guardN rfl rfl rfl (ltb rfl) rfl q26 ?_
  refine AO.guardN rfl rfl rfl (ltb rfl) rfl q26 ?_
  refine AO.guardN rfl rfl rfl (ltb rfl) rfl q26 ?_
  refine AO.guardN rfl rfl rfl (ltb rfl) rfl q26 ?_
  refine AO.guardN rfl rfl rfl (ltb rfl) rfl q26 ?_
  refine AO.op rfl (AOp.pickN rfl rfl (ltb rfl) rfl q26 rfl ?_)
  refine AO.op rfl (AOp.assign rfl rfl (ltb rfl) rfl ?_)
  refine AO.nil ?_
  change AC _ _ _ _
  refine AC.ret ?_
  change RetQ _ _ _ .ret _
  obtain rfl := Option.some.inj h0
  refine retq rfl rfl
 replace h0 := cF h0 q25
 refine AC.joinP (V := Bool) [1, 3, 87] [101] 1 (fun g27 => [(101, .d (dbool g27))]) (fun g27 => [.fix 49 [.d (di .i64 a0.Kind), .d (di .i64 a0.Layout), .d (di .i64 a0.SRID), .d (eS1 a0.Flat), .d (eS2 a0.Ends), .d (eS3 a0.Endss), .d (eS0 a0.Kids)]]) (fun g27 => (p_Good_k5 a0 F y1) g27 = some r0) rfl ?_ ?_
 ·refine AC.seq ?_
  refine AC.region ?_
  refine AO.op rfl (AOp.ieql rfl rfl (ltb rfl) rfl rfl ?_)
  refine AO.op rfl (AOp.assign rfl rfl (ltb rfl) rfl ?_)
  refine AO.nil ?_
  change AC _ _ _ _
  refine AC.cond rfl (fun q53 => ?_) (fun q53 => ?_)
  ·replace h0 := cT h0 q53
   refine AC.skip ?_
   exact ⟨(decide (a0.Kind = (2 : Int))), _, rfl, (LeL.refl _), rfl, rfl, h0⟩
  replace h0 := cF h0 q53
  refine AC.region ?_
  refine AO.op rfl (AOp.ieql rfl rfl (ltb rfl) rfl rfl ?_)
  refine AO.op rfl (AOp.assign rfl rfl (ltb rfl) rfl ?_)
  refine AO.nil ?_
  exact ⟨(decide (a0.Kind = (8 : Int))), _, rfl, (LeL.refl _), rfl, rfl, h0⟩
 intro g27 h0
 unfold p_Good_k5 at h0
 refine AC.cond rfl (fun q28 => ?_) (fun q28 => ?_)
 ·replace h0 := cT h0 q28
  refine AC.seq ?_
  refine AC.region ?_
  refine AO.op rfl (AOp.fieldAddr rfl rfl (ltb rfl) rfl fo49_4 ?_)
  refine AO.op rfl (AOp.load1 rfl rfl (ltb rfl) rfl agg46 rfl rfl ?_)
  refine AO.op rfl (AOp.lenDs (n := a0.Ends.length) (cells := (List.map keS2 a0.Ends)) rfl rfl (ltb rfl) rfl el46 (by decide) (len1 _ _) ?_)
  refine AO.op rfl (AOp.ieql rfl rfl (ltb rfl) rfl rfl ?_)
  refine AO.op rfl (AOp.assign rfl rfl (ltb rfl) rfl ?_)
  refine AO.nil ?_
  change AC _ _ _ _
  refine AC.ret ?_
  change RetQ _ _ _ .ret _
  obtain rfl := Option.some.inj h0
  refine retq rfl rfl
 replace h0 := cF h0 q28
 refine AC.joinP (V := Bool) [1, 3, 87] [108] 1 (fun g29 => [(108, .d (dbool g29))]) (fun g29 => [.fix 49 [.d (di .i64 a0.Kind), .d (di .i64 a0.Layout), .d (di .i64 a0.SRID), .d (eS1 a0.Flat), .d (eS2 a0.Ends), .d (eS3 a0.Endss), .d (eS0 a0.Kids)]]) (fun g29 => (p_Good_k6 a0 F y1) g29 = some r0) rfl ?_ ?_
 ·refine AC.seq ?_
  refine AC.region ?_
  refine AO.op rfl (AOp.ieql rfl rfl (ltb rfl) rfl rfl ?_)
  refine AO.op rfl (AOp.assign rfl rfl (ltb rfl) rfl ?_)
  refine AO.nil ?_
  change AC _ _ _ _
  refine AC.cond rfl (fun q51 => ?_) (fun q51 => ?_)
  ·replace h0 := cT h0 q51
   refine AC.skip ?_
   exact ⟨(decide (a0.Kind = (3 : Int))), _, rfl, (LeL.refl _), rfl, rfl, h0⟩
  replace h0 := cF h0 q51
  refine AC.seq ?_
  refine AC.region ?_
  refine AO.op rfl (AOp.ieql rfl rfl (ltb rfl) rfl rfl ?_)
  refine AO.op rfl (AOp.assign rfl rfl (ltb rfl) rfl ?_)
  refine AO.nil ?_
  change AC _ _ _ _
  refine AC.cond rfl (fun q52 => ?_) (fun q52 => ?_)
  ·replace h0 := cT h0 q52
   refine AC.skip ?_
   exact ⟨(decide (a0.Kind = (4 : Int))), _, rfl, (LeL.refl _), rfl, rfl, h0⟩
  replace h0 := cF h0 q52
  refine AC.region ?_
  refine AO.op rfl (AOp.ieql rfl rfl (ltb rfl) rfl rfl ?_)
  refine AO.op rfl (AOp.assign rfl rfl (ltb rfl) rfl ?_)
  refine AO.nil ?_
  exact ⟨(decide (a0.Kind = (5 : Int))), _, rfl, (LeL.refl _), rfl, rfl, h0⟩
 intro g29 h0
 unfold p_Good_k6 at h0
 refine AC.cond rfl (fun q30 => ?_) (fun q30 => ?_)
 ·replace h0 := cT h0 q30
  refine AC.seq ?_
  refine AC.region ?_
  refine AO.op rfl (AOp.fieldAddr rfl rfl (ltb rfl) rfl fo49_4 ?_)
  refine AO.op rfl (AOp.load1 rfl rfl (ltb rfl) rfl agg46 rfl rfl ?_)
  refine AO.op rfl (AOp.move rfl rfl (ltb rfl) rfl ?_)
  refine AO.op rfl (AOp.fieldAddr rfl rfl (ltb rfl) rfl fo49_0 ?_)
  refine AO.op rfl (AOp.load1 rfl rfl (ltb rfl) rfl agg3 rfl rfl ?_)
  refine AO.op rfl (AOp.ieql rfl rfl (ltb rfl) rfl rfl ?_)
  obtain ⟨y31, q32, h0⟩ := bind_elim h0
  refine AO.op rfl (AOp.callD rfl rfl (ltb rfl) rfl rfl (w_goodEnds F a0.Ends (0 : Int) y1 (decide (a0.Kind = (4 : Int))) y31 q32) ?_)
  rintro _ rfl
  refine AO.op rfl (AOp.move rfl rfl (ltb rfl) rfl ?_)
  first | refine AO.op rfl (AOp.extractD rfl rfl (ltb rfl) rfl rfl ?_) | refine AO.op rfl (AOp.extract rfl rfl (ltb rfl) rfl rfl ?_)
  first | refine AO.op rfl (AOp.extractD rfl rfl (ltb rfl) rfl rfl ?_) | refine AO.op rfl (AOp.extract rfl rfl (ltb rfl) rfl rfl ?_)
  refine AO.op rfl (AOp.assign rfl rfl (ltb rfl) rfl ?_)
  refine AO.op rfl (AOp.assign rfl rfl (ltb rfl) rfl ?_)
  refine AO.nil ?_
  change AC _ _ _ _
  refine AC.seq ?_
  refine AC.region ?_
  refine AO.op rfl (AOp.move rfl rfl (ltb rfl) rfl ?_)
  refine AO.op rfl (AOp.move rfl rfl (ltb rfl) rfl ?_)
  refine AO.dec y31.2 (fun q33 => ?_) (fun q33 => ?_)
  ·replace h0 := cT h0 q33
   refine AO.guardY rfl rfl rfl q33 (AOp.move rfl rfl (ltb rfl) rfl ?_)
   refine AO.guardY rfl rfl rfl q33 (AOp.fieldAddr rfl rfl (ltb rfl) rfl fo49_3 ?_)
   refine AO.guardY rfl rfl rfl q33 (AOp.load1 rfl rfl (ltb rfl) rfl agg40 rfl rfl ?_)
   refine AO.guardY rfl rfl rfl q33 (AOp.lenDs (n := a0.Flat.length) (cells := (List.map keS1 a0.Flat)) rfl rfl (ltb rfl) rfl el40 (by decide) (len1 _ _) ?_)
   refine AO.guardY rfl rfl rfl q33 (AOp.ieql rfl rfl (ltb rfl) rfl rfl ?_)
   refine AO.op rfl (AOp.pick rfl rfl (ltb rfl) rfl q33 rfl ?_)
   refine AO.op rfl (AOp.assign rfl rfl (ltb rfl) rfl ?_)
   refine AO.nil ?_
   change AC _ _ _ _
   refine AC.ret ?_
   change RetQ _ _ _ .ret _
   obtain rfl := Option.some.inj h0
   refine retq rfl rfl
  replace h0 := cF h0 q33
  refine AO.guardN rfl rfl rfl (ltb rfl) rfl q33 ?_
  refine AO.guardN rfl rfl rfl (ltb rfl) rfl q33 ?_
  refine AO.guardN rfl rfl rfl (ltb rfl) rfl q33 ?_
  refine AO.guardN rfl rfl rfl (ltb rfl) rfl q33 ?_
  refine AO.guardN rfl rfl rfl (ltb rfl) rfl q33 ?_
  refine AO.op rfl (AOp.pickN rfl rfl (ltb rfl) rfl q33 rfl ?_)
  refine AO.op rfl (AOp.assign rfl rfl (ltb rfl) rfl ?_)
  refine AO.nil ?_
  change AC _ _ _ _
  refine AC.ret ?_
  change RetQ _ _ _ .ret _
  obtain rfl := Option.some.inj h0
  refine retq rfl rfl
 replace h0 := cF h0 q30
 refine AC.seq ?_
 refine AC.region ?_
 refine AO.op rfl (AOp.ieql rfl rfl (ltb rfl) rfl rfl ?_)
 refine AO.op rfl (AOp.assign rfl rfl (ltb rfl) rfl ?_)
 refine AO.nil ?_
 change AC _ _ _ _
 refine AC.cond rfl (fun q34 => ?_) (fun q34 => ?_)
 ·replace h0 := cT h0 q34
  refine AC.seq ?_
  refine AC.region ?_
  refine AO.op rfl (AOp.assign rfl rfl (ltb rfl) rfl ?_)
  refine AO.op rfl (AOp.assign rfl rfl (ltb rfl) rfl ?_)
  refine AO.nil ?_
  change AC _ _ _ _
  refine AC.seq ?_
  refine AC.seq ?_
  refine AC.region ?_
  refine AO.op rfl (AOp.fieldAddr rfl rfl (ltb rfl) rfl fo49_5 ?_)
  refine AO.op rfl (AOp.load1 rfl rfl (ltb rfl) rfl agg47 rfl rfl ?_)
  refine AO.op rfl (AOp.lenDs (n := a0.Endss.length) (cells := (List.map keS3 a0.Endss)) rfl rfl (ltb rfl) rfl el47 (by decide) (len1 _ _) ?_)
  refine AO.op rfl (AOp.move rfl rfl (ltb rfl) rfl ?_)
  refine AO.nil ?_
  change AC _ _ _ _
  obtain ⟨o35, l36, h0⟩ := bind_elim h0
  refine AC.joinE (V := (Int × Bool)) [1] [8, 9] 1 (fun g37 => [(8, .d (di .i64 g37.1)), (9, .d (dbool g37.2))]) (fun g37 => [.fix 49 [.d (di .i64 a0.Kind), .d (di .i64 a0.Layout), .d (di .i64 a0.SRID), .d (eS1 a0.Flat), .d (eS2 a0.Ends), .d (eS3 a0.Endss), .d (eS0 a0.Kids)]]) (fun g37 => (p_Good_k7 a0) g37 = some r0) rfl ?_ ?_
  ·refine AC.block ?_
   refine AC.loopP (V := (Int × Bool × Int)) (p_Good_l8 a0 F y1) o35 [1, 3, 133, 134] [8, 9, 135] 1 (fun g40 => [(8, .d (di .i64 g40.1)), (9, .d (dbool g40.2.1)), (135, .d (di .i64 g40.2.2))]) (fun g40 => [.fix 49 [.d (di .i64 a0.Kind), .d (di .i64 a0.Layout), .d (di .i64 a0.SRID), .d (eS1 a0.Flat), .d (eS2 a0.Ends), .d (eS3 a0.Endss), .d (eS0 a0.Kids)]]) F ((0 : Int), true, (0 : Int)) l36 rfl rfl (LeL.refl _) rfl rfl ?_
   intro n42 g40 h1
   unfold p_Good_l8 at h1
   refine AC.seq ?_
   refine AC.region ?_
   refine AO.op rfl (AOp.ilss rfl rfl (ltb rfl) rfl rfl ?_)
   refine AO.nil ?_
   change AC _ _ _ _
   refine AC.seq ?_
   refine AC.cond rfl (fun q43 => ?_) (fun q43 => ?_)
   ·replace h1 := cT h1 q43
    refine AC.skip ?_
    change AC _ _ _ _
    refine AC.seq ?_
    refine AC.block ?_
    refine AC.seq ?_
    refine AC.region ?_
    obtain ⟨x44, q45, h1⟩ := idx_elim h1
    refine AO.op rfl (AOp.indexDs (cells := (List.map keS3 a0.Endss)) rfl rfl (ltb rfl) rfl rfl el47 (by decide) q45.1 (lt1 q45.2) ?_)
    refine AO.op rfl (AOp.loadEp rfl rfl (ltb rfl) rfl agg46 (at1 q45.2) ?_)
    refine AO.op rfl (AOp.assign rfl rfl (ltb rfl) rfl ?_)
    refine AO.nil ?_
    change AC _ _ _ _
    refine AC.seq ?_
    refine AC.region ?_
    refine AO.op rfl (AOp.assign rfl rfl (ltb rfl) rfl ?_)
    refine AO.nil ?_
    change AC _ _ _ _
    refine AC.seq ?_
    refine AC.region ?_
    refine AO.op rfl (AOp.move rfl rfl (ltb rfl) rfl ?_)
    refine AO.op rfl (AOp.move rfl rfl (ltb rfl) rfl ?_)
    refine AO.op rfl (AOp.move rfl rfl (ltb rfl) rfl ?_)
    obtain ⟨y46, q47, h1⟩ := bind_elim h1
    refine AO.op rfl (AOp.callD rfl rfl (ltb rfl) rfl rfl (w_goodEnds F x44 g40.1 y1 false y46 q47) ?_)
    rintro _ rfl
    refine AO.op rfl (AOp.move rfl rfl (ltb rfl) rfl ?_)
    first | refine AO.op rfl (AOp.extractD rfl rfl (ltb rfl) rfl rfl ?_) | refine AO.op rfl (AOp.extract rfl rfl (ltb rfl) rfl rfl ?_)
    first | refine AO.op rfl (AOp.extractD rfl rfl (ltb rfl) rfl rfl ?_) | refine AO.op rfl (AOp.extract rfl rfl (ltb rfl) rfl rfl ?_)
    refine AO.op rfl (AOp.assign rfl rfl (ltb rfl) rfl ?_)
    refine AO.op rfl (AOp.assign rfl rfl (ltb rfl) rfl ?_)
    refine AO.nil ?_
    change AC _ _ _ _
    refine AC.region ?_
    refine AO.op rfl (AOp.move rfl rfl (ltb rfl) rfl ?_)
    refine AO.op rfl (AOp.move rfl rfl (ltb rfl) rfl ?_)
    refine AO.dec g40.2.1 (fun q48 => ?_) (fun q48 => ?_)
    ·replace h1 := cT h1 q48
     refine AO.guardY rfl rfl rfl q48 (AOp.move rfl rfl (ltb rfl) rfl ?_)
     refine AO.op rfl (AOp.pick rfl rfl (ltb rfl) rfl q48 rfl ?_)
     refine AO.op rfl (AOp.assign rfl rfl (ltb rfl) rfl ?_)
     refine AO.nil ?_
     change AC _ _ _ _
     refine AC.region ?_
     obtain ⟨q49, h1⟩ := need_elim h1
     refine AO.op rfl (AOp.iadd rfl rfl (ltb rfl) rfl rfl rfl q49.1 q49.2 ?_)
     refine AO.op rfl (AOp.move rfl rfl (ltb rfl) rfl ?_)
     refine AO.nil ?_
     exact ⟨(y46.1, y46.2, (g40.2.2 + (1 : Int))), _, rfl, (LeL.refl _), rfl, rfl, h1⟩
    replace h1 := cF h1 q48
    refine AO.guardN rfl rfl rfl (ltb rfl) rfl q48 ?_
    refine AO.op rfl (AOp.pickN rfl rfl (ltb rfl) rfl q48 rfl ?_)
    refine AO.op rfl (AOp.assign rfl rfl (ltb rfl) rfl ?_)
    refine AO.nil ?_
    change AC _ _ _ _
    refine AC.region ?_
    obtain ⟨q50, h1⟩ := need_elim h1
    refine AO.op rfl (AOp.iadd rfl rfl (ltb rfl) rfl rfl rfl q50.1 q50.2 ?_)
    refine AO.op rfl (AOp.move rfl rfl (ltb rfl) rfl ?_)
    refine AO.nil ?_
    exact ⟨(y46.1, false, (g40.2.2 + (1 : Int))), _, rfl, (LeL.refl _), rfl, rfl, h1⟩
   replace h1 := cF h1 q43
   refine AC.exit ?_
   obtain rfl := Option.some.inj h1
   exact ⟨(g40.1, g40.2.1), _, rfl, (LeL.refl _), rfl, rfl, aftL h0⟩
  intro g37 h0
  unfold p_Good_k7 at h0
  change AC _ _ _ _
  refine AC.seq ?_
  refine AC.region ?_
  refine AO.op rfl (AOp.move rfl rfl (ltb rfl) rfl ?_)
  refine AO.op rfl (AOp.move rfl rfl (ltb rfl) rfl ?_)
  refine AO.dec g37.2 (fun q38 => ?_) (fun q38 => ?_)
  ·replace h0 := cT h0 q38
   refine AO.guardY rfl rfl rfl q38 (AOp.move rfl rfl (ltb rfl) rfl ?_)
   refine AO.guardY rfl rfl rfl q38 (AOp.fieldAddr rfl rfl (ltb rfl) rfl fo49_3 ?_)
   refine AO.guardY rfl rfl rfl q38 (AOp.load1 rfl rfl (ltb rfl) rfl agg40 rfl rfl ?_)
   refine AO.guardY rfl rfl rfl q38 (AOp.lenDs (n := a0.Flat.length) (cells := (List.map keS1 a0.Flat)) rfl rfl (ltb rfl) rfl el40 (by decide) (len1 _ _) ?_)
   refine AO.guardY rfl rfl rfl q38 (AOp.ieql rfl rfl (ltb rfl) rfl rfl ?_)
   refine AO.op rfl (AOp.pick rfl rfl (ltb rfl) rfl q38 rfl ?_)
   refine AO.op rfl (AOp.move rfl rfl (ltb rfl) rfl ?_)
   refine AO.dec (decide (g37.1 = ((a0.Flat.length : Nat) : Int))) (fun q39 => ?_) (fun q39 => ?_)
   ·replace h0 := cT h0 q39
    refine AO.guardY rfl rfl rfl q39 (AOp.fieldAddr rfl rfl (ltb rfl) rfl fo49_4 ?_)
    refine AO.guardY rfl rfl rfl q39 (AOp.load1 rfl rfl (ltb rfl) rfl agg46 rfl rfl ?_)
    refine AO.guardY rfl rfl rfl q39 (AOp.lenDs (n := a0.Ends.length) (cells := (List.map keS2 a0.Ends)) rfl rfl (ltb rfl) rfl el46 (by decide) (len1 _ _) ?_)
    refine AO.guardY rfl rfl rfl q39 (AOp.ieql rfl rfl (ltb rfl) rfl rfl ?_)
    refine AO.op rfl (AOp.pick rfl rfl (ltb rfl) rfl q39 rfl ?_)
    refine AO.op rfl (AOp.assign rfl rfl (ltb rfl) rfl ?_)
    refine AO.nil ?_
    change AC _ _ _ _
    refine AC.ret ?_
    change RetQ _ _ _ .ret _
    obtain rfl := Option.some.inj h0
    refine retq rfl rfl
   replace h0 := cF h0 q39
   refine AO.guardN rfl rfl rfl (ltb rfl) rfl q39 ?_
   refine AO.guardN rfl rfl rfl (ltb rfl) rfl q39 ?_
   refine AO.guardN rfl rfl rfl (ltb rfl) rfl q39 ?_
   refine AO.guardN rfl rfl rfl (ltb rfl) rfl q39 ?_
   refine AO.op rfl (AOp.pickN rfl rfl (ltb rfl) rfl q39 rfl ?_)
   refine AO.op rfl (AOp.assign rfl rfl (ltb rfl) rfl ?_)
   refine AO.nil ?_
   change AC _ _ _ _
   refine AC.ret ?_
   change RetQ _ _ _ .ret _
   obtain rfl := Option.some.inj h0
   refine retq rfl rfl
  replace h0 := cF h0 q38
  refine AO.guardN rfl rfl rfl (ltb rfl) rfl q38 ?_
  refine AO.guardN rfl rfl rfl (ltb rfl) rfl q38 ?_
  refine AO.guardN rfl rfl rfl (ltb rfl) rfl q38 ?_
  refine AO.guardN rfl rfl rfl (ltb rfl) rfl q38 ?_
  refine AO.guardN rfl rfl rfl (ltb rfl) rfl q38 ?_
  refine AO.op rfl (AOp.pickN rfl rfl (ltb rfl) rfl q38 rfl ?_)
  refine AO.op rfl (AOp.move rfl rfl (ltb rfl) rfl ?_)
  refine AO.guardN rfl rfl rfl (ltb rfl) rfl rfl ?_
  refine AO.guardN rfl rfl rfl (ltb rfl) rfl rfl ?_
  refine AO.guardN rfl rfl rfl (ltb rfl) rfl rfl ?_
  refine AO.guardN rfl rfl rfl (ltb rfl) rfl rfl ?_
  refine AO.op rfl (AOp.pickN rfl rfl (ltb rfl) rfl rfl rfl ?_)
  refine AO.op rfl (AOp.assign rfl rfl (ltb rfl) rfl ?_)
  refine AO.nil ?_
  change AC _ _ _ _
  refine AC.ret ?_
  change RetQ _ _ _ .ret _
  obtain rfl := Option.some.inj h0
  refine retq rfl rfl
 replace h0 := cF h0 q34
 refine AC.skip ?_
 change AC _ _ _ _
 refine AC.seq ?_
 refine AC.region ?_
 refine AO.op rfl (AOp.assign rfl rfl (ltb rfl) rfl ?_)
 refine AO.nil ?_
 change AC _ _ _ _
 refine AC.ret ?_
 change RetQ _ _ _ .ret _
 obtain rfl := Option.some.inj h0
 refine retq rfl rfl
theorem w_Good : ∀ (F : Nat) (a0 : TImpl_Geom) (r0 : Bool), p_Good F a0 = some r0 → FnD Tryz.prog 11 [e_TImpl_Geom a0] (fun r => r = dbool r0)
 | 0, _, _, h => by cases h
 | F + 1, a0, r0, h => w_Good_b _ (fun a0 r0 h => w_Good F a0 r0 h) F a0 r0 h

open Flt (truncD okF inR K20)
def notNan (x : Nat) : Prop := (FloatKind.f64.decode x).isNaN = false
def truncS (x : Nat) (d : Ieee.Datum) : Sem Value :=
 match d with
 | .nan s t =>
  if FloatKind.f64.format.quiet t = t then pure (.float .f64 x) else do
   let kept ← choose (.extern "math.Floor,Ceil,Trunc,RoundToEven.signallingNaN kept" 2)
   pure (.float .f64 (if kept == 1 then x else FloatKind.f64.encode (.nan s (FloatKind.f64.format.quiet t))))
 | d => pure (.float .f64 (FloatKind.f64.encode (d.integral .zero)))
theorem run_trunc (P : Program) (x : Nat) (h : notNan x) (w : World) : (Extern.MathFloor.toIntegral "math.archTrunc" .zero #[.float .f64 x]).run P w = .ok (.float .f64 (truncD x)) w := by
 unfold notNan at h
 have e : Extern.MathFloor.toIntegral "math.archTrunc" .zero #[.float .f64 x] = truncS x (FloatKind.f64.decode x) := rfl
 have e2 : ∀ d : Ieee.Datum, d.isNaN = false → truncS x d = pure (.float .f64 (FloatKind.f64.encode (d.integral .zero))) := by
  intro d hd
  cases d with
  | nan s t => cases hd
  | number s m e => rfl
  | infinity s => rfl
 rw [e, e2 _ h]
 rfl

theorem callTrunc (x : Nat) (h : notNan x) (w : World) : (callFunc 92 #[.float .f64 x]).run Tryz.prog w = .ok (.value (.float .f64 (truncD x))) w := by
 rw [run_callFunc_extern Tryz.func92 (by kernel_rfl) (by kernel_rfl) (by kernel_rfl) (e := Extern.MathFloor.toIntegral "math.archTrunc" .zero) (by kernel_rfl), run_trunc Tryz.prog x h]
 rfl

set_option maxRecDepth 100000 in
/-- math.Trunc -/
theorem trunc (x : Nat) (h : notNan x) : FnD Tryz.prog 85 [dfl x] (fun r => r = dfl (truncD x)) := by
 refine FnD.of (by kernel_rfl) Tryz.func85 rfl Tryz.ntmps85 rfl (leb rfl) fun W ok => ?_
 refine AC.seq ?_
 refine AC.region ?_
 refine AO.op rfl (AOp.assign rfl rfl (ltb rfl) rfl ?_)
 refine AO.nil ?_
 change AC _ _ _ _
 refine AC.seq ?_
 refine AC.condT rfl rfl ?_
 refine AC.seq ?_
 refine AC.region ?_
 refine AO.op rfl (AOp.move rfl rfl (ltb rfl) rfl ?_)
 refine AO.op rfl (AOp.callX [.float .f64 x] rfl rfl (ltb rfl) rfl (callTrunc x h) ?_)
 refine AO.op rfl (AOp.assign rfl rfl (ltb rfl) rfl ?_)
 refine AO.nil ?_
 change AC _ _ _ _
 refine AC.ret ?_
 change RetQ _ _ _ .ret _
 refine retq rfl ?_
 exact rfl

theorem callTruncA (x : Nat) (h : Flt.isNan x = true) (w : World) : ∃ r w', (callFunc 92 #[.float .f64 x]).run Tryz.prog w = .ok (.value r) w' ∧ (w' = w ∨ w' = w.drew) ∧ ∃ z, r = .float .f64 z ∧ Flt.isNan z = true := by
 obtain ⟨r, w', h1, h2, h3⟩ := Flt.run_truncA Tryz.prog x h w
 refine ⟨r, w', ?_, h2, h3⟩
 rw [run_callFunc_extern Tryz.func92 (by kernel_rfl) (by kernel_rfl) (by kernel_rfl) (e := Extern.MathFloor.toIntegral "math.archTrunc" .zero) (by kernel_rfl), h1]
 rfl
set_option maxRecDepth 100000 in
theorem truncNN (x : Nat) (h : Flt.isNan x = true) : FnD Tryz.prog 85 [dfl x] (fun r => ∃ z, r = dfl z ∧ Flt.isNan z = true) := by
 refine FnD.of (by kernel_rfl) Tryz.func85 rfl Tryz.ntmps85 rfl (leb rfl) fun W ok => ?_
 refine AC.seq ?_
 refine AC.region ?_
 refine AO.op rfl (AOp.assign rfl rfl (ltb rfl) rfl ?_)
 refine AO.nil ?_
 change AC _ _ _ _
 refine AC.seq ?_
 refine AC.condT rfl rfl ?_
 refine AC.seq ?_
 refine AC.region ?_
 refine AO.op rfl (AOp.move rfl rfl (ltb rfl) rfl ?_)
 refine AO.op rfl (AOp.callXA [.float .f64 x] rfl rfl (ltb rfl) rfl (callTruncA x h) ?_)
 rintro _ ⟨z, rfl, hz⟩
 refine AO.op rfl (AOp.assign rfl rfl (ltb rfl) rfl ?_)
 refine AO.nil ?_
 change AC _ _ _ _
 refine AC.ret ?_
 change RetQ _ _ _ .ret _
 refine retq rfl ?_
 exact ⟨z, rfl, hz⟩

theorem truncA (x : Nat) : FnD Tryz.prog 85 [dfl x] (fun r => ∃ z, r = dfl z ∧ Flt.TruncR x z) := by
 cases h : Flt.isNan x with
 | false => exact (trunc x h).mono fun r hr => ⟨_, hr, fun _ => rfl, fun h2 => by rw [h] at h2; cases h2⟩
 | true => exact (truncNN x h).mono fun r ⟨z, h1, h2⟩ => ⟨z, h1, fun h3 => by (rw [h] at h3; cases h3), fun _ => h2⟩

theorem callBitsA (x : Nat) (w : World) : (callFunc 83 #[.float .f64 x]).run Tryz.prog w = .ok (.value (.int .u64 x)) w := by
 rw [run_callFunc_extern Tryz.func83 (by kernel_rfl) (by kernel_rfl) (by kernel_rfl) (e := Extern.MathFloatBits.float64bits) (by kernel_rfl), run_f64bits Tryz.prog x]
 rfl
theorem callFromBitsA (x : Nat) (w : World) : (callFunc 82 #[.int .u64 x]).run Tryz.prog w = .ok (.value (.float .f64 x)) w := by
 rw [run_callFunc_extern Tryz.func82 (by kernel_rfl) (by kernel_rfl) (by kernel_rfl) (e := Extern.MathFloatBits.float64frombits) (by kernel_rfl), run_f64frombits Tryz.prog x]
 rfl

set_option maxRecDepth 100000 in
/-- math.Abs -/
theorem mathAbs (x : Nat) : FnD Tryz.prog 65 [dfl x] (fun r => r = dfl (Flt.fabs x)) := by
 refine FnD.of (by kernel_rfl) Tryz.func65 rfl Tryz.ntmps65 rfl (leb rfl) fun W ok => ?_
 refine AC.seq ?_
 refine AC.region ?_
 refine AO.op rfl (AOp.assign rfl rfl (ltb rfl) rfl ?_)
 refine AO.nil ?_
 change AC _ _ _ _
 refine AC.seq ?_
 refine AC.region ?_
 refine AO.op rfl (AOp.move rfl rfl (ltb rfl) rfl ?_)
 refine AO.op rfl (AOp.callX [.float .f64 x] rfl rfl (ltb rfl) rfl (callBitsA x) ?_)
 refine AO.op rfl (AOp.ibits (by simp) rfl rfl (ltb rfl) rfl rfl (andNot_abs x) ?_)
 refine AO.op rfl (AOp.callX [.int .u64 ((Flt.fabs x : Nat) : Int)] rfl rfl (ltb rfl) rfl (callFromBitsA _) ?_)
 refine AO.op rfl (AOp.assign rfl rfl (ltb rfl) rfl ?_)
 refine AO.nil ?_
 change AC _ _ _ _
 refine AC.ret ?_
 change RetQ _ _ _ .ret _
 refine retq rfl ?_
 exact rfl

set_option maxRecDepth 100000 in
set_option maxHeartbeats 4000000 in
/-- pub-orthodrome/laws.wholeTo -/
theorem w_wholeTo (F : Nat) (a0 : Nat) (a1 : (List Nat)) (r0 : Bool) (h0 : p_wholeTo F a0 a1 = some r0) : FnD Tryz.prog 69 [dfl a0, eS1 a1] (fun r => r = dbool r0) := by
 refine FnD.of (by kernel_rfl) Tryz.func69 rfl Tryz.ntmps69 rfl (leb rfl) fun W ok => ?_
 unfold p_wholeTo at h0
 refine AC.seq ?_
 refine AC.region ?_
 refine AO.op rfl (AOp.assign rfl rfl (ltb rfl) rfl ?_)
 refine AO.nil ?_
 change AC _ _ _ _
 refine AC.seq ?_
 refine AC.seq ?_
 refine AC.region ?_
 refine AO.op rfl (AOp.move rfl rfl (ltb rfl) rfl ?_)
 refine AO.op rfl (AOp.lenDs (n := a1.length) (cells := (List.map keS1 a1)) rfl rfl (ltb rfl) rfl el40 (by decide) (len1 _ _) ?_)
 refine AO.op rfl (AOp.move rfl rfl (ltb rfl) rfl ?_)
 refine AO.nil ?_
 change AC _ _ _ _
 obtain ⟨o1, l2, h0⟩ := bind_elim h0
 refine AC.joinE (V := Unit) [] [] 0 (fun g3 => []) (fun g3 => []) (fun g3 => p_wholeTo_k1 g3 = some r0) rfl ?_ ?_
 ·refine AC.block ?_
  refine AC.loopP (V := Int) (p_wholeTo_l2 a0 a1) o1 [0, 7, 8] [9] 0 (fun g4 => [(9, .d (di .i64 g4))]) (fun g4 => []) F (0 : Int) l2 rfl rfl (LeL.refl _) rfl rfl ?_
  intro n6 g4 h1
  unfold p_wholeTo_l2 at h1
  refine AC.seq ?_
  refine AC.region ?_
  refine AO.op rfl (AOp.ilss rfl rfl (ltb rfl) rfl rfl ?_)
  refine AO.nil ?_
  change AC _ _ _ _
  refine AC.seq ?_
  refine AC.cond rfl (fun q7 => ?_) (fun q7 => ?_)
  ·replace h1 := cT h1 q7
   refine AC.skip ?_
   change AC _ _ _ _
   refine AC.seq ?_
   refine AC.block ?_
   refine AC.seq ?_
   refine AC.region ?_
   obtain ⟨x8, q9, h1⟩ := idx_elim h1
   refine AO.op rfl (AOp.indexDs (cells := (List.map keS1 a1)) rfl rfl (ltb rfl) rfl rfl el40 (by decide) q9.1 (lt1 q9.2) ?_)
   refine AO.op rfl (AOp.loadEp rfl rfl (ltb rfl) rfl agg54 (at1 q9.2) ?_)
   refine AO.op rfl (AOp.assign rfl rfl (ltb rfl) rfl ?_)
   refine AO.nil ?_
   change AC _ _ _ _
   refine AC.seq ?_
   refine AC.region ?_
   refine AO.op rfl (AOp.move rfl rfl (ltb rfl) rfl ?_)
   refine AO.op rfl (AOp.move rfl rfl (ltb rfl) rfl ?_)
   refine AO.op rfl (AOp.callD rfl rfl (ltb rfl) rfl rfl (truncA x8) ?_)
   rintro _ ⟨z10, rfl, hz11⟩
   refine AO.op rfl (AOp.fneq rfl rfl (ltb rfl) rfl rfl ?_)
   rw [hz11.feq]
   refine AO.op rfl (AOp.move rfl rfl (ltb rfl) rfl ?_)
   refine AO.dec (!feq x8 (Flt.truncN x8)) (fun q12 => ?_) (fun q12 => ?_)
   ·replace h1 := cT h1 q12
    refine AO.guardN rfl rfl rfl (ltb rfl) rfl q12 ?_
    refine AO.guardN rfl rfl rfl (ltb rfl) rfl q12 ?_
    refine AO.guardN rfl rfl rfl (ltb rfl) rfl q12 ?_
    refine AO.guardN rfl rfl rfl (ltb rfl) rfl q12 ?_
    refine AO.op rfl (AOp.pick rfl rfl (ltb rfl) rfl q12 rfl ?_)
    refine AO.nil ?_
    change AC _ _ _ _
    refine AC.condT rfl rfl ?_
    refine AC.seq ?_
    refine AC.region ?_
    refine AO.op rfl (AOp.assign rfl rfl (ltb rfl) rfl ?_)
    refine AO.nil ?_
    change AC _ _ _ _
    refine AC.ret ?_
    change RetQ _ _ _ .ret _
    obtain rfl := Option.some.inj h1
    replace h0 := aftR h0
    obtain rfl := Option.some.inj h0
    refine retq rfl rfl
   replace h1 := cF h1 q12
   refine AO.guardY rfl rfl rfl q12 (AOp.move rfl rfl (ltb rfl) rfl ?_)
   refine AO.guardY rfl rfl rfl q12 (AOp.callD rfl rfl (ltb rfl) rfl rfl (mathAbs x8) ?_)
   rintro _ rfl
   refine AO.guardY rfl rfl rfl q12 (AOp.move rfl rfl (ltb rfl) rfl ?_)
   refine AO.guardY rfl rfl rfl q12 (AOp.fgtr rfl rfl (ltb rfl) rfl rfl ?_)
   refine AO.op rfl (AOp.pickN rfl rfl (ltb rfl) rfl q12 rfl ?_)
   refine AO.nil ?_
   change AC _ _ _ _
   refine AC.cond rfl (fun q13 => ?_) (fun q13 => ?_)
   ·replace h1 := cT h1 q13
    refine AC.seq ?_
    refine AC.region ?_
    refine AO.op rfl (AOp.assign rfl rfl (ltb rfl) rfl ?_)
    refine AO.nil ?_
    change AC _ _ _ _
    refine AC.ret ?_
    change RetQ _ _ _ .ret _
    obtain rfl := Option.some.inj h1
    replace h0 := aftR h0
    obtain rfl := Option.some.inj h0
    refine retq rfl rfl
   replace h1 := cF h1 q13
   refine AC.skip ?_
   change AC _ _ _ _
   refine AC.region ?_
   obtain ⟨q14, h1⟩ := need_elim h1
   refine AO.op rfl (AOp.iadd rfl rfl (ltb rfl) rfl rfl rfl q14.1 q14.2 ?_)
   refine AO.op rfl (AOp.move rfl rfl (ltb rfl) rfl ?_)
   refine AO.nil ?_
   exact ⟨(g4 + (1 : Int)), _, rfl, (LeL.refl _), rfl, rfl, h1⟩
  replace h1 := cF h1 q7
  refine AC.exit ?_
  obtain rfl := Option.some.inj h1
  exact ⟨(), _, rfl, (LeL.refl _), rfl, rfl, aftL h0⟩
 intro g3 h0
 unfold p_wholeTo_k1 at h0
 change AC _ _ _ _
 refine AC.seq ?_
 refine AC.region ?_
 refine AO.op rfl (AOp.assign rfl rfl (ltb rfl) rfl ?_)
 refine AO.nil ?_
 change AC _ _ _ _
 refine AC.ret ?_
 change RetQ _ _ _ .ret _
 obtain rfl := Option.some.inj h0
 refine retq rfl rfl

set_option maxRecDepth 100000 in
set_option maxHeartbeats 4000000 in
/-- pub-orthodrome/laws.planeTo -/
theorem w_planeTo (F : Nat) (a0 : Nat) (a1 : (List TImpl_P2)) (r0 : Bool) (h0 : p_planeTo F a0 a1 = some r0) : FnD Tryz.prog 29 [dfl a0, eS5 a1] (fun r => r = dbool r0) := by
 refine FnD.of (by kernel_rfl) Tryz.func29 rfl Tryz.ntmps29 rfl (leb rfl) fun W ok => ?_
 unfold p_planeTo at h0
 refine AC.seq ?_
 refine AC.region ?_
 refine AO.op rfl (AOp.assign rfl rfl (ltb rfl) rfl ?_)
 refine AO.nil ?_
 change AC _ _ _ _
 refine AC.seq ?_
 refine AC.seq ?_
 refine AC.region ?_
 refine AO.op rfl (AOp.move rfl rfl (ltb rfl) rfl ?_)
 refine AO.op rfl (AOp.lenDs (n := a1.length) (cells := (List.flatMap c_TImpl_P2 a1)) rfl rfl (ltb rfl) rfl el51 (by decide) (lenN _ 2 (fun _ => rfl) _) ?_)
 refine AO.op rfl (AOp.move rfl rfl (ltb rfl) rfl ?_)
 refine AO.nil ?_
 change AC _ _ _ _
 obtain ⟨o1, l2, h0⟩ := bind_elim h0
 refine AC.joinE (V := Unit) [] [] 0 (fun g3 => []) (fun g3 => []) (fun g3 => p_planeTo_k1 g3 = some r0) rfl ?_ ?_
 ·refine AC.block ?_
  refine AC.loopP (V := Int) (p_planeTo_l2 a0 a1 F) o1 [0, 7, 8] [9] 0 (fun g4 => [(9, .d (di .i64 g4))]) (fun g4 => []) F (0 : Int) l2 rfl rfl (LeL.refl _) rfl rfl ?_
  intro n6 g4 h1
  unfold p_planeTo_l2 at h1
  refine AC.seq ?_
  refine AC.region ?_
  refine AO.op rfl (AOp.ilss rfl rfl (ltb rfl) rfl rfl ?_)
  refine AO.nil ?_
  change AC _ _ _ _
  refine AC.seq ?_
  refine AC.cond rfl (fun q7 => ?_) (fun q7 => ?_)
  ·replace h1 := cT h1 q7
   refine AC.skip ?_
   change AC _ _ _ _
   refine AC.seq ?_
   refine AC.block ?_
   refine AC.seq ?_
   refine AC.region ?_
   obtain ⟨x8, q9, h1⟩ := idx_elim h1
   refine AO.op rfl (AOp.indexDs (cells := (List.flatMap c_TImpl_P2 a1)) rfl rfl (ltb rfl) rfl rfl el51 (by decide) q9.1 (ltN 2 (fun _ => rfl) (by decide) q9.2) ?_)
   refine AO.op rfl (AOp.loadEpN rfl rfl (ltb rfl) rfl agg76 size76 (leN 2 (fun _ => rfl) q9.2) (atN 2 (fun _ => rfl) q9.2) ?_)
   refine AO.op rfl (AOp.alloc rfl rfl (ltb rfl) zero76 rfl ?_)
   refine AO.op rfl (AOp.store rfl rfl rfl rfl size76 rfl rfl rfl (leb rfl) ?_)
   refine AO.nil ?_
   change AC _ _ _ _
   refine AC.seq ?_
   refine AC.region ?_
   refine AO.op rfl (AOp.move rfl rfl (ltb rfl) rfl ?_)
   refine AO.op rfl (AOp.fieldAddr rfl rfl (ltb rfl) rfl fo76_0 ?_)
   refine AO.op rfl (AOp.load1 rfl rfl (ltb rfl) rfl agg54 rfl rfl ?_)
   refine AO.op rfl (AOp.fieldAddr rfl rfl (ltb rfl) rfl fo76_1 ?_)
   refine AO.op rfl (AOp.load1 rfl rfl (ltb rfl) rfl agg54 rfl rfl ?_)
   refine AO.op rfl (AOp.buildSliceD rfl rfl (ltb rfl) el40 zero54 rfl (leb rfl) rfl rfl rfl rfl ?_)
   obtain ⟨y10, q11, h1⟩ := bind_elim h1
   refine AO.op rfl (AOp.callD rfl rfl (ltb rfl) rfl rfl (w_wholeTo F a0 [x8.X, x8.Y] y10 q11) ?_)
   rintro _ rfl
   refine AO.op rfl (AOp.bnot rfl rfl (ltb rfl) rfl ?_)
   refine AO.nil ?_
   change AC _ _ _ _
   refine AC.cond rfl (fun q12 => ?_) (fun q12 => ?_)
   ·replace h1 := cT h1 q12
    refine AC.seq ?_
    refine AC.region ?_
    refine AO.op rfl (AOp.assign rfl rfl (ltb rfl) rfl ?_)
    refine AO.nil ?_
    change AC _ _ _ _
    refine AC.ret ?_
    change RetQ _ _ _ .ret _
    obtain rfl := Option.some.inj h1
    replace h0 := aftR h0
    obtain rfl := Option.some.inj h0
    refine retq rfl rfl
   replace h1 := cF h1 q12
   refine AC.skip ?_
   change AC _ _ _ _
   refine AC.region ?_
   obtain ⟨q13, h1⟩ := need_elim h1
   refine AO.op rfl (AOp.iadd rfl rfl (ltb rfl) rfl rfl rfl q13.1 q13.2 ?_)
   refine AO.op rfl (AOp.move rfl rfl (ltb rfl) rfl ?_)
   refine AO.nil ?_
   exact ⟨(g4 + (1 : Int)), _, rfl, (LeL.refl _), rfl, rfl, h1⟩
  replace h1 := cF h1 q7
  refine AC.exit ?_
  obtain rfl := Option.some.inj h1
  exact ⟨(), _, rfl, (LeL.refl _), rfl, rfl, aftL h0⟩
 intro g3 h0
 unfold p_planeTo_k1 at h0
 change AC _ _ _ _
 refine AC.seq ?_
 refine AC.region ?_
 refine AO.op rfl (AOp.assign rfl rfl (ltb rfl) rfl ?_)
 refine AO.nil ?_
 change AC _ _ _ _
 refine AC.ret ?_
 change RetQ _ _ _ .ret _
 obtain rfl := Option.some.inj h0
 refine retq rfl rfl

set_option maxRecDepth 100000 in
set_option maxHeartbeats 4000000 in
/-- pub-orthodrome/laws.flatTo -/
theorem w_flatTo (F : Nat) (a0 : Int) (a1 : (List Nat)) (a2 : Nat) (a3 : Int) (r0 : ((List TImpl_P2) × Bool)) (h0 : p_flatTo F a0 a1 a2 a3 = some r0) : FnD Tryz.prog 12 [di .i64 a0, eS1 a1, dfl a2, di .i64 a3] (fun r => r = .tu [eS5 r0.1, dbool r0.2]) := by
 refine FnD.of (by kernel_rfl) Tryz.func12 rfl Tryz.ntmps12 rfl (leb rfl) fun W ok => ?_
 unfold p_flatTo at h0
 refine AC.seq ?_
 refine AC.region ?_
 refine AO.op rfl (AOp.assign rfl rfl (ltb rfl) rfl ?_)
 refine AO.op rfl (AOp.assign rfl rfl (ltb rfl) rfl ?_)
 refine AO.nil ?_
 change AC _ _ _ _
 refine AC.seq ?_
 refine AC.joinP (V := Bool) [0, 1, 2, 3, 8] [17] 0 (fun g1 => [(17, .d (dbool g1))]) (fun g1 => []) (fun g1 => (p_flatTo_k1 a0 a1 a2 a3 F) g1 = some r0) rfl ?_ ?_
 ·refine AC.region ?_
  refine AO.op rfl (AOp.move rfl rfl (ltb rfl) rfl ?_)
  refine AO.op rfl (AOp.ilss rfl rfl (ltb rfl) rfl rfl ?_)
  refine AO.op rfl (AOp.move rfl rfl (ltb rfl) rfl ?_)
  refine AO.dec (decide (a0 < (1 : Int))) (fun q26 => ?_) (fun q26 => ?_)
  ·replace h0 := cT h0 q26
   refine AO.guardN rfl rfl rfl (ltb rfl) rfl q26 ?_
   refine AO.guardN rfl rfl rfl (ltb rfl) rfl q26 ?_
   refine AO.op rfl (AOp.pick rfl rfl (ltb rfl) rfl q26 rfl ?_)
   refine AO.nil ?_
   exact ⟨true, _, rfl, (LeL.refl _), rfl, rfl, h0⟩
  replace h0 := cF h0 q26
  refine AO.guardY rfl rfl rfl q26 (AOp.move rfl rfl (ltb rfl) rfl ?_)
  refine AO.guardY rfl rfl rfl q26 (AOp.igtr rfl rfl (ltb rfl) rfl rfl ?_)
  refine AO.op rfl (AOp.pickN rfl rfl (ltb rfl) rfl q26 rfl ?_)
  refine AO.nil ?_
  exact ⟨(decide ((8 : Int) < a0)), _, rfl, (LeL.refl _), rfl, rfl, h0⟩
 intro g1 h0
 unfold p_flatTo_k1 at h0
 refine AC.cond rfl (fun q2 => ?_) (fun q2 => ?_)
 ·replace h0 := cT h0 q2
  refine AC.seq ?_
  refine AC.region ?_
  refine AO.op rfl (AOp.assign rfl rfl (ltb rfl) rfl ?_)
  refine AO.op rfl (AOp.assign rfl rfl (ltb rfl) rfl ?_)
  refine AO.nil ?_
  change AC _ _ _ _
  refine AC.sub 8 rfl (SVLe.nil 2) ?_
  refine AC.ret ?_
  change RetQ _ _ _ .ret _
  obtain rfl := Option.some.inj h0
  refine retq rfl rfl
 replace h0 := cF h0 q2
 refine AC.skip ?_
 change AC _ _ _ _
 refine AC.seq ?_
 refine AC.region ?_
 refine AO.op rfl (AOp.move rfl rfl (ltb rfl) rfl ?_)
 obtain ⟨y3, q4, h0⟩ := bind_elim h0
 refine AO.op rfl (AOp.callD rfl rfl (ltb rfl) rfl rfl (w_Stride a0 y3 q4) ?_)
 rintro _ rfl
 refine AO.op rfl (AOp.assign rfl rfl (ltb rfl) rfl ?_)
 refine AO.nil ?_
 change AC _ _ _ _
 refine AC.seq ?_
 refine AC.joinP (V := Bool) [1, 2, 8, 10] [32] 0 (fun g5 => [(32, .d (dbool g5))]) (fun g5 => []) (fun g5 => (p_flatTo_k2 a1 a2 F y3) g5 = some r0) rfl ?_ ?_
 ·refine AC.region ?_
  refine AO.op rfl (AOp.move rfl rfl (ltb rfl) rfl ?_)
  refine AO.op rfl (AOp.lenDs (n := a1.length) (cells := (List.map keS1 a1)) rfl rfl (ltb rfl) rfl el40 (by decide) (len1 _ _) ?_)
  refine AO.op rfl (AOp.move rfl rfl (ltb rfl) rfl ?_)
  obtain ⟨q23, h0⟩ := need_elim h0
  refine AO.op rfl (AOp.irem rfl rfl (ltb rfl) rfl rfl q23 rfl ?_)
  refine AO.op rfl (AOp.ineq rfl rfl (ltb rfl) rfl rfl ?_)
  refine AO.op rfl (AOp.move rfl rfl (ltb rfl) rfl ?_)
  refine AO.dec (!decide ((Int.tmod ((a1.length : Nat) : Int) y3) = (0 : Int))) (fun q24 => ?_) (fun q24 => ?_)
  ·replace h0 := cT h0 q24
   refine AO.guardN rfl rfl rfl (ltb rfl) rfl q24 ?_
   refine AO.guardN rfl rfl rfl (ltb rfl) rfl q24 ?_
   refine AO.guardN rfl rfl rfl (ltb rfl) rfl q24 ?_
   refine AO.guardN rfl rfl rfl (ltb rfl) rfl q24 ?_
   refine AO.guardN rfl rfl rfl (ltb rfl) rfl q24 ?_
   refine AO.guardN rfl rfl rfl (ltb rfl) rfl q24 ?_
   refine AO.op rfl (AOp.pick rfl rfl (ltb rfl) rfl q24 rfl ?_)
   refine AO.nil ?_
   exact ⟨true, _, rfl, (LeL.refl _), rfl, rfl, h0⟩
  replace h0 := cF h0 q24
  refine AO.guardY rfl rfl rfl q24 (AOp.move rfl rfl (ltb rfl) rfl ?_)
  refine AO.guardY rfl rfl rfl q24 (AOp.lenDs (n := a1.length) (cells := (List.map keS1 a1)) rfl rfl (ltb rfl) rfl el40 (by decide) (len1 _ _) ?_)
  refine AO.guardY rfl rfl rfl q24 (AOp.move rfl rfl (ltb rfl) rfl ?_)
  refine AO.guardY rfl rfl rfl q24 (AOp.move rfl rfl (ltb rfl) rfl ?_)
  obtain ⟨q25, h0⟩ := need_elim h0
  refine AO.guardY rfl rfl rfl q24 (AOp.imul rfl rfl (ltb rfl) rfl rfl rfl q25.1 q25.2 ?_)
  refine AO.guardY rfl rfl rfl q24 (AOp.igtr rfl rfl (ltb rfl) rfl rfl ?_)
  refine AO.op rfl (AOp.pickN rfl rfl (ltb rfl) rfl q24 rfl ?_)
  refine AO.nil ?_
  exact ⟨(decide ((y3 * a3) < ((a1.length : Nat) : Int))), _, rfl, (LeL.refl _), rfl, rfl, h0⟩
 intro g5 h0
 unfold p_flatTo_k2 at h0
 refine AC.cond rfl (fun q6 => ?_) (fun q6 => ?_)
 ·replace h0 := cT h0 q6
  refine AC.seq ?_
  refine AC.region ?_
  refine AO.op rfl (AOp.assign rfl rfl (ltb rfl) rfl ?_)
  refine AO.op rfl (AOp.assign rfl rfl (ltb rfl) rfl ?_)
  refine AO.nil ?_
  change AC _ _ _ _
  refine AC.sub 8 rfl (SVLe.nil 2) ?_
  refine AC.ret ?_
  change RetQ _ _ _ .ret _
  obtain rfl := Option.some.inj h0
  refine retq rfl rfl
 replace h0 := cF h0 q6
 refine AC.skip ?_
 change AC _ _ _ _
 refine AC.seq ?_
 refine AC.seq ?_
 refine AC.region ?_
 refine AO.op rfl (AOp.assign rfl rfl (ltb rfl) rfl ?_)
 refine AO.nil ?_
 change AC _ _ _ _
 refine AC.adopt 8 76 2 rfl ?_
 obtain ⟨o7, l8, h0⟩ := bind_elim h0
 refine AC.joinE (V := (List TImpl_P2)) [2] [8] 1 (fun g9 => [(8, .own 0)]) (fun g9 => [.grow 76 2 (List.flatMap c_TImpl_P2 g9)]) (fun g9 => (p_flatTo_k3 a2 F) g9 = some r0) rfl ?_ ?_
 ·refine AC.block ?_
  refine AC.loopP (V := (Int × (List TImpl_P2))) (p_flatTo_l4 a1 y3) o7 [1, 2, 10] [8, 11] 1 (fun g12 => [(8, .own 0), (11, .d (di .i64 g12.1))]) (fun g12 => [.grow 76 2 (List.flatMap c_TImpl_P2 g12.2)]) F ((0 : Int), []) l8 rfl rfl (LeL.refl _) rfl rfl ?_
  intro n14 g12 h1
  unfold p_flatTo_l4 at h1
  refine AC.seq ?_
  refine AC.seq ?_
  refine AC.region ?_
  refine AO.op rfl (AOp.move rfl rfl (ltb rfl) rfl ?_)
  refine AO.op rfl (AOp.move rfl rfl (ltb rfl) rfl ?_)
  refine AO.op rfl (AOp.lenDs (n := a1.length) (cells := (List.map keS1 a1)) rfl rfl (ltb rfl) rfl el40 (by decide) (len1 _ _) ?_)
  refine AO.op rfl (AOp.ilss rfl rfl (ltb rfl) rfl rfl ?_)
  refine AO.nil ?_
  change AC _ _ _ _
  refine AC.cond rfl (fun q15 => ?_) (fun q15 => ?_)
  ·replace h1 := cT h1 q15
   refine AC.skip ?_
   change AC _ _ _ _
   refine AC.seq ?_
   refine AC.block ?_
   refine AC.draw 12 mixed (by kernel_rfl) ?_
   refine AD.op [8] rfl (by kernel_rfl) rfl rfl (fun _ _ h => AOp.move rfl rfl (ltb rfl) rfl h) ?_
   refine AD.op [1] rfl (by kernel_rfl) rfl rfl (fun _ _ h => AOp.move rfl rfl (ltb rfl) rfl h) ?_
   refine AD.op [11] rfl (by kernel_rfl) rfl rfl (fun _ _ h => AOp.move rfl rfl (ltb rfl) rfl h) ?_
   obtain ⟨x16, q17, h1⟩ := idx_elim h1
   refine AD.op [41, 42] rfl (by kernel_rfl) rfl rfl (fun _ _ h => AOp.indexDs (cells := (List.map keS1 a1)) rfl rfl (ltb rfl) rfl rfl el40 (by decide) q17.1 (lt1 q17.2) h) ?_
   refine AD.op [43] rfl (by kernel_rfl) rfl rfl (fun _ _ h => AOp.loadEp rfl rfl (ltb rfl) rfl agg54 (at1 q17.2) h) ?_
   refine AD.op [1] rfl (by kernel_rfl) rfl rfl (fun _ _ h => AOp.move rfl rfl (ltb rfl) rfl h) ?_
   refine AD.op [11] rfl (by kernel_rfl) rfl rfl (fun _ _ h => AOp.move rfl rfl (ltb rfl) rfl h) ?_
   obtain ⟨q18, h1⟩ := need_elim h1
   refine AD.op [46] rfl (by kernel_rfl) rfl rfl (fun _ _ h => AOp.iadd rfl rfl (ltb rfl) rfl rfl rfl q18.1 q18.2 h) ?_
   obtain ⟨x19, q20, h1⟩ := idx_elim h1
   refine AD.op [45, 47] rfl (by kernel_rfl) rfl rfl (fun _ _ h => AOp.indexDs (cells := (List.map keS1 a1)) rfl rfl (ltb rfl) rfl rfl el40 (by decide) q20.1 (lt1 q20.2) h) ?_
   refine AD.op [48] rfl (by kernel_rfl) rfl rfl (fun _ _ h => AOp.loadEp rfl rfl (ltb rfl) rfl agg54 (at1 q20.2) h) ?_
   refine AD.op [44, 49] rfl (by kernel_rfl) rfl rfl (fun _ _ h => AOp.build rfl rfl (ltb rfl) zero76 rfl places76 rfl rfl h) ?_
   refine AD.op [50] rfl (by kernel_rfl) rfl rfl (fun _ _ h => AOp.buildSliceD rfl rfl (ltb rfl) el51 zero76 rfl (leb rfl) rfl rfl rfl rfl h) ?_
   refine AD.done ?_
   obtain ⟨q21, h1⟩ := need_elim h1
   refine AO.op rfl (AOp.appendOwn' (p := 0) (n := g12.2.length) (m := [(TImpl_P2.mk x16 x19)].length) (news := (List.flatMap c_TImpl_P2 [(TImpl_P2.mk x16 x19)])) rfl rfl (ltb rfl) rfl rfl el51 info76 rfl (by decide) rfl (lenN _ 2 (fun _ => rfl) _) (lenN _ 2 (fun _ => rfl) _) (oneN _ (fun _ => rfl) _) q21 (by decide) rfl rfl (catN _ _ _) ?_)
   refine AO.op rfl (AOp.assign rfl rfl (ltb rfl) rfl ?_)
   refine AO.nil ?_
   change AC _ _ _ _
   refine AC.region ?_
   refine AO.op rfl (AOp.move rfl rfl (ltb rfl) rfl ?_)
   refine AO.op rfl (AOp.move rfl rfl (ltb rfl) rfl ?_)
   obtain ⟨q22, h1⟩ := need_elim h1
   refine AO.op rfl (AOp.iadd rfl rfl (ltb rfl) rfl rfl rfl q22.1 q22.2 ?_)
   refine AO.op rfl (AOp.assign rfl rfl (ltb rfl) rfl ?_)
   refine AO.nil ?_
   exact ⟨((g12.1 + y3), (g12.2 ++ [(TImpl_P2.mk x16 x19)])), _, rfl, (LeL.refl _), rfl, rfl, h1⟩
  replace h1 := cF h1 q15
  refine AC.exit ?_
  obtain rfl := Option.some.inj h1
  exact ⟨g12.2, _, rfl, (LeL.refl _), rfl, rfl, aftL h0⟩
 intro g9 h0
 unfold p_flatTo_k3 at h0
 change AC _ _ _ _
 refine AC.seq ?_
 refine AC.region ?_
 refine AO.op rfl (AOp.move rfl rfl (ltb rfl) rfl ?_)
 refine AO.op rfl (AOp.move rfl rfl (ltb rfl) rfl ?_)
 refine AO.op rfl (AOp.move rfl rfl (ltb rfl) rfl ?_)
 refine AO.freezeG 0 rfl rfl rfl ?_
 obtain ⟨y10, q11, h0⟩ := bind_elim h0
 refine AO.op rfl (AOp.callD rfl rfl (ltb rfl) rfl rfl (w_planeTo F a2 g9 y10 q11) ?_)
 rintro _ rfl
 refine AO.op rfl (AOp.assign rfl rfl (ltb rfl) rfl ?_)
 refine AO.op rfl (AOp.assign rfl rfl (ltb rfl) rfl ?_)
 refine AO.nil ?_
 change AC _ _ _ _
 refine AC.ret ?_
 change RetQ _ _ _ .ret _
 obtain rfl := Option.some.inj h0
 refine retq rfl rfl

theorem callBits (x : Nat) (w : World) : (callFunc 83 #[.float .f64 x]).run Tryz.prog w = .ok (.value (.int .u64 x)) w := by
 rw [run_callFunc_extern Tryz.func83 (by kernel_rfl) (by kernel_rfl) (by kernel_rfl) (e := Extern.MathFloatBits.float64bits) (by kernel_rfl), run_f64bits Tryz.prog x]
 rfl

set_option maxRecDepth 100000 in
set_option maxHeartbeats 4000000 in
/-- pub-orthodrome/spec.trim -/
theorem w_trim (F : Nat) (a0 : (List Int)) (r0 : (List Int)) (h0 : p_trim F a0 = some r0) : FnD Tryz.prog 72 [eS4 a0] (fun r => r = eS4 r0) := by
 refine FnD.of (by kernel_rfl) Tryz.func72 rfl Tryz.ntmps72 rfl (leb rfl) fun W ok => ?_
 unfold p_trim at h0
 refine AC.seq ?_
 refine AC.region ?_
 refine AO.op rfl (AOp.assign rfl rfl (ltb rfl) rfl ?_)
 refine AO.nil ?_
 change AC _ _ _ _
 obtain ⟨o1, l2, h0⟩ := bind_elim h0
 refine AC.joinP (V := (List Int)) [] [0] 0 (fun g3 => [(0, .d (eS4 g3))]) (fun g3 => []) (fun g3 => p_trim_k1 g3 = some r0) rfl ?_ ?_
 ·refine AC.block ?_
  refine AC.loopP (V := (List Int)) p_trim_l2 o1 [] [0] 0 (fun g4 => [(0, .d (eS4 g4))]) (fun g4 => []) F a0 l2 rfl rfl (LeL.refl _) rfl rfl ?_
  intro n6 g4 h1
  unfold p_trim_l2 at h1
  refine AC.seq ?_
  refine AC.seq ?_
  refine AC.region ?_
  refine AO.op rfl (AOp.move rfl rfl (ltb rfl) rfl ?_)
  refine AO.op rfl (AOp.lenDs (n := g4.length) (cells := (List.map keS4 g4)) rfl rfl (ltb rfl) rfl el26 (by decide) (len1 _ _) ?_)
  refine AO.op rfl (AOp.igtr rfl rfl (ltb rfl) rfl rfl ?_)
  refine AO.op rfl (AOp.move rfl rfl (ltb rfl) rfl ?_)
  refine AO.dec (decide ((0 : Int) < ((g4.length : Nat) : Int))) (fun q7 => ?_) (fun q7 => ?_)
  ·replace h1 := cT h1 q7
   refine AO.guardY rfl rfl rfl q7 (AOp.move rfl rfl (ltb rfl) rfl ?_)
   refine AO.guardY rfl rfl rfl q7 (AOp.move rfl rfl (ltb rfl) rfl ?_)
   refine AO.guardY rfl rfl rfl q7 (AOp.lenDs (n := g4.length) (cells := (List.map keS4 g4)) rfl rfl (ltb rfl) rfl el26 (by decide) (len1 _ _) ?_)
   obtain ⟨q8, h1⟩ := need_elim h1
   refine AO.guardY rfl rfl rfl q7 (AOp.isub rfl rfl (ltb rfl) rfl rfl rfl q8.1 q8.2 ?_)
   obtain ⟨x9, q10, h1⟩ := idx_elim h1
   refine AO.guardY rfl rfl rfl q7 (AOp.indexDs (cells := (List.map keS4 g4)) rfl rfl (ltb rfl) rfl rfl el26 (by decide) q10.1 (lt1 q10.2) ?_)
   refine AO.guardY rfl rfl rfl q7 (AOp.loadEp rfl rfl (ltb rfl) rfl agg134 (at1 q10.2) ?_)
   refine AO.guardY rfl rfl rfl q7 (AOp.ieql rfl rfl (ltb rfl) rfl rfl ?_)
   refine AO.op rfl (AOp.pick rfl rfl (ltb rfl) rfl q7 rfl ?_)
   refine AO.nil ?_
   change AC _ _ _ _
   refine AC.cond rfl (fun q11 => ?_) (fun q11 => ?_)
   ·replace h1 := cT h1 q11
    refine AC.skip ?_
    change AC _ _ _ _
    refine AC.block ?_
    refine AC.region ?_
    refine AO.op rfl (AOp.move rfl rfl (ltb rfl) rfl ?_)
    refine AO.op rfl (AOp.move rfl rfl (ltb rfl) rfl ?_)
    refine AO.op rfl (AOp.lenDs (n := g4.length) (cells := (List.map keS4 g4)) rfl rfl (ltb rfl) rfl el26 (by decide) (len1 _ _) ?_)
    obtain ⟨q12, h1⟩ := need_elim h1
    refine AO.op rfl (AOp.isub rfl rfl (ltb rfl) rfl rfl rfl q12.1 q12.2 ?_)
    obtain ⟨q13, h1⟩ := need_elim h1
    refine AO.op rfl (AOp.sliceD (cells := (List.map keS4 g4)) (n := g4.length) (l := 0) (hh := ((((g4.length : Nat) : Int) - (1 : Int))).toNat) rfl rfl (ltb rfl) rfl (.inl ⟨rfl, rfl⟩) (.inr ⟨_, _, _, rfl, rfl, q13.1.2, rfl⟩) el26 (by decide) (len1 _ _) q13.2.1 q13.2.2 (sub1 _ _ _ _) ?_)
    refine AO.op rfl (AOp.assign rfl rfl (ltb rfl) rfl ?_)
    refine AO.nil ?_
    exact ⟨((g4.drop 0).take (((((g4.length : Nat) : Int) - (1 : Int))).toNat - 0)), _, rfl, (LeL.refl _), rfl, rfl, h1⟩
   replace h1 := cF h1 q11
   refine AC.exit ?_
   obtain rfl := Option.some.inj h1
   exact ⟨g4, _, rfl, (LeL.refl _), rfl, rfl, aftL h0⟩
  replace h1 := cF h1 q7
  refine AO.guardN rfl rfl rfl (ltb rfl) rfl q7 ?_
  refine AO.guardN rfl rfl rfl (ltb rfl) rfl q7 ?_
  refine AO.guardN rfl rfl rfl (ltb rfl) rfl q7 ?_
  refine AO.guardN rfl rfl rfl (ltb rfl) rfl q7 ?_
  refine AO.guardN rfl rfl rfl (ltb rfl) rfl q7 ?_
  refine AO.guardN rfl rfl rfl (ltb rfl) rfl q7 ?_
  refine AO.guardN rfl rfl rfl (ltb rfl) rfl q7 ?_
  refine AO.op rfl (AOp.pickN rfl rfl (ltb rfl) rfl q7 rfl ?_)
  refine AO.nil ?_
  change AC _ _ _ _
  refine AC.condF rfl rfl ?_
  refine AC.exit ?_
  obtain rfl := Option.some.inj h1
  exact ⟨g4, _, rfl, (LeL.refl _), rfl, rfl, aftL h0⟩
 intro g3 h0
 unfold p_trim_k1 at h0
 refine AC.seq ?_
 refine AC.region ?_
 refine AO.op rfl (AOp.move rfl rfl (ltb rfl) rfl ?_)
 refine AO.op rfl (AOp.assign rfl rfl (ltb rfl) rfl ?_)
 refine AO.nil ?_
 change AC _ _ _ _
 refine AC.ret ?_
 change RetQ _ _ _ .ret _
 obtain rfl := Option.some.inj h0
 refine retq rfl rfl

set_option maxRecDepth 100000 in
set_option maxHeartbeats 4000000 in
/-- pub-orthodrome/spec.WholeOf -/
theorem w_WholeOf (F : Nat) (a0 : Int) (r0 : TSpec_Whole) (h0 : p_WholeOf F a0 = some r0) : FnD Tryz.prog 84 [di .i64 a0] (fun r => r = e_TSpec_Whole r0) := by
 refine FnD.of (by kernel_rfl) Tryz.func84 rfl Tryz.ntmps84 rfl (leb rfl) fun W ok => ?_
 unfold p_WholeOf at h0
 refine AC.seq ?_
 refine AC.region ?_
 refine AO.op rfl (AOp.alloc rfl rfl (ltb rfl) zero28 rfl ?_)
 refine AO.nil ?_
 change AC _ _ _ _
 refine AC.seq ?_
 refine AC.region ?_
 refine AO.op rfl (AOp.move rfl rfl (ltb rfl) rfl ?_)
 refine AO.op rfl (AOp.i2i rfl rfl (ltb rfl) rfl Tryz.underlying2 Tryz.underlying135 rfl ?_)
 refine AO.op rfl (AOp.assign rfl rfl (ltb rfl) rfl ?_)
 refine AO.nil ?_
 change AC _ _ _ _
 refine AC.joinP (V := Int) [0, 2] [3] 1 (fun g1 => [(3, .d (di .u64 g1))]) (fun g1 => [.fix 28 [.d (dbool false), .d (.v (.slice none 0 0))]]) (fun g1 => (p_WholeOf_k1 a0 F) g1 = some r0) rfl ?_ ?_
 ·refine AC.seq ?_
  refine AC.region ?_
  refine AO.op rfl (AOp.move rfl rfl (ltb rfl) rfl ?_)
  refine AO.op rfl (AOp.ilss rfl rfl (ltb rfl) rfl rfl ?_)
  refine AO.nil ?_
  change AC _ _ _ _
  refine AC.cond rfl (fun q5 => ?_) (fun q5 => ?_)
  ·replace h0 := cT h0 q5
   refine AC.region ?_
   refine AO.op rfl (AOp.move rfl rfl (ltb rfl) rfl ?_)
   refine AO.op rfl (AOp.inegW rfl rfl (ltb rfl) rfl ?_)
   refine AO.op rfl (AOp.assign rfl rfl (ltb rfl) rfl ?_)
   refine AO.nil ?_
   exact ⟨(IntKind.u64.wrap (-(IntKind.u64.wrap a0))), _, rfl, (LeL.refl _), rfl, rfl, h0⟩
  replace h0 := cF h0 q5
  refine AC.skip ?_
  exact ⟨(IntKind.u64.wrap a0), _, rfl, (LeL.refl _), rfl, rfl, h0⟩
 intro g1 h0
 unfold p_WholeOf_k1 at h0
 refine AC.seq ?_
 refine AC.region ?_
 refine AO.op rfl (AOp.move rfl rfl (ltb rfl) rfl ?_)
 refine AO.op rfl (AOp.ilss rfl rfl (ltb rfl) rfl rfl ?_)
 refine AO.op rfl (AOp.move rfl rfl (ltb rfl) rfl ?_)
 refine AO.op rfl (AOp.i2i rfl rfl (ltb rfl) rfl Tryz.underlying135 Tryz.underlying134 rfl ?_)
 refine AO.op rfl (AOp.move rfl rfl (ltb rfl) rfl ?_)
 obtain ⟨q2, h0⟩ := need_elim h0
 refine AO.op rfl (AOp.ishr (n := 32) rfl rfl (ltb rfl) rfl rfl (by decide) q2 rfl ?_)
 refine AO.op rfl (AOp.i2i rfl rfl (ltb rfl) rfl Tryz.underlying135 Tryz.underlying134 rfl ?_)
 refine AO.op rfl (AOp.buildSliceD rfl rfl (ltb rfl) el26 zero134 rfl (leb rfl) rfl rfl rfl rfl ?_)
 obtain ⟨y3, q4, h0⟩ := bind_elim h0
 refine AO.op rfl (AOp.callD rfl rfl (ltb rfl) rfl rfl (w_trim F [(IntKind.u32.wrap g1), (IntKind.u32.wrap (g1 / 2 ^ 32))] y3 q4) ?_)
 rintro _ rfl
 refine AO.op rfl (AOp.build rfl rfl (ltb rfl) zero28 rfl places28 rfl rfl ?_)
 refine AO.op rfl (AOp.store rfl rfl rfl rfl size28 rfl rfl rfl (leb rfl) ?_)
 refine AO.nil ?_
 change AC _ _ _ _
 refine AC.ret ?_
 change RetQ _ _ _ .ret _
 obtain rfl := Option.some.inj h0
 refine retq rfl rfl

set_option maxRecDepth 100000 in
set_option maxHeartbeats 4000000 in
/-- pub-orthodrome/spec.DyadicOf -/
theorem w_DyadicOf (F : Nat) (a0 : Nat) (r0 : TSpec_Dyadic) (h0 : p_DyadicOf F a0 = some r0) : FnD Tryz.prog 67 [dfl a0] (fun r => r = e_TSpec_Dyadic r0) := by
 refine FnD.of (by kernel_rfl) Tryz.func67 rfl Tryz.ntmps67 rfl (leb rfl) fun W ok => ?_
 unfold p_DyadicOf at h0
 refine AC.seq ?_
 refine AC.region ?_
 refine AO.op rfl (AOp.alloc rfl rfl (ltb rfl) zero30 rfl ?_)
 refine AO.nil ?_
 change AC _ _ _ _
 refine AC.seq ?_
 refine AC.region ?_
 refine AO.op rfl (AOp.move rfl rfl (ltb rfl) rfl ?_)
 refine AO.op rfl (AOp.callX [.float .f64 a0] rfl rfl (ltb rfl) rfl (callBits a0) ?_)
 refine AO.op rfl (AOp.assign rfl rfl (ltb rfl) rfl ?_)
 refine AO.nil ?_
 change AC _ _ _ _
 refine AC.seq ?_
 refine AC.region ?_
 refine AO.op rfl (AOp.move rfl rfl (ltb rfl) rfl ?_)
 refine AO.op rfl (AOp.ibits (by simp) rfl rfl (ltb rfl) rfl rfl rfl ?_)
 refine AO.op rfl (AOp.i2i rfl rfl (ltb rfl) rfl Tryz.underlying135 Tryz.underlying2 rfl ?_)
 refine AO.op rfl (AOp.move rfl rfl (ltb rfl) rfl ?_)
 obtain ⟨q1, h0⟩ := need_elim h0
 refine AO.op rfl (AOp.ishr (n := 52) rfl rfl (ltb rfl) rfl rfl (by decide) q1 rfl ?_)
 refine AO.op rfl (AOp.ibits (by simp) rfl rfl (ltb rfl) rfl rfl rfl ?_)
 refine AO.op rfl (AOp.i2i rfl rfl (ltb rfl) rfl Tryz.underlying135 Tryz.underlying3 rfl ?_)
 refine AO.op rfl (AOp.assign rfl rfl (ltb rfl) rfl ?_)
 refine AO.op rfl (AOp.assign rfl rfl (ltb rfl) rfl ?_)
 refine AO.nil ?_
 change AC _ _ _ _
 refine AC.joinP (V := (Int × Int)) [2, 3] [4, 5] 1 (fun g2 => [(4, .d (di .i64 g2.1)), (5, .d (di .i64 g2.2))]) (fun g2 => [.fix 30 [.d (dbool false), .d (.v (.slice none 0 0)), .d (di .i64 (0 : Int))]]) (fun g2 => (p_DyadicOf_k1 a0 F) g2 = some r0) rfl ?_ ?_
 ·refine AC.seq ?_
  refine AC.region ?_
  refine AO.op rfl (AOp.move rfl rfl (ltb rfl) rfl ?_)
  refine AO.nil ?_
  change AC _ _ _ _
  refine AC.block ?_
  refine AC.seq ?_
  refine AC.region ?_
  refine AO.op rfl (AOp.ieql rfl rfl (ltb rfl) rfl rfl ?_)
  refine AO.op rfl (AOp.assign rfl rfl (ltb rfl) rfl ?_)
  refine AO.nil ?_
  change AC _ _ _ _
  refine AC.cond rfl (fun q12 => ?_) (fun q12 => ?_)
  ·replace h0 := cT h0 q12
   refine AC.seq ?_
   refine AC.region ?_
   refine AO.op rfl (AOp.build rfl rfl (ltb rfl) zero30 rfl places30 rfl rfl ?_)
   refine AO.op rfl (AOp.store rfl rfl rfl rfl size30 rfl rfl rfl (leb rfl) ?_)
   refine AO.nil ?_
   change AC _ _ _ _
   refine AC.subO 0 rfl (.cons (SVLe.refl _) (.cons (SVLe.nil 1) (.cons (SVLe.refl _) .nil))) ?_
   refine AC.ret ?_
   change RetQ _ _ _ .ret _
   obtain rfl := Option.some.inj h0
   refine retq rfl rfl
  replace h0 := cF h0 q12
  refine AC.seq ?_
  refine AC.region ?_
  refine AO.op rfl (AOp.ieql rfl rfl (ltb rfl) rfl rfl ?_)
  refine AO.op rfl (AOp.assign rfl rfl (ltb rfl) rfl ?_)
  refine AO.nil ?_
  change AC _ _ _ _
  refine AC.cond rfl (fun q13 => ?_) (fun q13 => ?_)
  ·replace h0 := cT h0 q13
   refine AC.region ?_
   refine AO.op rfl (AOp.assign rfl rfl (ltb rfl) rfl ?_)
   refine AO.nil ?_
   exact ⟨((IntKind.i64.wrap (bits .and .u64 ((a0 : Nat) : Int) (4503599627370495 : Int))), (1 : Int)), _, rfl, (LeL.refl _), rfl, rfl, h0⟩
  replace h0 := cF h0 q13
  refine AC.region ?_
  refine AO.op rfl (AOp.move rfl rfl (ltb rfl) rfl ?_)
  obtain ⟨q14, h0⟩ := need_elim h0
  refine AO.op rfl (AOp.iadd rfl rfl (ltb rfl) rfl rfl rfl q14.1 q14.2 ?_)
  refine AO.op rfl (AOp.assign rfl rfl (ltb rfl) rfl ?_)
  refine AO.nil ?_
  exact ⟨(((IntKind.i64.wrap (bits .and .u64 ((a0 : Nat) : Int) (4503599627370495 : Int))) + (4503599627370496 : Int)), (IntKind.i64.wrap (bits .and .u64 (((a0 : Nat) : Int) / 2 ^ 52) (2047 : Int)))), _, rfl, (LeL.refl _), rfl, rfl, h0⟩
 intro g2 h0
 unfold p_DyadicOf_k1 at h0
 refine AC.seq ?_
 refine AC.seq ?_
 refine AC.region ?_
 refine AO.op rfl (AOp.move rfl rfl (ltb rfl) rfl ?_)
 obtain ⟨q3, h0⟩ := need_elim h0
 refine AO.op rfl (AOp.ishr (n := 63) rfl rfl (ltb rfl) rfl rfl (by decide) q3 rfl ?_)
 refine AO.op rfl (AOp.ieql rfl rfl (ltb rfl) rfl rfl ?_)
 refine AO.nil ?_
 change AC _ _ _ _
 refine AC.cond rfl (fun q4 => ?_) (fun q4 => ?_)
 ·replace h0 := cT h0 q4
  refine AC.region ?_
  refine AO.op rfl (AOp.move rfl rfl (ltb rfl) rfl ?_)
  obtain ⟨q5, h0⟩ := need_elim h0
  refine AO.op rfl (AOp.ineg rfl rfl (ltb rfl) rfl rfl q5.1 q5.2 ?_)
  refine AO.op rfl (AOp.assign rfl rfl (ltb rfl) rfl ?_)
  refine AO.nil ?_
  change AC _ _ _ _
  refine AC.seq ?_
  refine AC.region ?_
  refine AO.op rfl (AOp.move rfl rfl (ltb rfl) rfl ?_)
  obtain ⟨y6, q7, h0⟩ := bind_elim h0
  refine AO.op rfl (AOp.callD rfl rfl (ltb rfl) rfl rfl (w_WholeOf F (-g2.1) y6 q7) ?_)
  rintro _ rfl
  refine AO.op rfl (AOp.move rfl rfl (ltb rfl) rfl ?_)
  obtain ⟨q8, h0⟩ := need_elim h0
  refine AO.op rfl (AOp.isub rfl rfl (ltb rfl) rfl rfl rfl q8.1 q8.2 ?_)
  refine AO.op rfl (AOp.build rfl rfl (ltb rfl) zero30 rfl places30 rfl rfl ?_)
  refine AO.op rfl (AOp.store rfl rfl rfl rfl size30 rfl rfl rfl (leb rfl) ?_)
  refine AO.nil ?_
  change AC _ _ _ _
  refine AC.ret ?_
  change RetQ _ _ _ .ret _
  obtain rfl := Option.some.inj h0
  refine retq rfl rfl
 replace h0 := cF h0 q4
 refine AC.skip ?_
 change AC _ _ _ _
 refine AC.seq ?_
 refine AC.region ?_
 refine AO.op rfl (AOp.move rfl rfl (ltb rfl) rfl ?_)
 obtain ⟨y9, q10, h0⟩ := bind_elim h0
 refine AO.op rfl (AOp.callD rfl rfl (ltb rfl) rfl rfl (w_WholeOf F g2.1 y9 q10) ?_)
 rintro _ rfl
 refine AO.op rfl (AOp.move rfl rfl (ltb rfl) rfl ?_)
 obtain ⟨q11, h0⟩ := need_elim h0
 refine AO.op rfl (AOp.isub rfl rfl (ltb rfl) rfl rfl rfl q11.1 q11.2 ?_)
 refine AO.op rfl (AOp.build rfl rfl (ltb rfl) zero30 rfl places30 rfl rfl ?_)
 refine AO.op rfl (AOp.store rfl rfl rfl rfl size30 rfl rfl rfl (leb rfl) ?_)
 refine AO.nil ?_
 change AC _ _ _ _
 refine AC.ret ?_
 change RetQ _ _ _ .ret _
 obtain rfl := Option.some.inj h0
 refine retq rfl rfl

set_option maxRecDepth 100000 in
set_option maxHeartbeats 4000000 in
/-- pub-orthodrome/spec.PointOf -/
theorem w_PointOf (F : Nat) (a0 : Nat) (a1 : Nat) (r0 : TSpec_Point) (h0 : p_PointOf F a0 a1 = some r0) : FnD Tryz.prog 70 [dfl a0, dfl a1] (fun r => r = e_TSpec_Point r0) := by
 refine FnD.of (by kernel_rfl) Tryz.func70 rfl Tryz.ntmps70 rfl (leb rfl) fun W ok => ?_
 unfold p_PointOf at h0
 refine AC.seq ?_
 refine AC.region ?_
 refine AO.op rfl (AOp.alloc rfl rfl (ltb rfl) zero38 rfl ?_)
 refine AO.nil ?_
 change AC _ _ _ _
 refine AC.seq ?_
 refine AC.region ?_
 refine AO.op rfl (AOp.move rfl rfl (ltb rfl) rfl ?_)
 obtain ⟨y1, q2, h0⟩ := bind_elim h0
 refine AO.op rfl (AOp.callD rfl rfl (ltb rfl) rfl rfl (w_DyadicOf F a0 y1 q2) ?_)
 rintro _ rfl
 refine AO.op rfl (AOp.move rfl rfl (ltb rfl) rfl ?_)
 obtain ⟨y3, q4, h0⟩ := bind_elim h0
 refine AO.op rfl (AOp.callD rfl rfl (ltb rfl) rfl rfl (w_DyadicOf F a1 y3 q4) ?_)
 rintro _ rfl
 refine AO.op rfl (AOp.build rfl rfl (ltb rfl) zero38 rfl places38 rfl rfl ?_)
 refine AO.op rfl (AOp.store rfl rfl rfl rfl size38 rfl rfl rfl (leb rfl) ?_)
 refine AO.nil ?_
 change AC _ _ _ _
 refine AC.ret ?_
 change RetQ _ _ _ .ret _
 obtain rfl := Option.some.inj h0
 refine retq rfl rfl

set_option maxRecDepth 100000 in
set_option maxHeartbeats 4000000 in
/-- pub-orthodrome/spec.Places -/
theorem w_Places (F : Nat) (a0 : (List Nat)) (a1 : Int) (r0 : (List TSpec_Point)) (h0 : p_Places F a0 a1 = some r0) : FnD Tryz.prog 30 [eS1 a0, di .i64 a1] (fun r => r = eS6 r0) := by
 refine FnD.of (by kernel_rfl) Tryz.func30 rfl Tryz.ntmps30 rfl (leb rfl) fun W ok => ?_
 unfold p_Places at h0
 refine AC.seq ?_
 refine AC.region ?_
 refine AO.op rfl (AOp.assign rfl rfl (ltb rfl) rfl ?_)
 refine AO.nil ?_
 change AC _ _ _ _
 refine AC.seq ?_
 refine AC.region ?_
 refine AO.op rfl (AOp.assign rfl rfl (ltb rfl) rfl ?_)
 refine AO.nil ?_
 change AC _ _ _ _
 refine AC.seq ?_
 refine AC.seq ?_
 refine AC.region ?_
 refine AO.op rfl (AOp.assign rfl rfl (ltb rfl) rfl ?_)
 refine AO.nil ?_
 change AC _ _ _ _
 refine AC.adopt 5 38 6 rfl ?_
 obtain ⟨o1, l2, h0⟩ := bind_elim h0
 refine AC.joinE (V := (List TSpec_Point)) [] [5] 1 (fun g3 => [(5, .own 0)]) (fun g3 => [.grow 38 6 (List.flatMap c_TSpec_Point g3)]) (fun g3 => p_Places_k1 g3 = some r0) rfl ?_ ?_
 ·refine AC.block ?_
  refine AC.loopP (V := (Int × (List TSpec_Point))) (p_Places_l2 a0 a1 F) o1 [0, 1] [5, 6] 1 (fun g4 => [(5, .own 0), (6, .d (di .i64 g4.1))]) (fun g4 => [.grow 38 6 (List.flatMap c_TSpec_Point g4.2)]) F ((0 : Int), []) l2 rfl rfl (LeL.refl _) rfl rfl ?_
  intro n6 g4 h1
  unfold p_Places_l2 at h1
  refine AC.seq ?_
  refine AC.joinP (V := Bool) [0, 1, 5, 6] [16] 1 (fun g7 => [(16, .d (dbool g7))]) (fun g7 => [.grow 38 6 (List.flatMap c_TSpec_Point g4.2)]) (fun g7 => (p_Places_k3 a0 a1 F g4 (iter (p_Places_l2 a0 a1 F) n6)) g7 = some o1) rfl ?_ ?_
  ·refine AC.region ?_
   refine AO.op rfl (AOp.move rfl rfl (ltb rfl) rfl ?_)
   refine AO.op rfl (AOp.igtr rfl rfl (ltb rfl) rfl rfl ?_)
   refine AO.op rfl (AOp.move rfl rfl (ltb rfl) rfl ?_)
   refine AO.dec (decide ((1 : Int) < a1)) (fun q18 => ?_) (fun q18 => ?_)
   ·replace h1 := cT h1 q18
    refine AO.guardY rfl rfl rfl q18 (AOp.move rfl rfl (ltb rfl) rfl ?_)
    refine AO.guardY rfl rfl rfl q18 (AOp.move rfl rfl (ltb rfl) rfl ?_)
    obtain ⟨q19, h1⟩ := need_elim h1
    refine AO.guardY rfl rfl rfl q18 (AOp.iadd rfl rfl (ltb rfl) rfl rfl rfl q19.1 q19.2 ?_)
    refine AO.guardY rfl rfl rfl q18 (AOp.move rfl rfl (ltb rfl) rfl ?_)
    refine AO.guardY rfl rfl rfl q18 (AOp.lenDs (n := a0.length) (cells := (List.map keS1 a0)) rfl rfl (ltb rfl) rfl el40 (by decide) (len1 _ _) ?_)
    refine AO.guardY rfl rfl rfl q18 (AOp.ileq rfl rfl (ltb rfl) rfl rfl ?_)
    refine AO.op rfl (AOp.pick rfl rfl (ltb rfl) rfl q18 rfl ?_)
    refine AO.nil ?_
    exact ⟨(decide ((g4.1 + a1) ≤ ((a0.length : Nat) : Int))), _, rfl, (LeL.refl _), rfl, rfl, h1⟩
   replace h1 := cF h1 q18
   refine AO.guardN rfl rfl rfl (ltb rfl) rfl q18 ?_
   refine AO.guardN rfl rfl rfl (ltb rfl) rfl q18 ?_
   refine AO.guardN rfl rfl rfl (ltb rfl) rfl q18 ?_
   refine AO.guardN rfl rfl rfl (ltb rfl) rfl q18 ?_
   refine AO.guardN rfl rfl rfl (ltb rfl) rfl q18 ?_
   refine AO.guardN rfl rfl rfl (ltb rfl) rfl q18 ?_
   refine AO.op rfl (AOp.pickN rfl rfl (ltb rfl) rfl q18 rfl ?_)
   refine AO.nil ?_
   exact ⟨false, _, rfl, (LeL.refl _), rfl, rfl, h1⟩
  intro g7 h1
  unfold p_Places_k3 at h1
  refine AC.cond rfl (fun q8 => ?_) (fun q8 => ?_)
  ·replace h1 := cT h1 q8
   refine AC.skip ?_
   change AC _ _ _ _
   refine AC.seq ?_
   refine AC.block ?_
   refine AC.draw 12 mixed (by kernel_rfl) ?_
   refine AD.op [5] rfl (by kernel_rfl) rfl rfl (fun _ _ h => AOp.move rfl rfl (ltb rfl) rfl h) ?_
   refine AD.op [0] rfl (by kernel_rfl) rfl rfl (fun _ _ h => AOp.move rfl rfl (ltb rfl) rfl h) ?_
   refine AD.op [6] rfl (by kernel_rfl) rfl rfl (fun _ _ h => AOp.move rfl rfl (ltb rfl) rfl h) ?_
   obtain ⟨x9, q10, h1⟩ := idx_elim h1
   refine AD.op [21, 22] rfl (by kernel_rfl) rfl rfl (fun _ _ h => AOp.indexDs (cells := (List.map keS1 a0)) rfl rfl (ltb rfl) rfl rfl el40 (by decide) q10.1 (lt1 q10.2) h) ?_
   refine AD.op [23] rfl (by kernel_rfl) rfl rfl (fun _ _ h => AOp.loadEp rfl rfl (ltb rfl) rfl agg54 (at1 q10.2) h) ?_
   refine AD.op [0] rfl (by kernel_rfl) rfl rfl (fun _ _ h => AOp.move rfl rfl (ltb rfl) rfl h) ?_
   refine AD.op [6] rfl (by kernel_rfl) rfl rfl (fun _ _ h => AOp.move rfl rfl (ltb rfl) rfl h) ?_
   obtain ⟨q11, h1⟩ := need_elim h1
   refine AD.op [26] rfl (by kernel_rfl) rfl rfl (fun _ _ h => AOp.iadd rfl rfl (ltb rfl) rfl rfl rfl q11.1 q11.2 h) ?_
   obtain ⟨x12, q13, h1⟩ := idx_elim h1
   refine AD.op [25, 27] rfl (by kernel_rfl) rfl rfl (fun _ _ h => AOp.indexDs (cells := (List.map keS1 a0)) rfl rfl (ltb rfl) rfl rfl el40 (by decide) q13.1 (lt1 q13.2) h) ?_
   refine AD.op [28] rfl (by kernel_rfl) rfl rfl (fun _ _ h => AOp.loadEp rfl rfl (ltb rfl) rfl agg54 (at1 q13.2) h) ?_
   obtain ⟨y14, q15, h1⟩ := bind_elim h1
   refine AD.op [24, 29] rfl (by kernel_rfl) rfl rfl (fun _ _ h => AOp.callD rfl rfl (ltb rfl) rfl rfl (w_PointOf F x9 x12 y14 q15) (by rintro _ rfl; exact h)) ?_
   refine AD.op [30] rfl (by kernel_rfl) rfl rfl (fun _ _ h => AOp.buildSliceD rfl rfl (ltb rfl) el35 zero38 rfl (leb rfl) rfl rfl rfl rfl h) ?_
   refine AD.done ?_
   obtain ⟨q16, h1⟩ := need_elim h1
   refine AO.op rfl (AOp.appendOwn' (p := 0) (n := g4.2.length) (m := [y14].length) (news := (List.flatMap c_TSpec_Point [y14])) rfl rfl (ltb rfl) rfl rfl el35 info38 rfl (by decide) rfl (lenN _ 6 (fun _ => rfl) _) (lenN _ 6 (fun _ => rfl) _) (oneN _ (fun _ => rfl) _) q16 (by decide) rfl rfl (catN _ _ _) ?_)
   refine AO.op rfl (AOp.assign rfl rfl (ltb rfl) rfl ?_)
   refine AO.nil ?_
   change AC _ _ _ _
   refine AC.region ?_
   refine AO.op rfl (AOp.move rfl rfl (ltb rfl) rfl ?_)
   refine AO.op rfl (AOp.move rfl rfl (ltb rfl) rfl ?_)
   obtain ⟨q17, h1⟩ := need_elim h1
   refine AO.op rfl (AOp.iadd rfl rfl (ltb rfl) rfl rfl rfl q17.1 q17.2 ?_)
   refine AO.op rfl (AOp.assign rfl rfl (ltb rfl) rfl ?_)
   refine AO.nil ?_
   exact ⟨((g4.1 + a1), (g4.2 ++ [y14])), _, rfl, (LeL.refl _), rfl, rfl, h1⟩
  replace h1 := cF h1 q8
  refine AC.exit ?_
  obtain rfl := Option.some.inj h1
  exact ⟨g4.2, _, rfl, (LeL.refl _), rfl, rfl, aftL h0⟩
 intro g3 h0
 unfold p_Places_k1 at h0
 change AC _ _ _ _
 refine AC.seq ?_
 refine AC.region ?_
 refine AO.op rfl (AOp.move rfl rfl (ltb rfl) rfl ?_)
 refine AO.op rfl (AOp.assign rfl rfl (ltb rfl) rfl ?_)
 refine AO.nil ?_
 change AC _ _ _ _
 refine AC.ret ?_
 change RetQ _ _ _ .ret _
 obtain rfl := Option.some.inj h0
 refine retq rfl rfl

set_option maxRecDepth 100000 in
set_option maxHeartbeats 4000000 in
/-- pub-orthodrome/spec.Lines -/
theorem w_Lines (F : Nat) (a0 : (List Nat)) (a1 : (List Int)) (a2 : Int) (r0 : (List (List TSpec_Point))) (h0 : p_Lines F a0 a1 a2 = some r0) : FnD Tryz.prog 13 [eS1 a0, eS2 a1, di .i64 a2] (fun r => r = eS7 r0) := by
 refine FnD.of (by kernel_rfl) Tryz.func13 rfl Tryz.ntmps13 rfl (leb rfl) fun W ok => ?_
 unfold p_Lines at h0
 refine AC.seq ?_
 refine AC.region ?_
 refine AO.op rfl (AOp.assign rfl rfl (ltb rfl) rfl ?_)
 refine AO.nil ?_
 change AC _ _ _ _
 refine AC.seq ?_
 refine AC.region ?_
 refine AO.op rfl (AOp.assign rfl rfl (ltb rfl) rfl ?_)
 refine AO.nil ?_
 change AC _ _ _ _
 refine AC.seq ?_
 refine AC.region ?_
 refine AO.op rfl (AOp.assign rfl rfl (ltb rfl) rfl ?_)
 refine AO.nil ?_
 change AC _ _ _ _
 refine AC.seq ?_
 refine AC.seq ?_
 refine AC.region ?_
 refine AO.op rfl (AOp.move rfl rfl (ltb rfl) rfl ?_)
 refine AO.op rfl (AOp.lenDs (n := a1.length) (cells := (List.map keS2 a1)) rfl rfl (ltb rfl) rfl el46 (by decide) (len1 _ _) ?_)
 refine AO.op rfl (AOp.move rfl rfl (ltb rfl) rfl ?_)
 refine AO.nil ?_
 change AC _ _ _ _
 refine AC.adopt 7 35 1 rfl ?_
 obtain ⟨o1, l2, h0⟩ := bind_elim h0
 refine AC.joinE (V := (List (List TSpec_Point))) [] [7] 1 (fun g3 => [(7, .own 0)]) (fun g3 => [.grow 35 1 (List.map keS7 g3)]) (fun g3 => p_Lines_k1 g3 = some r0) rfl ?_ ?_
 ·refine AC.block ?_
  refine AC.loopP (V := (Int × Int × (List (List TSpec_Point)))) (p_Lines_l2 a0 a1 a2 F) o1 [0, 2, 11, 12] [7, 8, 13] 1 (fun g4 => [(7, .own 0), (8, .d (di .i64 g4.1)), (13, .d (di .i64 g4.2.1))]) (fun g4 => [.grow 35 1 (List.map keS7 g4.2.2)]) F ((0 : Int), (0 : Int), []) l2 rfl rfl (LeL.refl _) rfl rfl ?_
  intro n6 g4 h1
  unfold p_Lines_l2 at h1
  refine AC.seq ?_
  refine AC.region ?_
  refine AO.op rfl (AOp.ilss rfl rfl (ltb rfl) rfl rfl ?_)
  refine AO.nil ?_
  change AC _ _ _ _
  refine AC.seq ?_
  refine AC.cond rfl (fun q7 => ?_) (fun q7 => ?_)
  ·replace h1 := cT h1 q7
   refine AC.skip ?_
   change AC _ _ _ _
   refine AC.seq ?_
   refine AC.block ?_
   refine AC.seq ?_
   refine AC.region ?_
   obtain ⟨x8, q9, h1⟩ := idx_elim h1
   refine AO.op rfl (AOp.indexDs (cells := (List.map keS2 a1)) rfl rfl (ltb rfl) rfl rfl el46 (by decide) q9.1 (lt1 q9.2) ?_)
   refine AO.op rfl (AOp.loadEp rfl rfl (ltb rfl) rfl agg3 (at1 q9.2) ?_)
   refine AO.op rfl (AOp.assign rfl rfl (ltb rfl) rfl ?_)
   refine AO.nil ?_
   change AC _ _ _ _
   refine AC.seq ?_
   refine AC.joinP (V := Bool) [0, 2, 7, 8, 10, 11, 12, 13] [25] 1 (fun g10 => [(25, .d (dbool g10))]) (fun g10 => [.grow 35 1 (List.map keS7 g4.2.2)]) (fun g10 => (p_Lines_k3 a0 a2 F g4 (iter (p_Lines_l2 a0 a1 a2 F) n6) x8) g10 = some o1) rfl ?_ ?_
   ·refine AC.region ?_
    refine AO.op rfl (AOp.move rfl rfl (ltb rfl) rfl ?_)
    refine AO.op rfl (AOp.move rfl rfl (ltb rfl) rfl ?_)
    refine AO.op rfl (AOp.ileq rfl rfl (ltb rfl) rfl rfl ?_)
    refine AO.op rfl (AOp.move rfl rfl (ltb rfl) rfl ?_)
    refine AO.dec (decide (g4.1 ≤ x8)) (fun q18 => ?_) (fun q18 => ?_)
    ·replace h1 := cT h1 q18
     refine AO.guardY rfl rfl rfl q18 (AOp.move rfl rfl (ltb rfl) rfl ?_)
     refine AO.guardY rfl rfl rfl q18 (AOp.move rfl rfl (ltb rfl) rfl ?_)
     refine AO.guardY rfl rfl rfl q18 (AOp.lenDs (n := a0.length) (cells := (List.map keS1 a0)) rfl rfl (ltb rfl) rfl el40 (by decide) (len1 _ _) ?_)
     refine AO.guardY rfl rfl rfl q18 (AOp.ileq rfl rfl (ltb rfl) rfl rfl ?_)
     refine AO.op rfl (AOp.pick rfl rfl (ltb rfl) rfl q18 rfl ?_)
     refine AO.nil ?_
     exact ⟨(decide (x8 ≤ ((a0.length : Nat) : Int))), _, rfl, (LeL.refl _), rfl, rfl, h1⟩
    replace h1 := cF h1 q18
    refine AO.guardN rfl rfl rfl (ltb rfl) rfl q18 ?_
    refine AO.guardN rfl rfl rfl (ltb rfl) rfl q18 ?_
    refine AO.guardN rfl rfl rfl (ltb rfl) rfl q18 ?_
    refine AO.guardN rfl rfl rfl (ltb rfl) rfl q18 ?_
    refine AO.op rfl (AOp.pickN rfl rfl (ltb rfl) rfl q18 rfl ?_)
    refine AO.nil ?_
    exact ⟨false, _, rfl, (LeL.refl _), rfl, rfl, h1⟩
   intro g10 h1
   unfold p_Lines_k3 at h1
   refine AC.cond rfl (fun q11 => ?_) (fun q11 => ?_)
   ·replace h1 := cT h1 q11
    refine AC.region ?_
    refine AO.op rfl (AOp.move rfl rfl (ltb rfl) rfl ?_)
    refine AO.op rfl (AOp.move rfl rfl (ltb rfl) rfl ?_)
    refine AO.op rfl (AOp.move rfl rfl (ltb rfl) rfl ?_)
    refine AO.op rfl (AOp.move rfl rfl (ltb rfl) rfl ?_)
    obtain ⟨q12, h1⟩ := need_elim h1
    refine AO.op rfl (AOp.sliceD (cells := (List.map keS1 a0)) (n := a0.length) (l := (g4.1).toNat) (hh := (x8).toNat) rfl rfl (ltb rfl) rfl (.inr ⟨_, _, _, rfl, rfl, q12.1.1, rfl⟩) (.inr ⟨_, _, _, rfl, rfl, q12.1.2, rfl⟩) el40 (by decide) (len1 _ _) q12.2.1 q12.2.2 (sub1 _ _ _ _) ?_)
    refine AO.op rfl (AOp.move rfl rfl (ltb rfl) rfl ?_)
    obtain ⟨y13, q14, h1⟩ := bind_elim h1
    refine AO.op rfl (AOp.callD rfl rfl (ltb rfl) rfl rfl (w_Places F ((a0.drop (g4.1).toNat).take ((x8).toNat - (g4.1).toNat)) a2 y13 q14) ?_)
    rintro _ rfl
    refine AO.op rfl (AOp.buildSliceD rfl rfl (ltb rfl) el23 zero35 rfl (leb rfl) rfl rfl rfl rfl ?_)
    obtain ⟨q15, h1⟩ := need_elim h1
    refine AO.op rfl (AOp.appendOwn' (p := 0) (n := g4.2.2.length) (m := [y13].length) (news := (List.map keS7 [y13])) rfl rfl (ltb rfl) rfl rfl el23 info35 rfl (by decide) rfl (len1 _ _) (len1 _ _) (one1 _ (fun _ => rfl) _) q15 (by decide) rfl rfl (cat1 _ _ _) ?_)
    refine AO.op rfl (AOp.assign rfl rfl (ltb rfl) rfl ?_)
    refine AO.nil ?_
    change AC _ _ _ _
    refine AC.region ?_
    refine AO.op rfl (AOp.move rfl rfl (ltb rfl) rfl ?_)
    refine AO.op rfl (AOp.move rfl rfl (ltb rfl) rfl ?_)
    refine AO.op rfl (AOp.imax rfl rfl (ltb rfl) rfl rfl ?_)
    refine AO.op rfl (AOp.assign rfl rfl (ltb rfl) rfl ?_)
    refine AO.nil ?_
    change AC _ _ _ _
    refine AC.region ?_
    obtain ⟨q16, h1⟩ := need_elim h1
    refine AO.op rfl (AOp.iadd rfl rfl (ltb rfl) rfl rfl rfl q16.1 q16.2 ?_)
    refine AO.op rfl (AOp.move rfl rfl (ltb rfl) rfl ?_)
    refine AO.nil ?_
    exact ⟨((if g4.1 < x8 then x8 else g4.1), (g4.2.1 + (1 : Int)), (g4.2.2 ++ [y13])), _, rfl, (LeL.refl _), rfl, rfl, h1⟩
   replace h1 := cF h1 q11
   refine AC.skip ?_
   change AC _ _ _ _
   refine AC.region ?_
   refine AO.op rfl (AOp.move rfl rfl (ltb rfl) rfl ?_)
   refine AO.op rfl (AOp.move rfl rfl (ltb rfl) rfl ?_)
   refine AO.op rfl (AOp.imax rfl rfl (ltb rfl) rfl rfl ?_)
   refine AO.op rfl (AOp.assign rfl rfl (ltb rfl) rfl ?_)
   refine AO.nil ?_
   change AC _ _ _ _
   refine AC.region ?_
   obtain ⟨q17, h1⟩ := need_elim h1
   refine AO.op rfl (AOp.iadd rfl rfl (ltb rfl) rfl rfl rfl q17.1 q17.2 ?_)
   refine AO.op rfl (AOp.move rfl rfl (ltb rfl) rfl ?_)
   refine AO.nil ?_
   exact ⟨((if g4.1 < x8 then x8 else g4.1), (g4.2.1 + (1 : Int)), g4.2.2), _, rfl, (LeL.refl _), rfl, rfl, h1⟩
  replace h1 := cF h1 q7
  refine AC.exit ?_
  obtain rfl := Option.some.inj h1
  exact ⟨g4.2.2, _, rfl, (LeL.refl _), rfl, rfl, aftL h0⟩
 intro g3 h0
 unfold p_Lines_k1 at h0
 change AC _ _ _ _
 refine AC.seq ?_
 refine AC.region ?_
 refine AO.op rfl (AOp.move rfl rfl (ltb rfl) rfl ?_)
 refine AO.op rfl (AOp.assign rfl rfl (ltb rfl) rfl ?_)
 refine AO.nil ?_
 change AC _ _ _ _
 refine AC.ret ?_
 change RetQ _ _ _ .ret _
 obtain rfl := Option.some.inj h0
 refine retq rfl rfl

set_option maxRecDepth 100000 in
set_option maxHeartbeats 4000000 in
/-- pub-orthodrome/laws.kindred -/
theorem w_kindred (F : Nat) (a0 : Int) (a1 : Int) (a2 : (List TImpl_Geom)) (r0 : ((List (List TSpec_Point)) × Bool)) (h0 : p_kindred F a0 a1 a2 = some r0) : FnD Tryz.prog 4 [di .i64 a0, di .i64 a1, eS0 a2] (fun r => r = .tu [eS7 r0.1, dbool r0.2]) := by
 refine FnD.of (by kernel_rfl) Tryz.func4 rfl Tryz.ntmps4 rfl (leb rfl) fun W ok => ?_
 unfold p_kindred at h0
 refine AC.seq ?_
 refine AC.region ?_
 refine AO.op rfl (AOp.assign rfl rfl (ltb rfl) rfl ?_)
 refine AO.op rfl (AOp.assign rfl rfl (ltb rfl) rfl ?_)
 refine AO.nil ?_
 change AC _ _ _ _
 refine AC.seq ?_
 refine AC.joinP (V := Bool) [0, 1, 2, 6] [25] 0 (fun g1 => [(25, .d (dbool g1))]) (fun g1 => []) (fun g1 => (p_kindred_k1 a0 a1 a2 F) g1 = some r0) rfl ?_ ?_
 ·refine AC.region ?_
  refine AO.op rfl (AOp.move rfl rfl (ltb rfl) rfl ?_)
  refine AO.op rfl (AOp.ilss rfl rfl (ltb rfl) rfl rfl ?_)
  refine AO.op rfl (AOp.move rfl rfl (ltb rfl) rfl ?_)
  refine AO.dec (decide (a1 < (1 : Int))) (fun q34 => ?_) (fun q34 => ?_)
  ·replace h0 := cT h0 q34
   refine AO.guardN rfl rfl rfl (ltb rfl) rfl q34 ?_
   refine AO.guardN rfl rfl rfl (ltb rfl) rfl q34 ?_
   refine AO.op rfl (AOp.pick rfl rfl (ltb rfl) rfl q34 rfl ?_)
   refine AO.op rfl (AOp.move rfl rfl (ltb rfl) rfl ?_)
   refine AO.guardN rfl rfl rfl (ltb rfl) rfl rfl ?_
   refine AO.guardN rfl rfl rfl (ltb rfl) rfl rfl ?_
   refine AO.guardN rfl rfl rfl (ltb rfl) rfl rfl ?_
   refine AO.op rfl (AOp.pick rfl rfl (ltb rfl) rfl rfl rfl ?_)
   refine AO.nil ?_
   exact ⟨true, _, rfl, (LeL.refl _), rfl, rfl, h0⟩
  replace h0 := cF h0 q34
  refine AO.guardY rfl rfl rfl q34 (AOp.move rfl rfl (ltb rfl) rfl ?_)
  refine AO.guardY rfl rfl rfl q34 (AOp.igtr rfl rfl (ltb rfl) rfl rfl ?_)
  refine AO.op rfl (AOp.pickN rfl rfl (ltb rfl) rfl q34 rfl ?_)
  refine AO.op rfl (AOp.move rfl rfl (ltb rfl) rfl ?_)
  refine AO.dec (decide ((8 : Int) < a1)) (fun q35 => ?_) (fun q35 => ?_)
  ·replace h0 := cT h0 q35
   refine AO.guardN rfl rfl rfl (ltb rfl) rfl q35 ?_
   refine AO.guardN rfl rfl rfl (ltb rfl) rfl q35 ?_
   refine AO.guardN rfl rfl rfl (ltb rfl) rfl q35 ?_
   refine AO.op rfl (AOp.pick rfl rfl (ltb rfl) rfl q35 rfl ?_)
   refine AO.nil ?_
   exact ⟨true, _, rfl, (LeL.refl _), rfl, rfl, h0⟩
  replace h0 := cF h0 q35
  refine AO.guardY rfl rfl rfl q35 (AOp.move rfl rfl (ltb rfl) rfl ?_)
  refine AO.guardY rfl rfl rfl q35 (AOp.lenDs (n := a2.length) (cells := (List.flatMap c0_TImpl_Geom a2)) rfl rfl (ltb rfl) rfl el22 (by decide) (lenN _ 7 c0_TImpl_Geom_len _) ?_)
  refine AO.guardY rfl rfl rfl q35 (AOp.igtr rfl rfl (ltb rfl) rfl rfl ?_)
  refine AO.op rfl (AOp.pickN rfl rfl (ltb rfl) rfl q35 rfl ?_)
  refine AO.nil ?_
  exact ⟨(decide ((20 : Int) < ((a2.length : Nat) : Int))), _, rfl, (LeL.refl _), rfl, rfl, h0⟩
 intro g1 h0
 unfold p_kindred_k1 at h0
 refine AC.cond rfl (fun q2 => ?_) (fun q2 => ?_)
 ·replace h0 := cT h0 q2
  refine AC.seq ?_
  refine AC.region ?_
  refine AO.op rfl (AOp.assign rfl rfl (ltb rfl) rfl ?_)
  refine AO.op rfl (AOp.assign rfl rfl (ltb rfl) rfl ?_)
  refine AO.nil ?_
  change AC _ _ _ _
  refine AC.sub 6 rfl (SVLe.nil 1) ?_
  refine AC.ret ?_
  change RetQ _ _ _ .ret _
  obtain rfl := Option.some.inj h0
  refine retq rfl rfl
 replace h0 := cF h0 q2
 refine AC.skip ?_
 change AC _ _ _ _
 refine AC.seq ?_
 refine AC.region ?_
 refine AO.op rfl (AOp.move rfl rfl (ltb rfl) rfl ?_)
 obtain ⟨y3, q4, h0⟩ := bind_elim h0
 refine AO.op rfl (AOp.callD rfl rfl (ltb rfl) rfl rfl (w_Stride a1 y3 q4) ?_)
 rintro _ rfl
 refine AO.op rfl (AOp.assign rfl rfl (ltb rfl) rfl ?_)
 refine AO.op rfl (AOp.assign rfl rfl (ltb rfl) rfl ?_)
 refine AO.nil ?_
 change AC _ _ _ _
 refine AC.seq ?_
 refine AC.seq ?_
 refine AC.region ?_
 refine AO.op rfl (AOp.move rfl rfl (ltb rfl) rfl ?_)
 refine AO.op rfl (AOp.lenDs (n := a2.length) (cells := (List.flatMap c0_TImpl_Geom a2)) rfl rfl (ltb rfl) rfl el22 (by decide) (lenN _ 7 c0_TImpl_Geom_len _) ?_)
 refine AO.op rfl (AOp.move rfl rfl (ltb rfl) rfl ?_)
 refine AO.nil ?_
 change AC _ _ _ _
 refine AC.adopt 6 35 1 rfl ?_
 obtain ⟨o5, l6, h0⟩ := bind_elim h0
 refine AC.joinE (V := (Int × (List (List TSpec_Point)))) [] [6, 9] 1 (fun g7 => [(6, .own 0), (9, .d (di .i64 g7.1))]) (fun g7 => [.grow 35 1 (List.map keS7 g7.2)]) (fun g7 => p_kindred_k2 g7 = some r0) rfl ?_ ?_
 ·refine AC.block ?_
  refine AC.loopP (V := (Int × Int × (List (List TSpec_Point)))) (p_kindred_l3 a0 a1 a2 F y3) o5 [0, 1, 8, 28, 29] [6, 9, 30] 1 (fun g8 => [(6, .own 0), (9, .d (di .i64 g8.1)), (30, .d (di .i64 g8.2.1))]) (fun g8 => [.grow 35 1 (List.map keS7 g8.2.2)]) F ((0 : Int), (0 : Int), []) l6 rfl rfl (LeL.refl _) rfl rfl ?_
  intro n10 g8 h1
  unfold p_kindred_l3 at h1
  refine AC.seq ?_
  refine AC.region ?_
  refine AO.op rfl (AOp.ilss rfl rfl (ltb rfl) rfl rfl ?_)
  refine AO.nil ?_
  change AC _ _ _ _
  refine AC.seq ?_
  refine AC.cond rfl (fun q11 => ?_) (fun q11 => ?_)
  ·replace h1 := cT h1 q11
   refine AC.skip ?_
   change AC _ _ _ _
   refine AC.seq ?_
   refine AC.block ?_
   refine AC.seq ?_
   refine AC.region ?_
   obtain ⟨x12, q13, h1⟩ := idx_elim h1
   refine AO.op rfl (AOp.indexDs (cells := (List.flatMap c0_TImpl_Geom a2)) rfl rfl (ltb rfl) rfl rfl el22 (by decide) q13.1 (ltN 7 c0_TImpl_Geom_len (by decide) q13.2) ?_)
   refine AO.op rfl (AOp.loadEpN rfl rfl (ltb rfl) rfl agg49 size49 (leN 7 c0_TImpl_Geom_len q13.2) ((atN 7 c0_TImpl_Geom_len q13.2).trans (c0_TImpl_Geom_eq x12)) ?_)
   refine AO.op rfl (AOp.alloc rfl rfl (ltb rfl) zero49 rfl ?_)
   refine AO.op rfl (AOp.store rfl rfl rfl rfl size49 rfl rfl rfl (leb rfl) ?_)
   refine AO.nil ?_
   change AC _ _ _ _
   refine AC.seq ?_
   refine AC.joinP (V := Bool) [0, 1, 6, 8, 9, 11, 28, 29, 30] [54] 2 (fun g14 => [(54, .d (dbool g14))]) (fun g14 => [.grow 35 1 (List.map keS7 g8.2.2), .fix 49 [.d (di .i64 x12.Kind), .d (di .i64 x12.Layout), .d (di .i64 x12.SRID), .d (eS1 x12.Flat), .d (eS2 x12.Ends), .d (eS3 x12.Endss), .d (eS0 x12.Kids)]]) (fun g14 => (p_kindred_k4 a0 a1 F y3 g8 (iter (p_kindred_l3 a0 a1 a2 F y3) n10) x12) g14 = some o5) rfl ?_ ?_
   ·refine AC.region ?_
    refine AO.op rfl (AOp.fieldAddr rfl rfl (ltb rfl) rfl fo49_0 ?_)
    refine AO.op rfl (AOp.load1 rfl rfl (ltb rfl) rfl agg3 rfl rfl ?_)
    refine AO.op rfl (AOp.move rfl rfl (ltb rfl) rfl ?_)
    refine AO.op rfl (AOp.ineq rfl rfl (ltb rfl) rfl rfl ?_)
    refine AO.op rfl (AOp.move rfl rfl (ltb rfl) rfl ?_)
    refine AO.dec (!decide (x12.Kind = a0)) (fun q29 => ?_) (fun q29 => ?_)
    ·replace h1 := cT h1 q29
     refine AO.guardN rfl rfl rfl (ltb rfl) rfl q29 ?_
     refine AO.guardN rfl rfl rfl (ltb rfl) rfl q29 ?_
     refine AO.guardN rfl rfl rfl (ltb rfl) rfl q29 ?_
     refine AO.guardN rfl rfl rfl (ltb rfl) rfl q29 ?_
     refine AO.op rfl (AOp.pick rfl rfl (ltb rfl) rfl q29 rfl ?_)
     refine AO.op rfl (AOp.move rfl rfl (ltb rfl) rfl ?_)
     refine AO.guardN rfl rfl rfl (ltb rfl) rfl rfl ?_
     refine AO.guardN rfl rfl rfl (ltb rfl) rfl rfl ?_
     refine AO.guardN rfl rfl rfl (ltb rfl) rfl rfl ?_
     refine AO.op rfl (AOp.pick rfl rfl (ltb rfl) rfl rfl rfl ?_)
     refine AO.op rfl (AOp.move rfl rfl (ltb rfl) rfl ?_)
     refine AO.guardN rfl rfl rfl (ltb rfl) rfl rfl ?_
     refine AO.guardN rfl rfl rfl (ltb rfl) rfl rfl ?_
     refine AO.guardN rfl rfl rfl (ltb rfl) rfl rfl ?_
     refine AO.guardN rfl rfl rfl (ltb rfl) rfl rfl ?_
     refine AO.op rfl (AOp.pick rfl rfl (ltb rfl) rfl rfl rfl ?_)
     refine AO.nil ?_
     exact ⟨true, _, rfl, (LeL.refl _), rfl, rfl, h1⟩
    replace h1 := cF h1 q29
    refine AO.guardY rfl rfl rfl q29 (AOp.fieldAddr rfl rfl (ltb rfl) rfl fo49_1 ?_)
    refine AO.guardY rfl rfl rfl q29 (AOp.load1 rfl rfl (ltb rfl) rfl agg3 rfl rfl ?_)
    refine AO.guardY rfl rfl rfl q29 (AOp.move rfl rfl (ltb rfl) rfl ?_)
    refine AO.guardY rfl rfl rfl q29 (AOp.ineq rfl rfl (ltb rfl) rfl rfl ?_)
    refine AO.op rfl (AOp.pickN rfl rfl (ltb rfl) rfl q29 rfl ?_)
    refine AO.op rfl (AOp.move rfl rfl (ltb rfl) rfl ?_)
    refine AO.dec (!decide (x12.Layout = a1)) (fun q30 => ?_) (fun q30 => ?_)
    ·replace h1 := cT h1 q30
     refine AO.guardN rfl rfl rfl (ltb rfl) rfl q30 ?_
     refine AO.guardN rfl rfl rfl (ltb rfl) rfl q30 ?_
     refine AO.guardN rfl rfl rfl (ltb rfl) rfl q30 ?_
     refine AO.op rfl (AOp.pick rfl rfl (ltb rfl) rfl q30 rfl ?_)
     refine AO.op rfl (AOp.move rfl rfl (ltb rfl) rfl ?_)
     refine AO.guardN rfl rfl rfl (ltb rfl) rfl rfl ?_
     refine AO.guardN rfl rfl rfl (ltb rfl) rfl rfl ?_
     refine AO.guardN rfl rfl rfl (ltb rfl) rfl rfl ?_
     refine AO.guardN rfl rfl rfl (ltb rfl) rfl rfl ?_
     refine AO.op rfl (AOp.pick rfl rfl (ltb rfl) rfl rfl rfl ?_)
     refine AO.nil ?_
     exact ⟨true, _, rfl, (LeL.refl _), rfl, rfl, h1⟩
    replace h1 := cF h1 q30
    refine AO.guardY rfl rfl rfl q30 (AOp.loadN rfl rfl (ltb rfl) rfl agg49 size49 rfl (leb rfl) rfl ?_)
    obtain ⟨y31, q32, h1⟩ := bind_elim h1
    refine AO.guardY rfl rfl rfl q30 (AOp.callD rfl rfl (ltb rfl) rfl rfl (w_Good F x12 y31 q32) ?_)
    rintro _ rfl
    refine AO.guardY rfl rfl rfl q30 (AOp.bnot rfl rfl (ltb rfl) rfl ?_)
    refine AO.op rfl (AOp.pickN rfl rfl (ltb rfl) rfl q30 rfl ?_)
    refine AO.op rfl (AOp.move rfl rfl (ltb rfl) rfl ?_)
    refine AO.dec (!y31) (fun q33 => ?_) (fun q33 => ?_)
    ·replace h1 := cT h1 q33
     refine AO.guardN rfl rfl rfl (ltb rfl) rfl q33 ?_
     refine AO.guardN rfl rfl rfl (ltb rfl) rfl q33 ?_
     refine AO.guardN rfl rfl rfl (ltb rfl) rfl q33 ?_
     refine AO.guardN rfl rfl rfl (ltb rfl) rfl q33 ?_
     refine AO.op rfl (AOp.pick rfl rfl (ltb rfl) rfl q33 rfl ?_)
     refine AO.nil ?_
     exact ⟨true, _, rfl, (LeL.refl _), rfl, rfl, h1⟩
    replace h1 := cF h1 q33
    refine AO.guardY rfl rfl rfl q33 (AOp.fieldAddr rfl rfl (ltb rfl) rfl fo49_3 ?_)
    refine AO.guardY rfl rfl rfl q33 (AOp.load1 rfl rfl (ltb rfl) rfl agg40 rfl rfl ?_)
    refine AO.guardY rfl rfl rfl q33 (AOp.lenDs (n := x12.Flat.length) (cells := (List.map keS1 x12.Flat)) rfl rfl (ltb rfl) rfl el40 (by decide) (len1 _ _) ?_)
    refine AO.guardY rfl rfl rfl q33 (AOp.ieql rfl rfl (ltb rfl) rfl rfl ?_)
    refine AO.op rfl (AOp.pickN rfl rfl (ltb rfl) rfl q33 rfl ?_)
    refine AO.nil ?_
    exact ⟨(decide (((x12.Flat.length : Nat) : Int) = (0 : Int))), _, rfl, (LeL.refl _), rfl, rfl, h1⟩
   intro g14 h1
   unfold p_kindred_k4 at h1
   refine AC.cond rfl (fun q15 => ?_) (fun q15 => ?_)
   ·replace h1 := cT h1 q15
    refine AC.seq ?_
    refine AC.region ?_
    refine AO.op rfl (AOp.assign rfl rfl (ltb rfl) rfl ?_)
    refine AO.op rfl (AOp.assign rfl rfl (ltb rfl) rfl ?_)
    refine AO.nil ?_
    change AC _ _ _ _
    refine AC.sub 6 rfl (SVLe.nil 1) ?_
    refine AC.ret ?_
    change RetQ _ _ _ .ret _
    obtain rfl := Option.some.inj h1
    replace h0 := aftR h0
    obtain rfl := Option.some.inj h0
    refine retq rfl rfl
   replace h1 := cF h1 q15
   refine AC.skip ?_
   change AC _ _ _ _
   refine AC.seq ?_
   refine AC.seq ?_
   refine AC.region ?_
   refine AO.op rfl (AOp.move rfl rfl (ltb rfl) rfl ?_)
   refine AO.op rfl (AOp.fieldAddr rfl rfl (ltb rfl) rfl fo49_3 ?_)
   refine AO.op rfl (AOp.load1 rfl rfl (ltb rfl) rfl agg40 rfl rfl ?_)
   obtain ⟨y16, q17, h1⟩ := bind_elim h1
   refine AO.op rfl (AOp.callD rfl rfl (ltb rfl) rfl rfl (w_flatTo F a1 x12.Flat (4634204016564240384 : Nat) (100 : Int) y16 q17) ?_)
   rintro _ rfl
   refine AO.op rfl (AOp.move rfl rfl (ltb rfl) rfl ?_)
   first | refine AO.op rfl (AOp.extractD rfl rfl (ltb rfl) rfl rfl ?_) | refine AO.op rfl (AOp.extract rfl rfl (ltb rfl) rfl rfl ?_)
   first | refine AO.op rfl (AOp.extractD rfl rfl (ltb rfl) rfl rfl ?_) | refine AO.op rfl (AOp.extract rfl rfl (ltb rfl) rfl rfl ?_)
   refine AO.op rfl (AOp.assign rfl rfl (ltb rfl) rfl ?_)
   refine AO.op rfl (AOp.assign rfl rfl (ltb rfl) rfl ?_)
   refine AO.nil ?_
   change AC _ _ _ _
   refine AC.seq ?_
   refine AC.region ?_
   refine AO.op rfl (AOp.move rfl rfl (ltb rfl) rfl ?_)
   refine AO.op rfl (AOp.bnot rfl rfl (ltb rfl) rfl ?_)
   refine AO.nil ?_
   change AC _ _ _ _
   refine AC.cond rfl (fun q18 => ?_) (fun q18 => ?_)
   ·replace h1 := cT h1 q18
    refine AC.seq ?_
    refine AC.region ?_
    refine AO.op rfl (AOp.assign rfl rfl (ltb rfl) rfl ?_)
    refine AO.op rfl (AOp.assign rfl rfl (ltb rfl) rfl ?_)
    refine AO.nil ?_
    change AC _ _ _ _
    refine AC.sub 6 rfl (SVLe.nil 1) ?_
    refine AC.ret ?_
    change RetQ _ _ _ .ret _
    obtain rfl := Option.some.inj h1
    replace h0 := aftR h0
    obtain rfl := Option.some.inj h0
    refine retq rfl rfl
   replace h1 := cF h1 q18
   refine AC.skip ?_
   change AC _ _ _ _
   refine AC.seq ?_
   refine AC.region ?_
   refine AO.op rfl (AOp.move rfl rfl (ltb rfl) rfl ?_)
   refine AO.op rfl (AOp.fieldAddr rfl rfl (ltb rfl) rfl fo49_3 ?_)
   refine AO.op rfl (AOp.load1 rfl rfl (ltb rfl) rfl agg40 rfl rfl ?_)
   refine AO.op rfl (AOp.lenDs (n := x12.Flat.length) (cells := (List.map keS1 x12.Flat)) rfl rfl (ltb rfl) rfl el40 (by decide) (len1 _ _) ?_)
   refine AO.op rfl (AOp.move rfl rfl (ltb rfl) rfl ?_)
   obtain ⟨q19, h1⟩ := need_elim h1
   refine AO.op rfl (AOp.iquo rfl rfl (ltb rfl) rfl rfl q19.1 rfl q19.2.1 q19.2.2 ?_)
   obtain ⟨q20, h1⟩ := need_elim h1
   refine AO.op rfl (AOp.iadd rfl rfl (ltb rfl) rfl rfl rfl q20.1 q20.2 ?_)
   refine AO.op rfl (AOp.assign rfl rfl (ltb rfl) rfl ?_)
   refine AO.nil ?_
   change AC _ _ _ _
   refine AC.seq ?_
   refine AC.region ?_
   refine AO.op rfl (AOp.fieldAddr rfl rfl (ltb rfl) rfl fo49_4 ?_)
   refine AO.op rfl (AOp.load1 rfl rfl (ltb rfl) rfl agg46 rfl rfl ?_)
   refine AO.op rfl (AOp.assign rfl rfl (ltb rfl) rfl ?_)
   refine AO.nil ?_
   change AC _ _ _ _
   refine AC.joinP (V := (List Int)) [0, 1, 6, 8, 9, 11, 28, 29, 30] [14] 2 (fun g21 => [(14, .d (eS2 g21))]) (fun g21 => [.grow 35 1 (List.map keS7 g8.2.2), .fix 49 [.d (di .i64 x12.Kind), .d (di .i64 x12.Layout), .d (di .i64 x12.SRID), .d (eS1 x12.Flat), .d (eS2 x12.Ends), .d (eS3 x12.Endss), .d (eS0 x12.Kids)]]) (fun g21 => (p_kindred_k5 F y3 g8 (iter (p_kindred_l3 a0 a1 a2 F y3) n10) x12) g21 = some o5) rfl ?_ ?_
   ·refine AC.seq ?_
    refine AC.region ?_
    refine AO.op rfl (AOp.move rfl rfl (ltb rfl) rfl ?_)
    refine AO.op rfl (AOp.ieql rfl rfl (ltb rfl) rfl rfl ?_)
    refine AO.op rfl (AOp.move rfl rfl (ltb rfl) rfl ?_)
    refine AO.dec (decide (a0 = (2 : Int))) (fun q26 => ?_) (fun q26 => ?_)
    ·replace h1 := cT h1 q26
     refine AO.guardN rfl rfl rfl (ltb rfl) rfl q26 ?_
     refine AO.guardN rfl rfl rfl (ltb rfl) rfl q26 ?_
     refine AO.op rfl (AOp.pick rfl rfl (ltb rfl) rfl q26 rfl ?_)
     refine AO.op rfl (AOp.move rfl rfl (ltb rfl) rfl ?_)
     refine AO.guardN rfl rfl rfl (ltb rfl) rfl rfl ?_
     refine AO.guardN rfl rfl rfl (ltb rfl) rfl rfl ?_
     refine AO.op rfl (AOp.pick rfl rfl (ltb rfl) rfl rfl rfl ?_)
     refine AO.nil ?_
     change AC _ _ _ _
     refine AC.condT rfl rfl ?_
     refine AC.region ?_
     refine AO.op rfl (AOp.fieldAddr rfl rfl (ltb rfl) rfl fo49_3 ?_)
     refine AO.op rfl (AOp.load1 rfl rfl (ltb rfl) rfl agg40 rfl rfl ?_)
     refine AO.op rfl (AOp.lenDs (n := x12.Flat.length) (cells := (List.map keS1 x12.Flat)) rfl rfl (ltb rfl) rfl el40 (by decide) (len1 _ _) ?_)
     refine AO.op rfl (AOp.buildSliceD rfl rfl (ltb rfl) el46 zero3 rfl (leb rfl) rfl rfl rfl rfl ?_)
     refine AO.op rfl (AOp.assign rfl rfl (ltb rfl) rfl ?_)
     refine AO.nil ?_
     exact ⟨[((x12.Flat.length : Nat) : Int)], _, rfl, (LeL.refl _), rfl, rfl, h1⟩
    replace h1 := cF h1 q26
    refine AO.guardY rfl rfl rfl q26 (AOp.move rfl rfl (ltb rfl) rfl ?_)
    refine AO.guardY rfl rfl rfl q26 (AOp.ieql rfl rfl (ltb rfl) rfl rfl ?_)
    refine AO.op rfl (AOp.pickN rfl rfl (ltb rfl) rfl q26 rfl ?_)
    refine AO.op rfl (AOp.move rfl rfl (ltb rfl) rfl ?_)
    refine AO.dec (decide (a0 = (8 : Int))) (fun q27 => ?_) (fun q27 => ?_)
    ·replace h1 := cT h1 q27
     refine AO.guardN rfl rfl rfl (ltb rfl) rfl q27 ?_
     refine AO.guardN rfl rfl rfl (ltb rfl) rfl q27 ?_
     refine AO.op rfl (AOp.pick rfl rfl (ltb rfl) rfl q27 rfl ?_)
     refine AO.nil ?_
     change AC _ _ _ _
     refine AC.condT rfl rfl ?_
     refine AC.region ?_
     refine AO.op rfl (AOp.fieldAddr rfl rfl (ltb rfl) rfl fo49_3 ?_)
     refine AO.op rfl (AOp.load1 rfl rfl (ltb rfl) rfl agg40 rfl rfl ?_)
     refine AO.op rfl (AOp.lenDs (n := x12.Flat.length) (cells := (List.map keS1 x12.Flat)) rfl rfl (ltb rfl) rfl el40 (by decide) (len1 _ _) ?_)
     refine AO.op rfl (AOp.buildSliceD rfl rfl (ltb rfl) el46 zero3 rfl (leb rfl) rfl rfl rfl rfl ?_)
     refine AO.op rfl (AOp.assign rfl rfl (ltb rfl) rfl ?_)
     refine AO.nil ?_
     exact ⟨[((x12.Flat.length : Nat) : Int)], _, rfl, (LeL.refl _), rfl, rfl, h1⟩
    replace h1 := cF h1 q27
    refine AO.guardY rfl rfl rfl q27 (AOp.move rfl rfl (ltb rfl) rfl ?_)
    refine AO.guardY rfl rfl rfl q27 (AOp.ieql rfl rfl (ltb rfl) rfl rfl ?_)
    refine AO.op rfl (AOp.pickN rfl rfl (ltb rfl) rfl q27 rfl ?_)
    refine AO.nil ?_
    change AC _ _ _ _
    refine AC.cond rfl (fun q28 => ?_) (fun q28 => ?_)
    ·replace h1 := cT h1 q28
     refine AC.region ?_
     refine AO.op rfl (AOp.fieldAddr rfl rfl (ltb rfl) rfl fo49_3 ?_)
     refine AO.op rfl (AOp.load1 rfl rfl (ltb rfl) rfl agg40 rfl rfl ?_)
     refine AO.op rfl (AOp.lenDs (n := x12.Flat.length) (cells := (List.map keS1 x12.Flat)) rfl rfl (ltb rfl) rfl el40 (by decide) (len1 _ _) ?_)
     refine AO.op rfl (AOp.buildSliceD rfl rfl (ltb rfl) el46 zero3 rfl (leb rfl) rfl rfl rfl rfl ?_)
     refine AO.op rfl (AOp.assign rfl rfl (ltb rfl) rfl ?_)
     refine AO.nil ?_
     exact ⟨[((x12.Flat.length : Nat) : Int)], _, rfl, (LeL.refl _), rfl, rfl, h1⟩
    replace h1 := cF h1 q28
    refine AC.skip ?_
    exact ⟨x12.Ends, _, rfl, (LeL.refl _), rfl, rfl, h1⟩
   intro g21 h1
   unfold p_kindred_k5 at h1
   refine AC.region ?_
   refine AO.op rfl (AOp.move rfl rfl (ltb rfl) rfl ?_)
   refine AO.op rfl (AOp.fieldAddr rfl rfl (ltb rfl) rfl fo49_3 ?_)
   refine AO.op rfl (AOp.load1 rfl rfl (ltb rfl) rfl agg40 rfl rfl ?_)
   refine AO.op rfl (AOp.move rfl rfl (ltb rfl) rfl ?_)
   refine AO.op rfl (AOp.move rfl rfl (ltb rfl) rfl ?_)
   obtain ⟨y22, q23, h1⟩ := bind_elim h1
   refine AO.op rfl (AOp.callD rfl rfl (ltb rfl) rfl rfl (w_Lines F x12.Flat g21 y3 y22 q23) ?_)
   rintro _ rfl
   obtain ⟨q24, h1⟩ := need_elim h1
   refine AO.op rfl (AOp.appendOwn' (p := 0) (n := g8.2.2.length) (m := y22.length) (news := (List.map keS7 y22)) rfl rfl (ltb rfl) rfl rfl el23 info35 rfl (by decide) rfl (len1 _ _) (len1 _ _) (one1 _ (fun _ => rfl) _) q24 (by decide) rfl rfl (cat1 _ _ _) ?_)
   refine AO.op rfl (AOp.assign rfl rfl (ltb rfl) rfl ?_)
   refine AO.nil ?_
   change AC _ _ _ _
   refine AC.region ?_
   obtain ⟨q25, h1⟩ := need_elim h1
   refine AO.op rfl (AOp.iadd rfl rfl (ltb rfl) rfl rfl rfl q25.1 q25.2 ?_)
   refine AO.op rfl (AOp.move rfl rfl (ltb rfl) rfl ?_)
   refine AO.nil ?_
   exact ⟨((g8.1 + (Int.tdiv ((x12.Flat.length : Nat) : Int) y3)), (g8.2.1 + (1 : Int)), (g8.2.2 ++ y22)), _, rfl, (LeL.refl _), rfl, rfl, h1⟩
  replace h1 := cF h1 q11
  refine AC.exit ?_
  obtain rfl := Option.some.inj h1
  exact ⟨(g8.1, g8.2.2), _, rfl, (LeL.refl _), rfl, rfl, aftL h0⟩
 intro g7 h0
 unfold p_kindred_k2 at h0
 change AC _ _ _ _
 refine AC.seq ?_
 refine AC.region ?_
 refine AO.op rfl (AOp.move rfl rfl (ltb rfl) rfl ?_)
 refine AO.op rfl (AOp.move rfl rfl (ltb rfl) rfl ?_)
 refine AO.op rfl (AOp.ileq rfl rfl (ltb rfl) rfl rfl ?_)
 refine AO.op rfl (AOp.assign rfl rfl (ltb rfl) rfl ?_)
 refine AO.op rfl (AOp.assign rfl rfl (ltb rfl) rfl ?_)
 refine AO.nil ?_
 change AC _ _ _ _
 refine AC.ret ?_
 change RetQ _ _ _ .ret _
 obtain rfl := Option.some.inj h0
 refine retq rfl rfl

set_option maxRecDepth 100000 in
set_option maxHeartbeats 4000000 in
/-- (pub-orthodrome/spec.Whole).Minus -/
theorem w_Whole_Minus (a0 : TSpec_Whole) (r0 : TSpec_Whole) (h0 : p_Whole_Minus a0 = some r0) : FnD Tryz.prog 71 [e_TSpec_Whole a0] (fun r => r = e_TSpec_Whole r0) := by
 refine FnD.of (by kernel_rfl) Tryz.func71 rfl Tryz.ntmps71 rfl (leb rfl) fun W ok => ?_
 unfold p_Whole_Minus at h0
 refine AC.seq ?_
 refine AC.region ?_
 refine AO.op rfl (AOp.box rfl rfl (ltb rfl) rfl rfl ?_)
 refine AO.op rfl (AOp.alloc rfl rfl (ltb rfl) zero28 rfl ?_)
 refine AO.nil ?_
 change AC _ _ _ _
 refine AC.seq ?_
 refine AC.region ?_
 refine AO.op rfl (AOp.fieldAddr rfl rfl (ltb rfl) rfl fo28_0 ?_)
 refine AO.op rfl (AOp.load1 rfl rfl (ltb rfl) rfl agg4 rfl rfl ?_)
 refine AO.op rfl (AOp.bnot rfl rfl (ltb rfl) rfl ?_)
 refine AO.op rfl (AOp.move rfl rfl (ltb rfl) rfl ?_)
 refine AO.dec (!a0.Neg) (fun q1 => ?_) (fun q1 => ?_)
 ·replace h0 := cT h0 q1
  refine AO.guardY rfl rfl rfl q1 (AOp.fieldAddr rfl rfl (ltb rfl) rfl fo28_1 ?_)
  refine AO.guardY rfl rfl rfl q1 (AOp.load1 rfl rfl (ltb rfl) rfl agg26 rfl rfl ?_)
  refine AO.guardY rfl rfl rfl q1 (AOp.lenDs (n := a0.L.length) (cells := (List.map keS4 a0.L)) rfl rfl (ltb rfl) rfl el26 (by decide) (len1 _ _) ?_)
  refine AO.guardY rfl rfl rfl q1 (AOp.igtr rfl rfl (ltb rfl) rfl rfl ?_)
  refine AO.op rfl (AOp.pick rfl rfl (ltb rfl) rfl q1 rfl ?_)
  refine AO.op rfl (AOp.fieldAddr rfl rfl (ltb rfl) rfl fo28_1 ?_)
  refine AO.op rfl (AOp.load1 rfl rfl (ltb rfl) rfl agg26 rfl rfl ?_)
  refine AO.op rfl (AOp.build rfl rfl (ltb rfl) zero28 rfl places28 rfl rfl ?_)
  refine AO.op rfl (AOp.store rfl rfl rfl rfl size28 rfl rfl rfl (leb rfl) ?_)
  refine AO.nil ?_
  change AC _ _ _ _
  refine AC.ret ?_
  change RetQ _ _ _ .ret _
  obtain rfl := Option.some.inj h0
  refine retq rfl rfl
 replace h0 := cF h0 q1
 refine AO.guardN rfl rfl rfl (ltb rfl) rfl q1 ?_
 refine AO.guardN rfl rfl rfl (ltb rfl) rfl q1 ?_
 refine AO.guardN rfl rfl rfl (ltb rfl) rfl q1 ?_
 refine AO.guardN rfl rfl rfl (ltb rfl) rfl q1 ?_
 refine AO.op rfl (AOp.pickN rfl rfl (ltb rfl) rfl q1 rfl ?_)
 refine AO.op rfl (AOp.fieldAddr rfl rfl (ltb rfl) rfl fo28_1 ?_)
 refine AO.op rfl (AOp.load1 rfl rfl (ltb rfl) rfl agg26 rfl rfl ?_)
 refine AO.op rfl (AOp.build rfl rfl (ltb rfl) zero28 rfl places28 rfl rfl ?_)
 refine AO.op rfl (AOp.store rfl rfl rfl rfl size28 rfl rfl rfl (leb rfl) ?_)
 refine AO.nil ?_
 change AC _ _ _ _
 refine AC.ret ?_
 change RetQ _ _ _ .ret _
 obtain rfl := Option.some.inj h0
 refine retq rfl rfl

set_option maxRecDepth 100000 in
set_option maxHeartbeats 4000000 in
/-- (pub-orthodrome/spec.Dyadic).Minus -/
theorem w_Dyadic_Minus (a0 : TSpec_Dyadic) (r0 : TSpec_Dyadic) (h0 : p_Dyadic_Minus a0 = some r0) : FnD Tryz.prog 31 [e_TSpec_Dyadic a0] (fun r => r = e_TSpec_Dyadic r0) := by
 refine FnD.of (by kernel_rfl) Tryz.func31 rfl Tryz.ntmps31 rfl (leb rfl) fun W ok => ?_
 unfold p_Dyadic_Minus at h0
 refine AC.seq ?_
 refine AC.region ?_
 refine AO.op rfl (AOp.box rfl rfl (ltb rfl) rfl rfl ?_)
 refine AO.op rfl (AOp.alloc rfl rfl (ltb rfl) zero30 rfl ?_)
 refine AO.nil ?_
 change AC _ _ _ _
 refine AC.seq ?_
 refine AC.draw 6 mixed (by kernel_rfl) ?_
 refine AD.op [1] rfl (by kernel_rfl) rfl rfl (fun _ _ h => AOp.fieldAddr rfl rfl (ltb rfl) rfl fo30_0 h) ?_
 refine AD.op [3] rfl (by kernel_rfl) rfl rfl (fun _ _ h => AOp.loadN rfl rfl (ltb rfl) rfl agg28 size28 rfl (leb rfl) rfl h) ?_
 obtain ⟨y1, q2, h0⟩ := bind_elim h0
 refine AD.op [4] rfl (by kernel_rfl) rfl rfl (fun _ _ h => AOp.callD rfl rfl (ltb rfl) rfl rfl (w_Whole_Minus a0.N y1 q2) (by rintro _ rfl; exact h)) ?_
 refine AD.op [1] rfl (by kernel_rfl) rfl rfl (fun _ _ h => AOp.fieldAddr rfl rfl (ltb rfl) rfl fo30_1 h) ?_
 refine AD.op [6] rfl (by kernel_rfl) rfl rfl (fun _ _ h => AOp.load1 rfl rfl (ltb rfl) rfl agg3 rfl rfl h) ?_
 refine AD.op [5, 7] rfl (by kernel_rfl) rfl rfl (fun _ _ h => AOp.build rfl rfl (ltb rfl) zero30 rfl places30 rfl rfl h) ?_
 refine AD.done ?_
 refine AO.op rfl (AOp.store rfl rfl rfl rfl size30 rfl rfl rfl (leb rfl) ?_)
 refine AO.nil ?_
 change AC _ _ _ _
 refine AC.ret ?_
 change RetQ _ _ _ .ret _
 obtain rfl := Option.some.inj h0
 refine retq rfl rfl

set_option maxRecDepth 100000 in
set_option maxHeartbeats 4000000 in
/-- (pub-orthodrome/spec.Whole).Sign -/
theorem w_Whole_Sign (a0 : TSpec_Whole) (r0 : Int) (h0 : p_Whole_Sign a0 = some r0) : FnD Tryz.prog 32 [e_TSpec_Whole a0] (fun r => r = di .i64 r0) := by
 refine FnD.of (by kernel_rfl) Tryz.func32 rfl Tryz.ntmps32 rfl (leb rfl) fun W ok => ?_
 unfold p_Whole_Sign at h0
 refine AC.seq ?_
 refine AC.region ?_
 refine AO.op rfl (AOp.box rfl rfl (ltb rfl) rfl rfl ?_)
 refine AO.op rfl (AOp.assign rfl rfl (ltb rfl) rfl ?_)
 refine AO.nil ?_
 change AC _ _ _ _
 refine AC.seq ?_
 refine AC.block ?_
 refine AC.seq ?_
 refine AC.region ?_
 refine AO.op rfl (AOp.fieldAddr rfl rfl (ltb rfl) rfl fo28_1 ?_)
 refine AO.op rfl (AOp.load1 rfl rfl (ltb rfl) rfl agg26 rfl rfl ?_)
 refine AO.op rfl (AOp.lenDs (n := a0.L.length) (cells := (List.map keS4 a0.L)) rfl rfl (ltb rfl) rfl el26 (by decide) (len1 _ _) ?_)
 refine AO.op rfl (AOp.ieql rfl rfl (ltb rfl) rfl rfl ?_)
 refine AO.op rfl (AOp.assign rfl rfl (ltb rfl) rfl ?_)
 refine AO.nil ?_
 change AC _ _ _ _
 refine AC.cond rfl (fun q1 => ?_) (fun q1 => ?_)
 ·replace h0 := cT h0 q1
  refine AC.seq ?_
  refine AC.region ?_
  refine AO.op rfl (AOp.assign rfl rfl (ltb rfl) rfl ?_)
  refine AO.nil ?_
  change AC _ _ _ _
  refine AC.ret ?_
  change RetQ _ _ _ .ret _
  obtain rfl := Option.some.inj h0
  refine retq rfl rfl
 replace h0 := cF h0 q1
 refine AC.seq ?_
 refine AC.region ?_
 refine AO.op rfl (AOp.fieldAddr rfl rfl (ltb rfl) rfl fo28_0 ?_)
 refine AO.op rfl (AOp.load1 rfl rfl (ltb rfl) rfl agg4 rfl rfl ?_)
 refine AO.op rfl (AOp.assign rfl rfl (ltb rfl) rfl ?_)
 refine AO.nil ?_
 change AC _ _ _ _
 refine AC.cond rfl (fun q2 => ?_) (fun q2 => ?_)
 ·replace h0 := cT h0 q2
  refine AC.seq ?_
  refine AC.region ?_
  refine AO.op rfl (AOp.assign rfl rfl (ltb rfl) rfl ?_)
  refine AO.nil ?_
  change AC _ _ _ _
  refine AC.ret ?_
  change RetQ _ _ _ .ret _
  obtain rfl := Option.some.inj h0
  refine retq rfl rfl
 replace h0 := cF h0 q2
 refine AC.skip ?_
 change AC _ _ _ _
 refine AC.seq ?_
 refine AC.region ?_
 refine AO.op rfl (AOp.assign rfl rfl (ltb rfl) rfl ?_)
 refine AO.nil ?_
 change AC _ _ _ _
 refine AC.ret ?_
 change RetQ _ _ _ .ret _
 obtain rfl := Option.some.inj h0
 refine retq rfl rfl

set_option maxRecDepth 100000 in
set_option maxHeartbeats 4000000 in
/-- (pub-orthodrome/spec.Dyadic).Sign -/
theorem w_Dyadic_Sign (a0 : TSpec_Dyadic) (r0 : Int) (h0 : p_Dyadic_Sign a0 = some r0) : FnD Tryz.prog 16 [e_TSpec_Dyadic a0] (fun r => r = di .i64 r0) := by
 refine FnD.of (by kernel_rfl) Tryz.func16 rfl Tryz.ntmps16 rfl (leb rfl) fun W ok => ?_
 unfold p_Dyadic_Sign at h0
 refine AC.seq ?_
 refine AC.region ?_
 refine AO.op rfl (AOp.box rfl rfl (ltb rfl) rfl rfl ?_)
 refine AO.op rfl (AOp.assign rfl rfl (ltb rfl) rfl ?_)
 refine AO.nil ?_
 change AC _ _ _ _
 refine AC.seq ?_
 refine AC.region ?_
 refine AO.op rfl (AOp.fieldAddr rfl rfl (ltb rfl) rfl fo30_0 ?_)
 refine AO.op rfl (AOp.loadN rfl rfl (ltb rfl) rfl agg28 size28 rfl (leb rfl) rfl ?_)
 obtain ⟨y1, q2, h0⟩ := bind_elim h0
 refine AO.op rfl (AOp.callD rfl rfl (ltb rfl) rfl rfl (w_Whole_Sign a0.N y1 q2) ?_)
 rintro _ rfl
 refine AO.op rfl (AOp.assign rfl rfl (ltb rfl) rfl ?_)
 refine AO.nil ?_
 change AC _ _ _ _
 refine AC.ret ?_
 change RetQ _ _ _ .ret _
 obtain rfl := Option.some.inj h0
 refine retq rfl rfl

set_option maxRecDepth 100000 in
set_option maxHeartbeats 4000000 in
/-- (pub-orthodrome/spec.Whole).Up -/
theorem w_Whole_Up (F : Nat) (a0 : TSpec_Whole) (a1 : Int) (r0 : TSpec_Whole) (h0 : p_Whole_Up F a0 a1 = some r0) : FnD Tryz.prog 33 [e_TSpec_Whole a0, di .i64 a1] (fun r => r = e_TSpec_Whole r0) := by
 refine FnD.of (by kernel_rfl) Tryz.func33 rfl Tryz.ntmps33 rfl (leb rfl) fun W ok => ?_
 unfold p_Whole_Up at h0
 refine AC.seq ?_
 refine AC.region ?_
 refine AO.op rfl (AOp.box rfl rfl (ltb rfl) rfl rfl ?_)
 refine AO.op rfl (AOp.alloc rfl rfl (ltb rfl) zero28 rfl ?_)
 refine AO.nil ?_
 change AC _ _ _ _
 refine AC.seq ?_
 refine AC.seq ?_
 refine AC.region ?_
 refine AO.op rfl (AOp.fieldAddr rfl rfl (ltb rfl) rfl fo28_1 ?_)
 refine AO.op rfl (AOp.load1 rfl rfl (ltb rfl) rfl agg26 rfl rfl ?_)
 refine AO.op rfl (AOp.lenDs (n := a0.L.length) (cells := (List.map keS4 a0.L)) rfl rfl (ltb rfl) rfl el26 (by decide) (len1 _ _) ?_)
 refine AO.op rfl (AOp.ieql rfl rfl (ltb rfl) rfl rfl ?_)
 refine AO.nil ?_
 change AC _ _ _ _
 refine AC.cond rfl (fun q1 => ?_) (fun q1 => ?_)
 ·replace h0 := cT h0 q1
  refine AC.seq ?_
  refine AC.region ?_
  refine AO.op rfl (AOp.loadN rfl rfl (ltb rfl) rfl agg28 size28 rfl (leb rfl) rfl ?_)
  refine AO.op rfl (AOp.store rfl rfl rfl rfl size28 rfl rfl rfl (leb rfl) ?_)
  refine AO.nil ?_
  change AC _ _ _ _
  refine AC.ret ?_
  change RetQ _ _ _ .ret _
  obtain rfl := Option.some.inj h0
  refine retq rfl rfl
 replace h0 := cF h0 q1
 refine AC.skip ?_
 change AC _ _ _ _
 refine AC.seq ?_
 refine AC.region ?_
 refine AO.op rfl (AOp.move rfl rfl (ltb rfl) rfl ?_)
 obtain ⟨q2, h0⟩ := need_elim h0
 refine AO.op rfl (AOp.iquo rfl rfl (ltb rfl) rfl rfl q2.1 rfl q2.2.1 q2.2.2 ?_)
 refine AO.op rfl (AOp.move rfl rfl (ltb rfl) rfl ?_)
 obtain ⟨q3, h0⟩ := need_elim h0
 refine AO.op rfl (AOp.iquo rfl rfl (ltb rfl) rfl rfl q3.1 rfl q3.2.1 q3.2.2 ?_)
 refine AO.op rfl (AOp.fieldAddr rfl rfl (ltb rfl) rfl fo28_1 ?_)
 refine AO.op rfl (AOp.load1 rfl rfl (ltb rfl) rfl agg26 rfl rfl ?_)
 refine AO.op rfl (AOp.lenDs (n := a0.L.length) (cells := (List.map keS4 a0.L)) rfl rfl (ltb rfl) rfl el26 (by decide) (len1 _ _) ?_)
 obtain ⟨q4, h0⟩ := need_elim h0
 refine AO.op rfl (AOp.iadd rfl rfl (ltb rfl) rfl rfl rfl q4.1 q4.2 ?_)
 obtain ⟨q5, h0⟩ := need_elim h0
 refine AO.op rfl (AOp.iadd rfl rfl (ltb rfl) rfl rfl rfl q5.1 q5.2 ?_)
 obtain ⟨q6, h0⟩ := need_elim h0
 refine AO.op rfl (AOp.makeOwnN (f := keS4) (z0 := (0 : Int)) rfl rfl (ltb rfl) rfl rfl el26 info134 rfl rfl (by decide) q6 rfl ?_)
 refine AO.op rfl (AOp.assign rfl rfl (ltb rfl) rfl ?_)
 refine AO.nil ?_
 change AC _ _ _ _
 refine AC.seq ?_
 refine AC.region ?_
 refine AO.op rfl (AOp.assign rfl rfl (ltb rfl) rfl ?_)
 refine AO.nil ?_
 change AC _ _ _ _
 refine AC.seq ?_
 refine AC.seq ?_
 refine AC.region ?_
 refine AO.op rfl (AOp.fieldAddr rfl rfl (ltb rfl) rfl fo28_1 ?_)
 refine AO.op rfl (AOp.load1 rfl rfl (ltb rfl) rfl agg26 rfl rfl ?_)
 refine AO.op rfl (AOp.lenDs (n := a0.L.length) (cells := (List.map keS4 a0.L)) rfl rfl (ltb rfl) rfl el26 (by decide) (len1 _ _) ?_)
 refine AO.op rfl (AOp.move rfl rfl (ltb rfl) rfl ?_)
 refine AO.nil ?_
 change AC _ _ _ _
 obtain ⟨o7, l8, h0⟩ := bind_elim h0
 refine AC.joinE (V := (Int × (List Int))) [2, 4] [5, 6] 3 (fun g9 => [(5, .own 2), (6, .d (di .u32 g9.1))]) (fun g9 => [.fix 28 [.d (dbool a0.Neg), .d (eS4 a0.L)], .fix 28 [.d (dbool false), .d (.v (.slice none 0 0))], .grow 134 1 (List.map keS4 g9.2)]) (fun g9 => (p_Whole_Up_k1 a0 F) g9 = some r0) rfl ?_ ?_
 ·refine AC.block ?_
  refine AC.loopP (V := (Int × Int × (List Int))) (p_Whole_Up_l2 a0 a1) o7 [1, 2, 4, 26, 27] [5, 6, 28] 3 (fun g13 => [(5, .own 2), (6, .d (di .u32 g13.1)), (28, .d (di .i64 g13.2.1))]) (fun g13 => [.fix 28 [.d (dbool a0.Neg), .d (eS4 a0.L)], .fix 28 [.d (dbool false), .d (.v (.slice none 0 0))], .grow 134 1 (List.map keS4 g13.2.2)]) F ((0 : Int), (0 : Int), (List.replicate ((Int.tdiv a1 (32 : Int))).toNat (0 : Int))) l8 rfl rfl (LeL.refl _) rfl rfl ?_
  intro n15 g13 h1
  unfold p_Whole_Up_l2 at h1
  refine AC.seq ?_
  refine AC.region ?_
  refine AO.op rfl (AOp.ilss rfl rfl (ltb rfl) rfl rfl ?_)
  refine AO.nil ?_
  change AC _ _ _ _
  refine AC.seq ?_
  refine AC.cond rfl (fun q16 => ?_) (fun q16 => ?_)
  ·replace h1 := cT h1 q16
   refine AC.skip ?_
   change AC _ _ _ _
   refine AC.seq ?_
   refine AC.block ?_
   refine AC.seq ?_
   refine AC.region ?_
   obtain ⟨x17, q18, h1⟩ := idx_elim h1
   refine AO.op rfl (AOp.indexDs (cells := (List.map keS4 a0.L)) rfl rfl (ltb rfl) rfl rfl el26 (by decide) q18.1 (lt1 q18.2) ?_)
   refine AO.op rfl (AOp.loadEp rfl rfl (ltb rfl) rfl agg134 (at1 q18.2) ?_)
   refine AO.op rfl (AOp.assign rfl rfl (ltb rfl) rfl ?_)
   refine AO.nil ?_
   change AC _ _ _ _
   refine AC.seq ?_
   refine AC.region ?_
   refine AO.op rfl (AOp.move rfl rfl (ltb rfl) rfl ?_)
   refine AO.op rfl (AOp.i2i rfl rfl (ltb rfl) rfl Tryz.underlying134 Tryz.underlying135 rfl ?_)
   refine AO.op rfl (AOp.move rfl rfl (ltb rfl) rfl ?_)
   obtain ⟨q19, h1⟩ := need_elim h1
   refine AO.op rfl (AOp.irem rfl rfl (ltb rfl) rfl rfl q19 rfl ?_)
   obtain ⟨q20, h1⟩ := need_elim h1
   refine AO.op rfl (AOp.ishl' rfl rfl (ltb rfl) rfl rfl q20 ?_)
   refine AO.op rfl (AOp.assign rfl rfl (ltb rfl) rfl ?_)
   refine AO.nil ?_
   change AC _ _ _ _
   refine AC.seq ?_
   refine AC.region ?_
   refine AO.op rfl (AOp.move rfl rfl (ltb rfl) rfl ?_)
   refine AO.op rfl (AOp.move rfl rfl (ltb rfl) rfl ?_)
   refine AO.op rfl (AOp.i2i rfl rfl (ltb rfl) rfl Tryz.underlying135 Tryz.underlying134 rfl ?_)
   refine AO.op rfl (AOp.move rfl rfl (ltb rfl) rfl ?_)
   refine AO.op rfl (AOp.ibits (by simp) rfl rfl (ltb rfl) rfl rfl rfl ?_)
   refine AO.op rfl (AOp.buildSliceD rfl rfl (ltb rfl) el26 zero134 rfl (leb rfl) rfl rfl rfl rfl ?_)
   obtain ⟨q21, h1⟩ := need_elim h1
   refine AO.op rfl (AOp.appendOwn' (p := 2) (n := g13.2.2.length) (m := [(bits .or .u32 (IntKind.u32.wrap (IntKind.u64.wrap ((IntKind.u64.wrap x17) * 2 ^ ((Int.tmod a1 (32 : Int))).toNat))) g13.1)].length) (news := (List.map keS4 [(bits .or .u32 (IntKind.u32.wrap (IntKind.u64.wrap ((IntKind.u64.wrap x17) * 2 ^ ((Int.tmod a1 (32 : Int))).toNat))) g13.1)])) rfl rfl (ltb rfl) rfl rfl el26 info134 rfl (by decide) rfl (len1 _ _) (len1 _ _) (one1 _ (fun _ => rfl) _) q21 (by decide) rfl rfl (cat1 _ _ _) ?_)
   refine AO.op rfl (AOp.assign rfl rfl (ltb rfl) rfl ?_)
   refine AO.nil ?_
   change AC _ _ _ _
   refine AC.region ?_
   refine AO.op rfl (AOp.move rfl rfl (ltb rfl) rfl ?_)
   obtain ⟨q22, h1⟩ := need_elim h1
   refine AO.op rfl (AOp.ishr (n := 32) rfl rfl (ltb rfl) rfl rfl (by decide) q22 rfl ?_)
   refine AO.op rfl (AOp.i2i rfl rfl (ltb rfl) rfl Tryz.underlying135 Tryz.underlying134 rfl ?_)
   refine AO.op rfl (AOp.assign rfl rfl (ltb rfl) rfl ?_)
   refine AO.nil ?_
   change AC _ _ _ _
   refine AC.region ?_
   obtain ⟨q23, h1⟩ := need_elim h1
   refine AO.op rfl (AOp.iadd rfl rfl (ltb rfl) rfl rfl rfl q23.1 q23.2 ?_)
   refine AO.op rfl (AOp.move rfl rfl (ltb rfl) rfl ?_)
   refine AO.nil ?_
   exact ⟨((IntKind.u32.wrap ((IntKind.u64.wrap ((IntKind.u64.wrap x17) * 2 ^ ((Int.tmod a1 (32 : Int))).toNat)) / 2 ^ 32)), (g13.2.1 + (1 : Int)), (g13.2.2 ++ [(bits .or .u32 (IntKind.u32.wrap (IntKind.u64.wrap ((IntKind.u64.wrap x17) * 2 ^ ((Int.tmod a1 (32 : Int))).toNat))) g13.1)])), _, rfl, (LeL.refl _), rfl, rfl, h1⟩
  replace h1 := cF h1 q16
  refine AC.exit ?_
  obtain rfl := Option.some.inj h1
  exact ⟨(g13.1, g13.2.2), _, rfl, (LeL.refl _), rfl, rfl, aftL h0⟩
 intro g9 h0
 unfold p_Whole_Up_k1 at h0
 change AC _ _ _ _
 refine AC.seq ?_
 obtain ⟨q10, h0⟩ := need_elim h0
 obtain ⟨y11, q12, h0⟩ := bind_elim h0
 refine AC.drawS [0, 1, 2, 3, 4, 5, 6] [5, 6] [7, 8] (fun L => [.fix 28 [.d (dbool a0.Neg), .d (eS4 a0.L)], .fix 28 [.d (dbool false), .d (.v (.slice none 0 0))], bif L 6 then .dead else bif L 5 then .grow 134 1 (List.map keS4 (g9.2 ++ [g9.1])) else .grow 134 1 (List.map keS4 g9.2)]) [(5, SV.noO 2), (6, SV.noO 2)] mixed (by kernel_rfl) (fun L L' h => by simp only [h 5 (by decide), h 6 (by decide)]) rfl ?_
 refine AS.op [2] [] [] [5, 6] rfl rfl rfl (by kernel_rfl) (by kernel_rfl) rfl rfl (fun _ _ _ h => AOp.fieldAddr rfl rfl (ltb rfl) rfl fo28_0 h) (by kernel_rfl) ?_
 refine AS.op [48] [] [] [5, 6] rfl rfl rfl (by kernel_rfl) (by kernel_rfl) rfl rfl (fun _ _ _ h => AOp.load1 rfl rfl (ltb rfl) rfl agg4 rfl rfl h) (by kernel_rfl) ?_
 refine AS.op [5] [] [5, 6] [] rfl rfl rfl (by kernel_rfl) (by kernel_rfl) rfl rfl (fun _ _ _ h => AOp.move rfl rfl (ltb rfl) rfl h) (by kernel_rfl) ?_
 refine AS.op [6] [] [5, 6] [] rfl rfl rfl (by kernel_rfl) (by kernel_rfl) rfl rfl (fun _ _ _ h => AOp.move rfl rfl (ltb rfl) rfl h) (by kernel_rfl) ?_
 refine AS.op [51] [] [5, 6] [] rfl rfl rfl (by kernel_rfl) (by kernel_rfl) rfl rfl (fun _ _ _ h => AOp.buildSliceD rfl rfl (ltb rfl) el26 zero134 rfl (leb rfl) rfl rfl rfl rfl h) (by kernel_rfl) ?_
 refine AS.mid [50, 52] [] [6, 5] [] rfl rfl rfl rfl (by kernel_rfl) (by kernel_rfl) rfl rfl (fun _ _ _ h => AOp.appendOwn' (p := 2) (n := g9.2.length) (m := [g9.1].length) (news := (List.map keS4 [g9.1])) rfl rfl (ltb rfl) rfl rfl el26 info134 rfl (by decide) rfl (len1 _ _) (len1 _ _) (one1 _ (fun _ => rfl) _) q10 (by decide) (allNo (.cons rfl (.cons rfl (.cons rfl .nil)))) rfl (cat1 _ _ _) (AO.dropped h)) (by kernel_rfl) rfl ?_
 refine AS.mid [53] [5] [6] [] rfl rfl rfl rfl (by kernel_rfl) (by kernel_rfl) rfl rfl (fun _ _ _ h => AOp.freezeDrop 53 2 rfl rfl rfl (AOp.callD rfl rfl (ltb rfl) rfl rfl (w_trim F (g9.2 ++ [g9.1]) y11 q12) (by rintro _ rfl; exact AO.forget1 (.inr trivial) h (.inl (dropped_none rfl rfl))))) (by kernel_rfl) rfl ?_
 refine AS.done ?_
 refine AO.objs (obs' := [.fix 28 [.d (dbool a0.Neg), .d (eS4 a0.L)], .fix 28 [.d (dbool false), .d (.v (.slice none 0 0))], .dead]) rfl ?_
 refine AO.op rfl (AOp.build rfl rfl (ltb rfl) zero28 rfl places28 rfl rfl ?_)
 refine AO.op rfl (AOp.store rfl rfl rfl rfl size28 rfl rfl rfl (leb rfl) ?_)
 refine AO.nil ?_
 change AC _ _ _ _
 refine AC.ret ?_
 change RetQ _ _ _ .ret _
 obtain rfl := Option.some.inj h0
 refine retq rfl rfl

set_option maxRecDepth 100000 in
set_option maxHeartbeats 4000000 in
/-- pub-orthodrome/spec.addLimbs -/
theorem w_addLimbs (F : Nat) (a0 : (List Int)) (a1 : (List Int)) (r0 : (List Int)) (h0 : p_addLimbs F a0 a1 = some r0) : FnD Tryz.prog 73 [eS4 a0, eS4 a1] (fun r => r = eS4 r0) := by
 refine FnD.of (by kernel_rfl) Tryz.func73 rfl Tryz.ntmps73 rfl (leb rfl) fun W ok => ?_
 unfold p_addLimbs at h0
 refine AC.seq ?_
 refine AC.region ?_
 refine AO.op rfl (AOp.assign rfl rfl (ltb rfl) rfl ?_)
 refine AO.nil ?_
 change AC _ _ _ _
 refine AC.joinP (V := ((List Int) × (List Int))) [] [0, 1] 0 (fun g1 => [(0, .d (eS4 g1.1)), (1, .d (eS4 g1.2))]) (fun g1 => []) (fun g1 => (p_addLimbs_k1 F) g1 = some r0) rfl ?_ ?_
 ·refine AC.seq ?_
  refine AC.region ?_
  refine AO.op rfl (AOp.move rfl rfl (ltb rfl) rfl ?_)
  refine AO.op rfl (AOp.lenDs (n := a0.length) (cells := (List.map keS4 a0)) rfl rfl (ltb rfl) rfl el26 (by decide) (len1 _ _) ?_)
  refine AO.op rfl (AOp.move rfl rfl (ltb rfl) rfl ?_)
  refine AO.op rfl (AOp.lenDs (n := a1.length) (cells := (List.map keS4 a1)) rfl rfl (ltb rfl) rfl el26 (by decide) (len1 _ _) ?_)
  refine AO.op rfl (AOp.ilss rfl rfl (ltb rfl) rfl rfl ?_)
  refine AO.nil ?_
  change AC _ _ _ _
  refine AC.cond rfl (fun q25 => ?_) (fun q25 => ?_)
  ·replace h0 := cT h0 q25
   refine AC.region ?_
   refine AO.op rfl (AOp.move rfl rfl (ltb rfl) rfl ?_)
   refine AO.op rfl (AOp.move rfl rfl (ltb rfl) rfl ?_)
   refine AO.op rfl (AOp.assign rfl rfl (ltb rfl) rfl ?_)
   refine AO.op rfl (AOp.assign rfl rfl (ltb rfl) rfl ?_)
   refine AO.nil ?_
   exact ⟨(a1, a0), _, rfl, (LeL.refl _), rfl, rfl, h0⟩
  replace h0 := cF h0 q25
  refine AC.skip ?_
  exact ⟨(a0, a1), _, rfl, (LeL.refl _), rfl, rfl, h0⟩
 intro g1 h0
 unfold p_addLimbs_k1 at h0
 refine AC.seq ?_
 refine AC.region ?_
 refine AO.op rfl (AOp.move rfl rfl (ltb rfl) rfl ?_)
 refine AO.op rfl (AOp.lenDs (n := g1.1.length) (cells := (List.map keS4 g1.1)) rfl rfl (ltb rfl) rfl el26 (by decide) (len1 _ _) ?_)
 obtain ⟨q2, h0⟩ := need_elim h0
 refine AO.op rfl (AOp.iadd rfl rfl (ltb rfl) rfl rfl rfl q2.1 q2.2 ?_)
 obtain ⟨q3, h0⟩ := need_elim h0
 refine AO.op rfl (AOp.makeOwn0 rfl rfl (ltb rfl) rfl rfl el26 info134 (by decide) q3 ?_)
 refine AO.op rfl (AOp.assign rfl rfl (ltb rfl) rfl ?_)
 refine AO.nil ?_
 change AC _ _ _ _
 refine AC.seq ?_
 refine AC.region ?_
 refine AO.op rfl (AOp.assign rfl rfl (ltb rfl) rfl ?_)
 refine AO.nil ?_
 change AC _ _ _ _
 refine AC.seq ?_
 refine AC.seq ?_
 refine AC.region ?_
 refine AO.op rfl (AOp.move rfl rfl (ltb rfl) rfl ?_)
 refine AO.op rfl (AOp.lenDs (n := g1.1.length) (cells := (List.map keS4 g1.1)) rfl rfl (ltb rfl) rfl el26 (by decide) (len1 _ _) ?_)
 refine AO.op rfl (AOp.move rfl rfl (ltb rfl) rfl ?_)
 refine AO.nil ?_
 change AC _ _ _ _
 obtain ⟨o4, l5, h0⟩ := bind_elim h0
 refine AC.joinE (V := (Int × (List Int))) [] [5, 6] 1 (fun g6 => [(5, .own 0), (6, .d (di .u64 g6.1))]) (fun g6 => [.grow 134 1 (List.map keS4 g6.2)]) (fun g6 => (p_addLimbs_k2 F) g6 = some r0) rfl ?_ ?_
 ·refine AC.block ?_
  refine AC.loopP (V := (Int × Int × (List Int))) (p_addLimbs_l3 g1) o4 [1, 21, 22] [5, 6, 23] 1 (fun g10 => [(5, .own 0), (6, .d (di .u64 g10.1)), (23, .d (di .i64 g10.2.1))]) (fun g10 => [.grow 134 1 (List.map keS4 g10.2.2)]) F ((0 : Int), (0 : Int), []) l5 rfl rfl (LeL.refl _) rfl rfl ?_
  intro n12 g10 h1
  unfold p_addLimbs_l3 at h1
  refine AC.seq ?_
  refine AC.region ?_
  refine AO.op rfl (AOp.ilss rfl rfl (ltb rfl) rfl rfl ?_)
  refine AO.nil ?_
  change AC _ _ _ _
  refine AC.seq ?_
  refine AC.cond rfl (fun q13 => ?_) (fun q13 => ?_)
  ·replace h1 := cT h1 q13
   refine AC.skip ?_
   change AC _ _ _ _
   refine AC.seq ?_
   refine AC.block ?_
   refine AC.seq ?_
   refine AC.region ?_
   refine AO.op rfl (AOp.move rfl rfl (ltb rfl) rfl ?_)
   obtain ⟨x14, q15, h1⟩ := idx_elim h1
   refine AO.op rfl (AOp.indexDs (cells := (List.map keS4 g1.1)) rfl rfl (ltb rfl) rfl rfl el26 (by decide) q15.1 (lt1 q15.2) ?_)
   refine AO.op rfl (AOp.loadEp rfl rfl (ltb rfl) rfl agg134 (at1 q15.2) ?_)
   refine AO.op rfl (AOp.assign rfl rfl (ltb rfl) rfl ?_)
   refine AO.op rfl (AOp.assign rfl rfl (ltb rfl) rfl ?_)
   refine AO.nil ?_
   change AC _ _ _ _
   refine AC.seq ?_
   refine AC.region ?_
   refine AO.op rfl (AOp.move rfl rfl (ltb rfl) rfl ?_)
   refine AO.op rfl (AOp.i2i rfl rfl (ltb rfl) rfl Tryz.underlying134 Tryz.underlying135 rfl ?_)
   refine AO.op rfl (AOp.move rfl rfl (ltb rfl) rfl ?_)
   obtain ⟨q16, h1⟩ := need_elim h1
   refine AO.op rfl (AOp.iadd rfl rfl (ltb rfl) rfl rfl rfl q16.1 q16.2 ?_)
   refine AO.op rfl (AOp.assign rfl rfl (ltb rfl) rfl ?_)
   refine AO.nil ?_
   change AC _ _ _ _
   refine AC.joinP (V := Int) [1, 5, 21, 22, 23] [9] 1 (fun g17 => [(9, .d (di .u64 g17))]) (fun g17 => [.grow 134 1 (List.map keS4 g10.2.2)]) (fun g17 => (p_addLimbs_k4 g10 (iter (p_addLimbs_l3 g1) n12)) g17 = some o4) rfl ?_ ?_
   ·refine AC.seq ?_
    refine AC.region ?_
    refine AO.op rfl (AOp.move rfl rfl (ltb rfl) rfl ?_)
    refine AO.op rfl (AOp.move rfl rfl (ltb rfl) rfl ?_)
    refine AO.op rfl (AOp.lenDs (n := g1.2.length) (cells := (List.map keS4 g1.2)) rfl rfl (ltb rfl) rfl el26 (by decide) (len1 _ _) ?_)
    refine AO.op rfl (AOp.ilss rfl rfl (ltb rfl) rfl rfl ?_)
    refine AO.nil ?_
    change AC _ _ _ _
    refine AC.cond rfl (fun q21 => ?_) (fun q21 => ?_)
    ·replace h1 := cT h1 q21
     refine AC.region ?_
     refine AO.op rfl (AOp.move rfl rfl (ltb rfl) rfl ?_)
     refine AO.op rfl (AOp.move rfl rfl (ltb rfl) rfl ?_)
     refine AO.op rfl (AOp.move rfl rfl (ltb rfl) rfl ?_)
     obtain ⟨x22, q23, h1⟩ := idx_elim h1
     refine AO.op rfl (AOp.indexDs (cells := (List.map keS4 g1.2)) rfl rfl (ltb rfl) rfl rfl el26 (by decide) q23.1 (lt1 q23.2) ?_)
     refine AO.op rfl (AOp.loadEp rfl rfl (ltb rfl) rfl agg134 (at1 q23.2) ?_)
     refine AO.op rfl (AOp.i2i rfl rfl (ltb rfl) rfl Tryz.underlying134 Tryz.underlying135 rfl ?_)
     obtain ⟨q24, h1⟩ := need_elim h1
     refine AO.op rfl (AOp.iadd rfl rfl (ltb rfl) rfl rfl rfl q24.1 q24.2 ?_)
     refine AO.op rfl (AOp.assign rfl rfl (ltb rfl) rfl ?_)
     refine AO.nil ?_
     exact ⟨(((IntKind.u64.wrap x14) + g10.1) + (IntKind.u64.wrap x22)), _, rfl, (LeL.refl _), rfl, rfl, h1⟩
    replace h1 := cF h1 q21
    refine AC.skip ?_
    exact ⟨((IntKind.u64.wrap x14) + g10.1), _, rfl, (LeL.refl _), rfl, rfl, h1⟩
   intro g17 h1
   unfold p_addLimbs_k4 at h1
   refine AC.seq ?_
   refine AC.region ?_
   refine AO.op rfl (AOp.move rfl rfl (ltb rfl) rfl ?_)
   refine AO.op rfl (AOp.move rfl rfl (ltb rfl) rfl ?_)
   refine AO.op rfl (AOp.i2i rfl rfl (ltb rfl) rfl Tryz.underlying135 Tryz.underlying134 rfl ?_)
   refine AO.op rfl (AOp.buildSliceD rfl rfl (ltb rfl) el26 zero134 rfl (leb rfl) rfl rfl rfl rfl ?_)
   obtain ⟨q18, h1⟩ := need_elim h1
   refine AO.op rfl (AOp.appendOwn' (p := 0) (n := g10.2.2.length) (m := [(IntKind.u32.wrap g17)].length) (news := (List.map keS4 [(IntKind.u32.wrap g17)])) rfl rfl (ltb rfl) rfl rfl el26 info134 rfl (by decide) rfl (len1 _ _) (len1 _ _) (one1 _ (fun _ => rfl) _) q18 (by decide) rfl rfl (cat1 _ _ _) ?_)
   refine AO.op rfl (AOp.assign rfl rfl (ltb rfl) rfl ?_)
   refine AO.nil ?_
   change AC _ _ _ _
   refine AC.region ?_
   refine AO.op rfl (AOp.move rfl rfl (ltb rfl) rfl ?_)
   obtain ⟨q19, h1⟩ := need_elim h1
   refine AO.op rfl (AOp.ishr (n := 32) rfl rfl (ltb rfl) rfl rfl (by decide) q19 rfl ?_)
   refine AO.op rfl (AOp.assign rfl rfl (ltb rfl) rfl ?_)
   refine AO.nil ?_
   change AC _ _ _ _
   refine AC.region ?_
   obtain ⟨q20, h1⟩ := need_elim h1
   refine AO.op rfl (AOp.iadd rfl rfl (ltb rfl) rfl rfl rfl q20.1 q20.2 ?_)
   refine AO.op rfl (AOp.move rfl rfl (ltb rfl) rfl ?_)
   refine AO.nil ?_
   exact ⟨((g17 / 2 ^ 32), (g10.2.1 + (1 : Int)), (g10.2.2 ++ [(IntKind.u32.wrap g17)])), _, rfl, (LeL.refl _), rfl, rfl, h1⟩
  replace h1 := cF h1 q13
  refine AC.exit ?_
  obtain rfl := Option.some.inj h1
  exact ⟨(g10.1, g10.2.2), _, rfl, (LeL.refl _), rfl, rfl, aftL h0⟩
 intro g6 h0
 unfold p_addLimbs_k2 at h0
 change AC _ _ _ _
 refine AC.seq ?_
 refine AC.region ?_
 refine AO.op rfl (AOp.move rfl rfl (ltb rfl) rfl ?_)
 refine AO.op rfl (AOp.move rfl rfl (ltb rfl) rfl ?_)
 refine AO.op rfl (AOp.i2i rfl rfl (ltb rfl) rfl Tryz.underlying135 Tryz.underlying134 rfl ?_)
 refine AO.op rfl (AOp.buildSliceD rfl rfl (ltb rfl) el26 zero134 rfl (leb rfl) rfl rfl rfl rfl ?_)
 obtain ⟨q7, h0⟩ := need_elim h0
 refine AO.op rfl (AOp.appendOwn' (p := 0) (n := g6.2.length) (m := [(IntKind.u32.wrap g6.1)].length) (news := (List.map keS4 [(IntKind.u32.wrap g6.1)])) rfl rfl (ltb rfl) rfl rfl el26 info134 rfl (by decide) rfl (len1 _ _) (len1 _ _) (one1 _ (fun _ => rfl) _) q7 (by decide) rfl rfl (cat1 _ _ _) ?_)
 refine AO.freezeG 0 rfl rfl rfl ?_
 obtain ⟨y8, q9, h0⟩ := bind_elim h0
 refine AO.op rfl (AOp.callD rfl rfl (ltb rfl) rfl rfl (w_trim F (g6.2 ++ [(IntKind.u32.wrap g6.1)]) y8 q9) ?_)
 rintro _ rfl
 refine AO.op rfl (AOp.assign rfl rfl (ltb rfl) rfl ?_)
 refine AO.nil ?_
 change AC _ _ _ _
 refine AC.ret ?_
 change RetQ _ _ _ .ret _
 obtain rfl := Option.some.inj h0
 refine retq rfl rfl

set_option maxRecDepth 100000 in
set_option maxHeartbeats 4000000 in
/-- pub-orthodrome/spec.cmpLimbs -/
theorem w_cmpLimbs (F : Nat) (a0 : (List Int)) (a1 : (List Int)) (r0 : Int) (h0 : p_cmpLimbs F a0 a1 = some r0) : FnD Tryz.prog 74 [eS4 a0, eS4 a1] (fun r => r = di .i64 r0) := by
 refine FnD.of (by kernel_rfl) Tryz.func74 rfl Tryz.ntmps74 rfl (leb rfl) fun W ok => ?_
 unfold p_cmpLimbs at h0
 refine AC.seq ?_
 refine AC.region ?_
 refine AO.op rfl (AOp.assign rfl rfl (ltb rfl) rfl ?_)
 refine AO.nil ?_
 change AC _ _ _ _
 refine AC.seq ?_
 refine AC.seq ?_
 refine AC.region ?_
 refine AO.op rfl (AOp.move rfl rfl (ltb rfl) rfl ?_)
 refine AO.op rfl (AOp.lenDs (n := a0.length) (cells := (List.map keS4 a0)) rfl rfl (ltb rfl) rfl el26 (by decide) (len1 _ _) ?_)
 refine AO.op rfl (AOp.move rfl rfl (ltb rfl) rfl ?_)
 refine AO.op rfl (AOp.lenDs (n := a1.length) (cells := (List.map keS4 a1)) rfl rfl (ltb rfl) rfl el26 (by decide) (len1 _ _) ?_)
 refine AO.op rfl (AOp.ineq rfl rfl (ltb rfl) rfl rfl ?_)
 refine AO.nil ?_
 change AC _ _ _ _
 refine AC.cond rfl (fun q1 => ?_) (fun q1 => ?_)
 ·replace h0 := cT h0 q1
  refine AC.seq ?_
  refine AC.seq ?_
  refine AC.region ?_
  refine AO.op rfl (AOp.move rfl rfl (ltb rfl) rfl ?_)
  refine AO.op rfl (AOp.lenDs (n := a0.length) (cells := (List.map keS4 a0)) rfl rfl (ltb rfl) rfl el26 (by decide) (len1 _ _) ?_)
  refine AO.op rfl (AOp.move rfl rfl (ltb rfl) rfl ?_)
  refine AO.op rfl (AOp.lenDs (n := a1.length) (cells := (List.map keS4 a1)) rfl rfl (ltb rfl) rfl el26 (by decide) (len1 _ _) ?_)
  refine AO.op rfl (AOp.ilss rfl rfl (ltb rfl) rfl rfl ?_)
  refine AO.nil ?_
  change AC _ _ _ _
  refine AC.cond rfl (fun q2 => ?_) (fun q2 => ?_)
  ·replace h0 := cT h0 q2
   refine AC.seq ?_
   refine AC.region ?_
   refine AO.op rfl (AOp.assign rfl rfl (ltb rfl) rfl ?_)
   refine AO.nil ?_
   change AC _ _ _ _
   refine AC.ret ?_
   change RetQ _ _ _ .ret _
   obtain rfl := Option.some.inj h0
   refine retq rfl rfl
  replace h0 := cF h0 q2
  refine AC.skip ?_
  change AC _ _ _ _
  refine AC.seq ?_
  refine AC.region ?_
  refine AO.op rfl (AOp.assign rfl rfl (ltb rfl) rfl ?_)
  refine AO.nil ?_
  change AC _ _ _ _
  refine AC.ret ?_
  change RetQ _ _ _ .ret _
  obtain rfl := Option.some.inj h0
  refine retq rfl rfl
 replace h0 := cF h0 q1
 refine AC.skip ?_
 change AC _ _ _ _
 refine AC.seq ?_
 refine AC.seq ?_
 refine AC.region ?_
 refine AO.op rfl (AOp.move rfl rfl (ltb rfl) rfl ?_)
 refine AO.op rfl (AOp.lenDs (n := a0.length) (cells := (List.map keS4 a0)) rfl rfl (ltb rfl) rfl el26 (by decide) (len1 _ _) ?_)
 obtain ⟨q3, h0⟩ := need_elim h0
 refine AO.op rfl (AOp.isub rfl rfl (ltb rfl) rfl rfl rfl q3.1 q3.2 ?_)
 refine AO.op rfl (AOp.assign rfl rfl (ltb rfl) rfl ?_)
 refine AO.nil ?_
 change AC _ _ _ _
 obtain ⟨o4, l5, h0⟩ := bind_elim h0
 refine AC.joinE (V := Unit) [] [] 0 (fun g6 => []) (fun g6 => []) (fun g6 => p_cmpLimbs_k1 g6 = some r0) rfl ?_ ?_
 ·refine AC.block ?_
  refine AC.loopP (V := Int) (p_cmpLimbs_l2 a0 a1) o4 [0, 1] [5] 0 (fun g7 => [(5, .d (di .i64 g7))]) (fun g7 => []) F (((a0.length : Nat) : Int) - (1 : Int)) l5 rfl rfl (LeL.refl _) rfl rfl ?_
  intro n9 g7 h1
  unfold p_cmpLimbs_l2 at h1
  refine AC.seq ?_
  refine AC.seq ?_
  refine AC.region ?_
  refine AO.op rfl (AOp.move rfl rfl (ltb rfl) rfl ?_)
  refine AO.op rfl (AOp.igeq rfl rfl (ltb rfl) rfl rfl ?_)
  refine AO.nil ?_
  change AC _ _ _ _
  refine AC.cond rfl (fun q10 => ?_) (fun q10 => ?_)
  ·replace h1 := cT h1 q10
   refine AC.skip ?_
   change AC _ _ _ _
   refine AC.seq ?_
   refine AC.block ?_
   refine AC.seq ?_
   refine AC.draw 9 mixed (by kernel_rfl) ?_
   refine AD.op [0] rfl (by kernel_rfl) rfl rfl (fun _ _ h => AOp.move rfl rfl (ltb rfl) rfl h) ?_
   refine AD.op [5] rfl (by kernel_rfl) rfl rfl (fun _ _ h => AOp.move rfl rfl (ltb rfl) rfl h) ?_
   obtain ⟨x11, q12, h1⟩ := idx_elim h1
   refine AD.op [23, 24] rfl (by kernel_rfl) rfl rfl (fun _ _ h => AOp.indexDs (cells := (List.map keS4 a0)) rfl rfl (ltb rfl) rfl rfl el26 (by decide) q12.1 (lt1 q12.2) h) ?_
   refine AD.op [25] rfl (by kernel_rfl) rfl rfl (fun _ _ h => AOp.loadEp rfl rfl (ltb rfl) rfl agg134 (at1 q12.2) h) ?_
   refine AD.op [1] rfl (by kernel_rfl) rfl rfl (fun _ _ h => AOp.move rfl rfl (ltb rfl) rfl h) ?_
   refine AD.op [5] rfl (by kernel_rfl) rfl rfl (fun _ _ h => AOp.move rfl rfl (ltb rfl) rfl h) ?_
   obtain ⟨x13, q14, h1⟩ := idx_elim h1
   refine AD.op [27, 28] rfl (by kernel_rfl) rfl rfl (fun _ _ h => AOp.indexDs (cells := (List.map keS4 a1)) rfl rfl (ltb rfl) rfl rfl el26 (by decide) q14.1 (lt1 q14.2) h) ?_
   refine AD.op [29] rfl (by kernel_rfl) rfl rfl (fun _ _ h => AOp.loadEp rfl rfl (ltb rfl) rfl agg134 (at1 q14.2) h) ?_
   refine AD.op [26, 30] rfl (by kernel_rfl) rfl rfl (fun _ _ h => AOp.ineq rfl rfl (ltb rfl) rfl rfl h) ?_
   refine AD.done ?_
   refine AO.nil ?_
   change AC _ _ _ _
   refine AC.cond rfl (fun q15 => ?_) (fun q15 => ?_)
   ·replace h1 := cT h1 q15
    refine AC.seq ?_
    refine AC.seq ?_
    refine AC.draw 9 mixed (by kernel_rfl) ?_
    refine AD.op [0] rfl (by kernel_rfl) rfl rfl (fun _ _ h => AOp.move rfl rfl (ltb rfl) rfl h) ?_
    refine AD.op [5] rfl (by kernel_rfl) rfl rfl (fun _ _ h => AOp.move rfl rfl (ltb rfl) rfl h) ?_
    obtain ⟨x16, q17, h1⟩ := idx_elim h1
    refine AD.op [32, 33] rfl (by kernel_rfl) rfl rfl (fun _ _ h => AOp.indexDs (cells := (List.map keS4 a0)) rfl rfl (ltb rfl) rfl rfl el26 (by decide) q17.1 (lt1 q17.2) h) ?_
    refine AD.op [34] rfl (by kernel_rfl) rfl rfl (fun _ _ h => AOp.loadEp rfl rfl (ltb rfl) rfl agg134 (at1 q17.2) h) ?_
    refine AD.op [1] rfl (by kernel_rfl) rfl rfl (fun _ _ h => AOp.move rfl rfl (ltb rfl) rfl h) ?_
    refine AD.op [5] rfl (by kernel_rfl) rfl rfl (fun _ _ h => AOp.move rfl rfl (ltb rfl) rfl h) ?_
    obtain ⟨x18, q19, h1⟩ := idx_elim h1
    refine AD.op [36, 37] rfl (by kernel_rfl) rfl rfl (fun _ _ h => AOp.indexDs (cells := (List.map keS4 a1)) rfl rfl (ltb rfl) rfl rfl el26 (by decide) q19.1 (lt1 q19.2) h) ?_
    refine AD.op [38] rfl (by kernel_rfl) rfl rfl (fun _ _ h => AOp.loadEp rfl rfl (ltb rfl) rfl agg134 (at1 q19.2) h) ?_
    refine AD.op [35, 39] rfl (by kernel_rfl) rfl rfl (fun _ _ h => AOp.ilss rfl rfl (ltb rfl) rfl rfl h) ?_
    refine AD.done ?_
    refine AO.nil ?_
    change AC _ _ _ _
    refine AC.cond rfl (fun q20 => ?_) (fun q20 => ?_)
    ·replace h1 := cT h1 q20
     refine AC.seq ?_
     refine AC.region ?_
     refine AO.op rfl (AOp.assign rfl rfl (ltb rfl) rfl ?_)
     refine AO.nil ?_
     change AC _ _ _ _
     refine AC.ret ?_
     change RetQ _ _ _ .ret _
     obtain rfl := Option.some.inj h1
     replace h0 := aftR h0
     obtain rfl := Option.some.inj h0
     refine retq rfl rfl
    replace h1 := cF h1 q20
    refine AC.skip ?_
    change AC _ _ _ _
    refine AC.seq ?_
    refine AC.region ?_
    refine AO.op rfl (AOp.assign rfl rfl (ltb rfl) rfl ?_)
    refine AO.nil ?_
    change AC _ _ _ _
    refine AC.ret ?_
    change RetQ _ _ _ .ret _
    obtain rfl := Option.some.inj h1
    replace h0 := aftR h0
    obtain rfl := Option.some.inj h0
    refine retq rfl rfl
   replace h1 := cF h1 q15
   refine AC.skip ?_
   change AC _ _ _ _
   refine AC.region ?_
   refine AO.op rfl (AOp.move rfl rfl (ltb rfl) rfl ?_)
   obtain ⟨q21, h1⟩ := need_elim h1
   refine AO.op rfl (AOp.isub rfl rfl (ltb rfl) rfl rfl rfl q21.1 q21.2 ?_)
   refine AO.op rfl (AOp.assign rfl rfl (ltb rfl) rfl ?_)
   refine AO.nil ?_
   exact ⟨(g7 - (1 : Int)), _, rfl, (LeL.refl _), rfl, rfl, h1⟩
  replace h1 := cF h1 q10
  refine AC.exit ?_
  obtain rfl := Option.some.inj h1
  exact ⟨(), _, rfl, (LeL.refl _), rfl, rfl, aftL h0⟩
 intro g6 h0
 unfold p_cmpLimbs_k1 at h0
 change AC _ _ _ _
 refine AC.seq ?_
 refine AC.region ?_
 refine AO.op rfl (AOp.assign rfl rfl (ltb rfl) rfl ?_)
 refine AO.nil ?_
 change AC _ _ _ _
 refine AC.ret ?_
 change RetQ _ _ _ .ret _
 obtain rfl := Option.some.inj h0
 refine retq rfl rfl

set_option maxRecDepth 100000 in
set_option maxHeartbeats 4000000 in
/-- pub-orthodrome/spec.subLimbs -/
theorem w_subLimbs (F : Nat) (a0 : (List Int)) (a1 : (List Int)) (r0 : (List Int)) (h0 : p_subLimbs F a0 a1 = some r0) : FnD Tryz.prog 75 [eS4 a0, eS4 a1] (fun r => r = eS4 r0) := by
 refine FnD.of (by kernel_rfl) Tryz.func75 rfl Tryz.ntmps75 rfl (leb rfl) fun W ok => ?_
 unfold p_subLimbs at h0
 refine AC.seq ?_
 refine AC.region ?_
 refine AO.op rfl (AOp.assign rfl rfl (ltb rfl) rfl ?_)
 refine AO.nil ?_
 change AC _ _ _ _
 refine AC.seq ?_
 refine AC.region ?_
 refine AO.op rfl (AOp.move rfl rfl (ltb rfl) rfl ?_)
 refine AO.op rfl (AOp.lenDs (n := a0.length) (cells := (List.map keS4 a0)) rfl rfl (ltb rfl) rfl el26 (by decide) (len1 _ _) ?_)
 obtain ⟨q1, h0⟩ := need_elim h0
 refine AO.op rfl (AOp.makeOwn0 rfl rfl (ltb rfl) rfl rfl el26 info134 (by decide) q1 ?_)
 refine AO.op rfl (AOp.assign rfl rfl (ltb rfl) rfl ?_)
 refine AO.nil ?_
 change AC _ _ _ _
 refine AC.seq ?_
 refine AC.region ?_
 refine AO.op rfl (AOp.assign rfl rfl (ltb rfl) rfl ?_)
 refine AO.nil ?_
 change AC _ _ _ _
 refine AC.seq ?_
 refine AC.seq ?_
 refine AC.region ?_
 refine AO.op rfl (AOp.move rfl rfl (ltb rfl) rfl ?_)
 refine AO.op rfl (AOp.lenDs (n := a0.length) (cells := (List.map keS4 a0)) rfl rfl (ltb rfl) rfl el26 (by decide) (len1 _ _) ?_)
 refine AO.op rfl (AOp.move rfl rfl (ltb rfl) rfl ?_)
 refine AO.nil ?_
 change AC _ _ _ _
 obtain ⟨o2, l3, h0⟩ := bind_elim h0
 refine AC.joinE (V := (List Int)) [] [5] 1 (fun g4 => [(5, .own 0)]) (fun g4 => [.grow 134 1 (List.map keS4 g4)]) (fun g4 => (p_subLimbs_k1 F) g4 = some r0) rfl ?_ ?_
 ·refine AC.block ?_
  refine AC.loopP (V := (Int × Int × (List Int))) (p_subLimbs_l2 a0 a1) o2 [1, 13, 14] [5, 6, 15] 1 (fun g7 => [(5, .own 0), (6, .d (di .u64 g7.1)), (15, .d (di .i64 g7.2.1))]) (fun g7 => [.grow 134 1 (List.map keS4 g7.2.2)]) F ((0 : Int), (0 : Int), []) l3 rfl rfl (LeL.refl _) rfl rfl ?_
  intro n9 g7 h1
  unfold p_subLimbs_l2 at h1
  refine AC.seq ?_
  refine AC.region ?_
  refine AO.op rfl (AOp.ilss rfl rfl (ltb rfl) rfl rfl ?_)
  refine AO.nil ?_
  change AC _ _ _ _
  refine AC.seq ?_
  refine AC.cond rfl (fun q10 => ?_) (fun q10 => ?_)
  ·replace h1 := cT h1 q10
   refine AC.skip ?_
   change AC _ _ _ _
   refine AC.seq ?_
   refine AC.block ?_
   refine AC.seq ?_
   refine AC.region ?_
   refine AO.op rfl (AOp.move rfl rfl (ltb rfl) rfl ?_)
   obtain ⟨x11, q12, h1⟩ := idx_elim h1
   refine AO.op rfl (AOp.indexDs (cells := (List.map keS4 a0)) rfl rfl (ltb rfl) rfl rfl el26 (by decide) q12.1 (lt1 q12.2) ?_)
   refine AO.op rfl (AOp.loadEp rfl rfl (ltb rfl) rfl agg134 (at1 q12.2) ?_)
   refine AO.op rfl (AOp.assign rfl rfl (ltb rfl) rfl ?_)
   refine AO.op rfl (AOp.assign rfl rfl (ltb rfl) rfl ?_)
   refine AO.nil ?_
   change AC _ _ _ _
   refine AC.seq ?_
   refine AC.region ?_
   refine AO.op rfl (AOp.move rfl rfl (ltb rfl) rfl ?_)
   refine AO.op rfl (AOp.assign rfl rfl (ltb rfl) rfl ?_)
   refine AO.nil ?_
   change AC _ _ _ _
   refine AC.joinP (V := Int) [1, 5, 8, 13, 14, 15] [9] 1 (fun g13 => [(9, .d (di .u64 g13))]) (fun g13 => [.grow 134 1 (List.map keS4 g7.2.2)]) (fun g13 => (p_subLimbs_k3 g7 (iter (p_subLimbs_l2 a0 a1) n9) x11) g13 = some o2) rfl ?_ ?_
   ·refine AC.seq ?_
    refine AC.region ?_
    refine AO.op rfl (AOp.move rfl rfl (ltb rfl) rfl ?_)
    refine AO.op rfl (AOp.move rfl rfl (ltb rfl) rfl ?_)
    refine AO.op rfl (AOp.lenDs (n := a1.length) (cells := (List.map keS4 a1)) rfl rfl (ltb rfl) rfl el26 (by decide) (len1 _ _) ?_)
    refine AO.op rfl (AOp.ilss rfl rfl (ltb rfl) rfl rfl ?_)
    refine AO.nil ?_
    change AC _ _ _ _
    refine AC.cond rfl (fun q20 => ?_) (fun q20 => ?_)
    ·replace h1 := cT h1 q20
     refine AC.region ?_
     refine AO.op rfl (AOp.move rfl rfl (ltb rfl) rfl ?_)
     refine AO.op rfl (AOp.move rfl rfl (ltb rfl) rfl ?_)
     refine AO.op rfl (AOp.move rfl rfl (ltb rfl) rfl ?_)
     obtain ⟨x21, q22, h1⟩ := idx_elim h1
     refine AO.op rfl (AOp.indexDs (cells := (List.map keS4 a1)) rfl rfl (ltb rfl) rfl rfl el26 (by decide) q22.1 (lt1 q22.2) ?_)
     refine AO.op rfl (AOp.loadEp rfl rfl (ltb rfl) rfl agg134 (at1 q22.2) ?_)
     refine AO.op rfl (AOp.i2i rfl rfl (ltb rfl) rfl Tryz.underlying134 Tryz.underlying135 rfl ?_)
     obtain ⟨q23, h1⟩ := need_elim h1
     refine AO.op rfl (AOp.iadd rfl rfl (ltb rfl) rfl rfl rfl q23.1 q23.2 ?_)
     refine AO.op rfl (AOp.assign rfl rfl (ltb rfl) rfl ?_)
     refine AO.nil ?_
     exact ⟨(g7.1 + (IntKind.u64.wrap x21)), _, rfl, (LeL.refl _), rfl, rfl, h1⟩
    replace h1 := cF h1 q20
    refine AC.skip ?_
    exact ⟨g7.1, _, rfl, (LeL.refl _), rfl, rfl, h1⟩
   intro g13 h1
   unfold p_subLimbs_k3 at h1
   refine AC.seq ?_
   refine AC.region ?_
   refine AO.op rfl (AOp.assign rfl rfl (ltb rfl) rfl ?_)
   refine AO.nil ?_
   change AC _ _ _ _
   refine AC.joinP (V := Int) [1, 5, 8, 9, 13, 14, 15] [6] 1 (fun g14 => [(6, .d (di .u64 g14))]) (fun g14 => [.grow 134 1 (List.map keS4 g7.2.2)]) (fun g14 => (p_subLimbs_k4 g7 (iter (p_subLimbs_l2 a0 a1) n9) x11 g13) g14 = some o2) rfl ?_ ?_
   ·refine AC.seq ?_
    refine AC.region ?_
    refine AO.op rfl (AOp.move rfl rfl (ltb rfl) rfl ?_)
    refine AO.op rfl (AOp.i2i rfl rfl (ltb rfl) rfl Tryz.underlying134 Tryz.underlying135 rfl ?_)
    refine AO.op rfl (AOp.move rfl rfl (ltb rfl) rfl ?_)
    refine AO.op rfl (AOp.ilss rfl rfl (ltb rfl) rfl rfl ?_)
    refine AO.nil ?_
    change AC _ _ _ _
    refine AC.cond rfl (fun q19 => ?_) (fun q19 => ?_)
    ·replace h1 := cT h1 q19
     refine AC.region ?_
     refine AO.op rfl (AOp.assign rfl rfl (ltb rfl) rfl ?_)
     refine AO.nil ?_
     exact ⟨(1 : Int), _, rfl, (LeL.refl _), rfl, rfl, h1⟩
    replace h1 := cF h1 q19
    refine AC.skip ?_
    exact ⟨(0 : Int), _, rfl, (LeL.refl _), rfl, rfl, h1⟩
   intro g14 h1
   unfold p_subLimbs_k4 at h1
   refine AC.region ?_
   refine AO.op rfl (AOp.move rfl rfl (ltb rfl) rfl ?_)
   refine AO.op rfl (AOp.move rfl rfl (ltb rfl) rfl ?_)
   refine AO.op rfl (AOp.i2i rfl rfl (ltb rfl) rfl Tryz.underlying134 Tryz.underlying135 rfl ?_)
   refine AO.op rfl (AOp.move rfl rfl (ltb rfl) rfl ?_)
   refine AO.op rfl (AOp.ishl (n := 32) rfl rfl (ltb rfl) rfl rfl (by decide) rfl ?_)
   obtain ⟨q15, h1⟩ := need_elim h1
   refine AO.op rfl (AOp.iadd rfl rfl (ltb rfl) rfl rfl rfl q15.1 q15.2 ?_)
   refine AO.op rfl (AOp.move rfl rfl (ltb rfl) rfl ?_)
   obtain ⟨q16, h1⟩ := need_elim h1
   refine AO.op rfl (AOp.isub rfl rfl (ltb rfl) rfl rfl rfl q16.1 q16.2 ?_)
   refine AO.op rfl (AOp.i2i rfl rfl (ltb rfl) rfl Tryz.underlying135 Tryz.underlying134 rfl ?_)
   refine AO.op rfl (AOp.buildSliceD rfl rfl (ltb rfl) el26 zero134 rfl (leb rfl) rfl rfl rfl rfl ?_)
   obtain ⟨q17, h1⟩ := need_elim h1
   refine AO.op rfl (AOp.appendOwn' (p := 0) (n := g7.2.2.length) (m := [(IntKind.u32.wrap (((IntKind.u64.wrap x11) + (IntKind.u64.wrap (g14 * 2 ^ 32))) - g13))].length) (news := (List.map keS4 [(IntKind.u32.wrap (((IntKind.u64.wrap x11) + (IntKind.u64.wrap (g14 * 2 ^ 32))) - g13))])) rfl rfl (ltb rfl) rfl rfl el26 info134 rfl (by decide) rfl (len1 _ _) (len1 _ _) (one1 _ (fun _ => rfl) _) q17 (by decide) rfl rfl (cat1 _ _ _) ?_)
   refine AO.op rfl (AOp.assign rfl rfl (ltb rfl) rfl ?_)
   refine AO.nil ?_
   change AC _ _ _ _
   refine AC.region ?_
   obtain ⟨q18, h1⟩ := need_elim h1
   refine AO.op rfl (AOp.iadd rfl rfl (ltb rfl) rfl rfl rfl q18.1 q18.2 ?_)
   refine AO.op rfl (AOp.move rfl rfl (ltb rfl) rfl ?_)
   refine AO.nil ?_
   exact ⟨(g14, (g7.2.1 + (1 : Int)), (g7.2.2 ++ [(IntKind.u32.wrap (((IntKind.u64.wrap x11) + (IntKind.u64.wrap (g14 * 2 ^ 32))) - g13))])), _, rfl, (LeL.refl _), rfl, rfl, h1⟩
  replace h1 := cF h1 q10
  refine AC.exit ?_
  obtain rfl := Option.some.inj h1
  exact ⟨g7.2.2, _, rfl, (LeL.refl _), rfl, rfl, aftL h0⟩
 intro g4 h0
 unfold p_subLimbs_k1 at h0
 change AC _ _ _ _
 refine AC.seq ?_
 refine AC.region ?_
 refine AO.op rfl (AOp.move rfl rfl (ltb rfl) rfl ?_)
 refine AO.freezeG 0 rfl rfl rfl ?_
 obtain ⟨y5, q6, h0⟩ := bind_elim h0
 refine AO.op rfl (AOp.callD rfl rfl (ltb rfl) rfl rfl (w_trim F g4 y5 q6) ?_)
 rintro _ rfl
 refine AO.op rfl (AOp.assign rfl rfl (ltb rfl) rfl ?_)
 refine AO.nil ?_
 change AC _ _ _ _
 refine AC.ret ?_
 change RetQ _ _ _ .ret _
 obtain rfl := Option.some.inj h0
 refine retq rfl rfl

set_option maxRecDepth 100000 in
set_option maxHeartbeats 4000000 in
/-- (pub-orthodrome/spec.Whole).Add -/
theorem w_Whole_Add (F : Nat) (a0 : TSpec_Whole) (a1 : TSpec_Whole) (r0 : TSpec_Whole) (h0 : p_Whole_Add F a0 a1 = some r0) : FnD Tryz.prog 34 [e_TSpec_Whole a0, e_TSpec_Whole a1] (fun r => r = e_TSpec_Whole r0) := by
 refine FnD.of (by kernel_rfl) Tryz.func34 rfl Tryz.ntmps34 rfl (leb rfl) fun W ok => ?_
 unfold p_Whole_Add at h0
 refine AC.seq ?_
 refine AC.region ?_
 refine AO.op rfl (AOp.box rfl rfl (ltb rfl) rfl rfl ?_)
 refine AO.op rfl (AOp.box rfl rfl (ltb rfl) rfl rfl ?_)
 refine AO.op rfl (AOp.alloc rfl rfl (ltb rfl) zero28 rfl ?_)
 refine AO.nil ?_
 change AC _ _ _ _
 refine AC.seq ?_
 refine AC.seq ?_
 refine AC.region ?_
 refine AO.op rfl (AOp.fieldAddr rfl rfl (ltb rfl) rfl fo28_0 ?_)
 refine AO.op rfl (AOp.load1 rfl rfl (ltb rfl) rfl agg4 rfl rfl ?_)
 refine AO.op rfl (AOp.fieldAddr rfl rfl (ltb rfl) rfl fo28_0 ?_)
 refine AO.op rfl (AOp.load1 rfl rfl (ltb rfl) rfl agg4 rfl rfl ?_)
 refine AO.op rfl (AOp.beql Tryz.underlying4 rfl rfl (ltb rfl) rfl rfl ?_)
 refine AO.nil ?_
 change AC _ _ _ _
 refine AC.cond rfl (fun q1 => ?_) (fun q1 => ?_)
 ·replace h0 := cT h0 q1
  refine AC.seq ?_
  refine AC.draw 8 mixed (by kernel_rfl) ?_
  refine AD.op [2] rfl (by kernel_rfl) rfl rfl (fun _ _ h => AOp.fieldAddr rfl rfl (ltb rfl) rfl fo28_0 h) ?_
  refine AD.op [10] rfl (by kernel_rfl) rfl rfl (fun _ _ h => AOp.load1 rfl rfl (ltb rfl) rfl agg4 rfl rfl h) ?_
  refine AD.op [2] rfl (by kernel_rfl) rfl rfl (fun _ _ h => AOp.fieldAddr rfl rfl (ltb rfl) rfl fo28_1 h) ?_
  refine AD.op [12] rfl (by kernel_rfl) rfl rfl (fun _ _ h => AOp.load1 rfl rfl (ltb rfl) rfl agg26 rfl rfl h) ?_
  refine AD.op [3] rfl (by kernel_rfl) rfl rfl (fun _ _ h => AOp.fieldAddr rfl rfl (ltb rfl) rfl fo28_1 h) ?_
  refine AD.op [14] rfl (by kernel_rfl) rfl rfl (fun _ _ h => AOp.load1 rfl rfl (ltb rfl) rfl agg26 rfl rfl h) ?_
  obtain ⟨y2, q3, h0⟩ := bind_elim h0
  refine AD.op [13, 15] rfl (by kernel_rfl) rfl rfl (fun _ _ h => AOp.callD rfl rfl (ltb rfl) rfl rfl (w_addLimbs F a0.L a1.L y2 q3) (by rintro _ rfl; exact h)) ?_
  refine AD.op [11, 16] rfl (by kernel_rfl) rfl rfl (fun _ _ h => AOp.build rfl rfl (ltb rfl) zero28 rfl places28 rfl rfl h) ?_
  refine AD.done ?_
  refine AO.op rfl (AOp.store rfl rfl rfl rfl size28 rfl rfl rfl (leb rfl) ?_)
  refine AO.nil ?_
  change AC _ _ _ _
  refine AC.ret ?_
  change RetQ _ _ _ .ret _
  obtain rfl := Option.some.inj h0
  refine retq rfl rfl
 replace h0 := cF h0 q1
 refine AC.skip ?_
 change AC _ _ _ _
 refine AC.seq ?_
 refine AC.seq ?_
 refine AC.region ?_
 refine AO.op rfl (AOp.fieldAddr rfl rfl (ltb rfl) rfl fo28_1 ?_)
 refine AO.op rfl (AOp.load1 rfl rfl (ltb rfl) rfl agg26 rfl rfl ?_)
 refine AO.op rfl (AOp.fieldAddr rfl rfl (ltb rfl) rfl fo28_1 ?_)
 refine AO.op rfl (AOp.load1 rfl rfl (ltb rfl) rfl agg26 rfl rfl ?_)
 obtain ⟨y4, q5, h0⟩ := bind_elim h0
 refine AO.op rfl (AOp.callD rfl rfl (ltb rfl) rfl rfl (w_cmpLimbs F a0.L a1.L y4 q5) ?_)
 rintro _ rfl
 refine AO.nil ?_
 change AC _ _ _ _
 refine AC.block ?_
 refine AC.seq ?_
 refine AC.region ?_
 refine AO.op rfl (AOp.ieql rfl rfl (ltb rfl) rfl rfl ?_)
 refine AO.op rfl (AOp.assign rfl rfl (ltb rfl) rfl ?_)
 refine AO.nil ?_
 change AC _ _ _ _
 refine AC.cond rfl (fun q6 => ?_) (fun q6 => ?_)
 ·replace h0 := cT h0 q6
  refine AC.seq ?_
  refine AC.region ?_
  refine AO.op rfl (AOp.build rfl rfl (ltb rfl) zero28 rfl places28 rfl rfl ?_)
  refine AO.op rfl (AOp.store rfl rfl rfl rfl size28 rfl rfl rfl (leb rfl) ?_)
  refine AO.nil ?_
  change AC _ _ _ _
  refine AC.subO 2 rfl (.cons (SVLe.refl _) (.cons (SVLe.nil 1) .nil)) ?_
  refine AC.ret ?_
  change RetQ _ _ _ .ret _
  obtain rfl := Option.some.inj h0
  refine retq rfl rfl
 replace h0 := cF h0 q6
 refine AC.seq ?_
 refine AC.region ?_
 refine AO.op rfl (AOp.ieql rfl rfl (ltb rfl) rfl rfl ?_)
 refine AO.op rfl (AOp.assign rfl rfl (ltb rfl) rfl ?_)
 refine AO.nil ?_
 change AC _ _ _ _
 refine AC.cond rfl (fun q7 => ?_) (fun q7 => ?_)
 ·replace h0 := cT h0 q7
  refine AC.seq ?_
  refine AC.draw 8 mixed (by kernel_rfl) ?_
  refine AD.op [2] rfl (by kernel_rfl) rfl rfl (fun _ _ h => AOp.fieldAddr rfl rfl (ltb rfl) rfl fo28_0 h) ?_
  refine AD.op [28] rfl (by kernel_rfl) rfl rfl (fun _ _ h => AOp.load1 rfl rfl (ltb rfl) rfl agg4 rfl rfl h) ?_
  refine AD.op [2] rfl (by kernel_rfl) rfl rfl (fun _ _ h => AOp.fieldAddr rfl rfl (ltb rfl) rfl fo28_1 h) ?_
  refine AD.op [30] rfl (by kernel_rfl) rfl rfl (fun _ _ h => AOp.load1 rfl rfl (ltb rfl) rfl agg26 rfl rfl h) ?_
  refine AD.op [3] rfl (by kernel_rfl) rfl rfl (fun _ _ h => AOp.fieldAddr rfl rfl (ltb rfl) rfl fo28_1 h) ?_
  refine AD.op [32] rfl (by kernel_rfl) rfl rfl (fun _ _ h => AOp.load1 rfl rfl (ltb rfl) rfl agg26 rfl rfl h) ?_
  obtain ⟨y8, q9, h0⟩ := bind_elim h0
  refine AD.op [31, 33] rfl (by kernel_rfl) rfl rfl (fun _ _ h => AOp.callD rfl rfl (ltb rfl) rfl rfl (w_subLimbs F a0.L a1.L y8 q9) (by rintro _ rfl; exact h)) ?_
  refine AD.op [29, 34] rfl (by kernel_rfl) rfl rfl (fun _ _ h => AOp.build rfl rfl (ltb rfl) zero28 rfl places28 rfl rfl h) ?_
  refine AD.done ?_
  refine AO.op rfl (AOp.store rfl rfl rfl rfl size28 rfl rfl rfl (leb rfl) ?_)
  refine AO.nil ?_
  change AC _ _ _ _
  refine AC.ret ?_
  change RetQ _ _ _ .ret _
  obtain rfl := Option.some.inj h0
  refine retq rfl rfl
 replace h0 := cF h0 q7
 refine AC.skip ?_
 change AC _ _ _ _
 refine AC.seq ?_
 refine AC.draw 8 mixed (by kernel_rfl) ?_
 refine AD.op [3] rfl (by kernel_rfl) rfl rfl (fun _ _ h => AOp.fieldAddr rfl rfl (ltb rfl) rfl fo28_0 h) ?_
 refine AD.op [36] rfl (by kernel_rfl) rfl rfl (fun _ _ h => AOp.load1 rfl rfl (ltb rfl) rfl agg4 rfl rfl h) ?_
 refine AD.op [3] rfl (by kernel_rfl) rfl rfl (fun _ _ h => AOp.fieldAddr rfl rfl (ltb rfl) rfl fo28_1 h) ?_
 refine AD.op [38] rfl (by kernel_rfl) rfl rfl (fun _ _ h => AOp.load1 rfl rfl (ltb rfl) rfl agg26 rfl rfl h) ?_
 refine AD.op [2] rfl (by kernel_rfl) rfl rfl (fun _ _ h => AOp.fieldAddr rfl rfl (ltb rfl) rfl fo28_1 h) ?_
 refine AD.op [40] rfl (by kernel_rfl) rfl rfl (fun _ _ h => AOp.load1 rfl rfl (ltb rfl) rfl agg26 rfl rfl h) ?_
 obtain ⟨y10, q11, h0⟩ := bind_elim h0
 refine AD.op [39, 41] rfl (by kernel_rfl) rfl rfl (fun _ _ h => AOp.callD rfl rfl (ltb rfl) rfl rfl (w_subLimbs F a1.L a0.L y10 q11) (by rintro _ rfl; exact h)) ?_
 refine AD.op [37, 42] rfl (by kernel_rfl) rfl rfl (fun _ _ h => AOp.build rfl rfl (ltb rfl) zero28 rfl places28 rfl rfl h) ?_
 refine AD.done ?_
 refine AO.op rfl (AOp.store rfl rfl rfl rfl size28 rfl rfl rfl (leb rfl) ?_)
 refine AO.nil ?_
 change AC _ _ _ _
 refine AC.ret ?_
 change RetQ _ _ _ .ret _
 obtain rfl := Option.some.inj h0
 refine retq rfl rfl

set_option maxRecDepth 100000 in
set_option maxHeartbeats 4000000 in
/-- (pub-orthodrome/spec.Dyadic).Add -/
theorem w_Dyadic_Add (F : Nat) (a0 : TSpec_Dyadic) (a1 : TSpec_Dyadic) (r0 : TSpec_Dyadic) (h0 : p_Dyadic_Add F a0 a1 = some r0) : FnD Tryz.prog 17 [e_TSpec_Dyadic a0, e_TSpec_Dyadic a1] (fun r => r = e_TSpec_Dyadic r0) := by
 refine FnD.of (by kernel_rfl) Tryz.func17 rfl Tryz.ntmps17 rfl (leb rfl) fun W ok => ?_
 unfold p_Dyadic_Add at h0
 refine AC.seq ?_
 refine AC.region ?_
 refine AO.op rfl (AOp.box rfl rfl (ltb rfl) rfl rfl ?_)
 refine AO.op rfl (AOp.box rfl rfl (ltb rfl) rfl rfl ?_)
 refine AO.op rfl (AOp.alloc rfl rfl (ltb rfl) zero30 rfl ?_)
 refine AO.nil ?_
 change AC _ _ _ _
 refine AC.seq ?_
 refine AC.block ?_
 refine AC.seq ?_
 refine AC.region ?_
 refine AO.op rfl (AOp.loadN rfl rfl (ltb rfl) rfl agg30 size30 rfl (leb rfl) rfl ?_)
 obtain ⟨y1, q2, h0⟩ := bind_elim h0
 refine AO.op rfl (AOp.callD rfl rfl (ltb rfl) rfl rfl (w_Dyadic_Sign a0 y1 q2) ?_)
 rintro _ rfl
 refine AO.op rfl (AOp.ieql rfl rfl (ltb rfl) rfl rfl ?_)
 refine AO.op rfl (AOp.assign rfl rfl (ltb rfl) rfl ?_)
 refine AO.nil ?_
 change AC _ _ _ _
 refine AC.cond rfl (fun q3 => ?_) (fun q3 => ?_)
 ·replace h0 := cT h0 q3
  refine AC.seq ?_
  refine AC.region ?_
  refine AO.op rfl (AOp.loadN rfl rfl (ltb rfl) rfl agg30 size30 rfl (leb rfl) rfl ?_)
  refine AO.op rfl (AOp.store rfl rfl rfl rfl size30 rfl rfl rfl (leb rfl) ?_)
  refine AO.nil ?_
  change AC _ _ _ _
  refine AC.ret ?_
  change RetQ _ _ _ .ret _
  obtain rfl := Option.some.inj h0
  refine retq rfl rfl
 replace h0 := cF h0 q3
 refine AC.seq ?_
 refine AC.region ?_
 refine AO.op rfl (AOp.loadN rfl rfl (ltb rfl) rfl agg30 size30 rfl (leb rfl) rfl ?_)
 obtain ⟨y4, q5, h0⟩ := bind_elim h0
 refine AO.op rfl (AOp.callD rfl rfl (ltb rfl) rfl rfl (w_Dyadic_Sign a1 y4 q5) ?_)
 rintro _ rfl
 refine AO.op rfl (AOp.ieql rfl rfl (ltb rfl) rfl rfl ?_)
 refine AO.op rfl (AOp.assign rfl rfl (ltb rfl) rfl ?_)
 refine AO.nil ?_
 change AC _ _ _ _
 refine AC.cond rfl (fun q6 => ?_) (fun q6 => ?_)
 ·replace h0 := cT h0 q6
  refine AC.seq ?_
  refine AC.region ?_
  refine AO.op rfl (AOp.loadN rfl rfl (ltb rfl) rfl agg30 size30 rfl (leb rfl) rfl ?_)
  refine AO.op rfl (AOp.store rfl rfl rfl rfl size30 rfl rfl rfl (leb rfl) ?_)
  refine AO.nil ?_
  change AC _ _ _ _
  refine AC.ret ?_
  change RetQ _ _ _ .ret _
  obtain rfl := Option.some.inj h0
  refine retq rfl rfl
 replace h0 := cF h0 q6
 refine AC.seq ?_
 refine AC.region ?_
 refine AO.op rfl (AOp.fieldAddr rfl rfl (ltb rfl) rfl fo30_1 ?_)
 refine AO.op rfl (AOp.load1 rfl rfl (ltb rfl) rfl agg3 rfl rfl ?_)
 refine AO.op rfl (AOp.fieldAddr rfl rfl (ltb rfl) rfl fo30_1 ?_)
 refine AO.op rfl (AOp.load1 rfl rfl (ltb rfl) rfl agg3 rfl rfl ?_)
 refine AO.op rfl (AOp.igtr rfl rfl (ltb rfl) rfl rfl ?_)
 refine AO.op rfl (AOp.assign rfl rfl (ltb rfl) rfl ?_)
 refine AO.nil ?_
 change AC _ _ _ _
 refine AC.cond rfl (fun q7 => ?_) (fun q7 => ?_)
 ·replace h0 := cT h0 q7
  refine AC.seq ?_
  refine AC.draw 14 mixed (by kernel_rfl) ?_
  refine AD.op [2] rfl (by kernel_rfl) rfl rfl (fun _ _ h => AOp.fieldAddr rfl rfl (ltb rfl) rfl fo30_0 h) ?_
  refine AD.op [21] rfl (by kernel_rfl) rfl rfl (fun _ _ h => AOp.loadN rfl rfl (ltb rfl) rfl agg28 size28 rfl (leb rfl) rfl h) ?_
  refine AD.op [2] rfl (by kernel_rfl) rfl rfl (fun _ _ h => AOp.fieldAddr rfl rfl (ltb rfl) rfl fo30_1 h) ?_
  refine AD.op [23] rfl (by kernel_rfl) rfl rfl (fun _ _ h => AOp.load1 rfl rfl (ltb rfl) rfl agg3 rfl rfl h) ?_
  refine AD.op [3] rfl (by kernel_rfl) rfl rfl (fun _ _ h => AOp.fieldAddr rfl rfl (ltb rfl) rfl fo30_1 h) ?_
  refine AD.op [25] rfl (by kernel_rfl) rfl rfl (fun _ _ h => AOp.load1 rfl rfl (ltb rfl) rfl agg3 rfl rfl h) ?_
  obtain ⟨q8, h0⟩ := need_elim h0
  refine AD.op [24, 26] rfl (by kernel_rfl) rfl rfl (fun _ _ h => AOp.isub rfl rfl (ltb rfl) rfl rfl rfl q8.1 q8.2 h) ?_
  obtain ⟨y9, q10, h0⟩ := bind_elim h0
  refine AD.op [22, 27] rfl (by kernel_rfl) rfl rfl (fun _ _ h => AOp.callD rfl rfl (ltb rfl) rfl rfl (w_Whole_Up F a0.N (a0.E - a1.E) y9 q10) (by rintro _ rfl; exact h)) ?_
  refine AD.op [3] rfl (by kernel_rfl) rfl rfl (fun _ _ h => AOp.fieldAddr rfl rfl (ltb rfl) rfl fo30_0 h) ?_
  refine AD.op [29] rfl (by kernel_rfl) rfl rfl (fun _ _ h => AOp.loadN rfl rfl (ltb rfl) rfl agg28 size28 rfl (leb rfl) rfl h) ?_
  obtain ⟨y11, q12, h0⟩ := bind_elim h0
  refine AD.op [28, 30] rfl (by kernel_rfl) rfl rfl (fun _ _ h => AOp.callD rfl rfl (ltb rfl) rfl rfl (w_Whole_Add F y9 a1.N y11 q12) (by rintro _ rfl; exact h)) ?_
  refine AD.op [3] rfl (by kernel_rfl) rfl rfl (fun _ _ h => AOp.fieldAddr rfl rfl (ltb rfl) rfl fo30_1 h) ?_
  refine AD.op [32] rfl (by kernel_rfl) rfl rfl (fun _ _ h => AOp.load1 rfl rfl (ltb rfl) rfl agg3 rfl rfl h) ?_
  refine AD.op [31, 33] rfl (by kernel_rfl) rfl rfl (fun _ _ h => AOp.build rfl rfl (ltb rfl) zero30 rfl places30 rfl rfl h) ?_
  refine AD.done ?_
  refine AO.op rfl (AOp.store rfl rfl rfl rfl size30 rfl rfl rfl (leb rfl) ?_)
  refine AO.nil ?_
  change AC _ _ _ _
  refine AC.ret ?_
  change RetQ _ _ _ .ret _
  obtain rfl := Option.some.inj h0
  refine retq rfl rfl
 replace h0 := cF h0 q7
 refine AC.skip ?_
 change AC _ _ _ _
 refine AC.seq ?_
 refine AC.draw 14 mixed (by kernel_rfl) ?_
 refine AD.op [3] rfl (by kernel_rfl) rfl rfl (fun _ _ h => AOp.fieldAddr rfl rfl (ltb rfl) rfl fo30_0 h) ?_
 refine AD.op [35] rfl (by kernel_rfl) rfl rfl (fun _ _ h => AOp.loadN rfl rfl (ltb rfl) rfl agg28 size28 rfl (leb rfl) rfl h) ?_
 refine AD.op [3] rfl (by kernel_rfl) rfl rfl (fun _ _ h => AOp.fieldAddr rfl rfl (ltb rfl) rfl fo30_1 h) ?_
 refine AD.op [37] rfl (by kernel_rfl) rfl rfl (fun _ _ h => AOp.load1 rfl rfl (ltb rfl) rfl agg3 rfl rfl h) ?_
 refine AD.op [2] rfl (by kernel_rfl) rfl rfl (fun _ _ h => AOp.fieldAddr rfl rfl (ltb rfl) rfl fo30_1 h) ?_
 refine AD.op [39] rfl (by kernel_rfl) rfl rfl (fun _ _ h => AOp.load1 rfl rfl (ltb rfl) rfl agg3 rfl rfl h) ?_
 obtain ⟨q13, h0⟩ := need_elim h0
 refine AD.op [38, 40] rfl (by kernel_rfl) rfl rfl (fun _ _ h => AOp.isub rfl rfl (ltb rfl) rfl rfl rfl q13.1 q13.2 h) ?_
 obtain ⟨y14, q15, h0⟩ := bind_elim h0
 refine AD.op [36, 41] rfl (by kernel_rfl) rfl rfl (fun _ _ h => AOp.callD rfl rfl (ltb rfl) rfl rfl (w_Whole_Up F a1.N (a1.E - a0.E) y14 q15) (by rintro _ rfl; exact h)) ?_
 refine AD.op [2] rfl (by kernel_rfl) rfl rfl (fun _ _ h => AOp.fieldAddr rfl rfl (ltb rfl) rfl fo30_0 h) ?_
 refine AD.op [43] rfl (by kernel_rfl) rfl rfl (fun _ _ h => AOp.loadN rfl rfl (ltb rfl) rfl agg28 size28 rfl (leb rfl) rfl h) ?_
 obtain ⟨y16, q17, h0⟩ := bind_elim h0
 refine AD.op [42, 44] rfl (by kernel_rfl) rfl rfl (fun _ _ h => AOp.callD rfl rfl (ltb rfl) rfl rfl (w_Whole_Add F y14 a0.N y16 q17) (by rintro _ rfl; exact h)) ?_
 refine AD.op [2] rfl (by kernel_rfl) rfl rfl (fun _ _ h => AOp.fieldAddr rfl rfl (ltb rfl) rfl fo30_1 h) ?_
 refine AD.op [46] rfl (by kernel_rfl) rfl rfl (fun _ _ h => AOp.load1 rfl rfl (ltb rfl) rfl agg3 rfl rfl h) ?_
 refine AD.op [45, 47] rfl (by kernel_rfl) rfl rfl (fun _ _ h => AOp.build rfl rfl (ltb rfl) zero30 rfl places30 rfl rfl h) ?_
 refine AD.done ?_
 refine AO.op rfl (AOp.store rfl rfl rfl rfl size30 rfl rfl rfl (leb rfl) ?_)
 refine AO.nil ?_
 change AC _ _ _ _
 refine AC.ret ?_
 change RetQ _ _ _ .ret _
 obtain rfl := Option.some.inj h0
 refine retq rfl rfl

set_option maxRecDepth 100000 in
set_option maxHeartbeats 4000000 in
/-- (pub-orthodrome/spec.Dyadic).Sub -/
theorem w_Dyadic_Sub (F : Nat) (a0 : TSpec_Dyadic) (a1 : TSpec_Dyadic) (r0 : TSpec_Dyadic) (h0 : p_Dyadic_Sub F a0 a1 = some r0) : FnD Tryz.prog 14 [e_TSpec_Dyadic a0, e_TSpec_Dyadic a1] (fun r => r = e_TSpec_Dyadic r0) := by
 refine FnD.of (by kernel_rfl) Tryz.func14 rfl Tryz.ntmps14 rfl (leb rfl) fun W ok => ?_
 unfold p_Dyadic_Sub at h0
 refine AC.seq ?_
 refine AC.region ?_
 refine AO.op rfl (AOp.box rfl rfl (ltb rfl) rfl rfl ?_)
 refine AO.op rfl (AOp.box rfl rfl (ltb rfl) rfl rfl ?_)
 refine AO.op rfl (AOp.alloc rfl rfl (ltb rfl) zero30 rfl ?_)
 refine AO.nil ?_
 change AC _ _ _ _
 refine AC.seq ?_
 refine AC.draw 4 mixed (by kernel_rfl) ?_
 refine AD.op [2] rfl (by kernel_rfl) rfl rfl (fun _ _ h => AOp.loadN rfl rfl (ltb rfl) rfl agg30 size30 rfl (leb rfl) rfl h) ?_
 refine AD.op [3] rfl (by kernel_rfl) rfl rfl (fun _ _ h => AOp.loadN rfl rfl (ltb rfl) rfl agg30 size30 rfl (leb rfl) rfl h) ?_
 obtain ⟨y1, q2, h0⟩ := bind_elim h0
 refine AD.op [6] rfl (by kernel_rfl) rfl rfl (fun _ _ h => AOp.callD rfl rfl (ltb rfl) rfl rfl (w_Dyadic_Minus a1 y1 q2) (by rintro _ rfl; exact h)) ?_
 obtain ⟨y3, q4, h0⟩ := bind_elim h0
 refine AD.op [5, 7] rfl (by kernel_rfl) rfl rfl (fun _ _ h => AOp.callD rfl rfl (ltb rfl) rfl rfl (w_Dyadic_Add F a0 y1 y3 q4) (by rintro _ rfl; exact h)) ?_
 refine AD.done ?_
 refine AO.op rfl (AOp.store rfl rfl rfl rfl size30 rfl rfl rfl (leb rfl) ?_)
 refine AO.nil ?_
 change AC _ _ _ _
 refine AC.ret ?_
 change RetQ _ _ _ .ret _
 obtain rfl := Option.some.inj h0
 refine retq rfl rfl

set_option maxRecDepth 100000 in
set_option maxHeartbeats 4000000 in
/-- (pub-orthodrome/spec.Dyadic).Abs -/
theorem w_Dyadic_Abs (a0 : TSpec_Dyadic) (r0 : TSpec_Dyadic) (h0 : p_Dyadic_Abs a0 = some r0) : FnD Tryz.prog 15 [e_TSpec_Dyadic a0] (fun r => r = e_TSpec_Dyadic r0) := by
 refine FnD.of (by kernel_rfl) Tryz.func15 rfl Tryz.ntmps15 rfl (leb rfl) fun W ok => ?_
 unfold p_Dyadic_Abs at h0
 refine AC.seq ?_
 refine AC.region ?_
 refine AO.op rfl (AOp.box rfl rfl (ltb rfl) rfl rfl ?_)
 refine AO.op rfl (AOp.alloc rfl rfl (ltb rfl) zero30 rfl ?_)
 refine AO.nil ?_
 change AC _ _ _ _
 refine AC.seq ?_
 refine AC.seq ?_
 refine AC.region ?_
 refine AO.op rfl (AOp.loadN rfl rfl (ltb rfl) rfl agg30 size30 rfl (leb rfl) rfl ?_)
 obtain ⟨y1, q2, h0⟩ := bind_elim h0
 refine AO.op rfl (AOp.callD rfl rfl (ltb rfl) rfl rfl (w_Dyadic_Sign a0 y1 q2) ?_)
 rintro _ rfl
 refine AO.op rfl (AOp.ilss rfl rfl (ltb rfl) rfl rfl ?_)
 refine AO.nil ?_
 change AC _ _ _ _
 refine AC.cond rfl (fun q3 => ?_) (fun q3 => ?_)
 ·replace h0 := cT h0 q3
  refine AC.seq ?_
  refine AC.region ?_
  refine AO.op rfl (AOp.loadN rfl rfl (ltb rfl) rfl agg30 size30 rfl (leb rfl) rfl ?_)
  obtain ⟨y4, q5, h0⟩ := bind_elim h0
  refine AO.op rfl (AOp.callD rfl rfl (ltb rfl) rfl rfl (w_Dyadic_Minus a0 y4 q5) ?_)
  rintro _ rfl
  refine AO.op rfl (AOp.store rfl rfl rfl rfl size30 rfl rfl rfl (leb rfl) ?_)
  refine AO.nil ?_
  change AC _ _ _ _
  refine AC.ret ?_
  change RetQ _ _ _ .ret _
  obtain rfl := Option.some.inj h0
  refine retq rfl rfl
 replace h0 := cF h0 q3
 refine AC.skip ?_
 change AC _ _ _ _
 refine AC.seq ?_
 refine AC.region ?_
 refine AO.op rfl (AOp.loadN rfl rfl (ltb rfl) rfl agg30 size30 rfl (leb rfl) rfl ?_)
 refine AO.op rfl (AOp.store rfl rfl rfl rfl size30 rfl rfl rfl (leb rfl) ?_)
 refine AO.nil ?_
 change AC _ _ _ _
 refine AC.ret ?_
 change RetQ _ _ _ .ret _
 obtain rfl := Option.some.inj h0
 refine retq rfl rfl

set_option maxRecDepth 100000 in
set_option maxHeartbeats 4000000 in
/-- (pub-orthodrome/spec.Whole).Mul -/
theorem w_Whole_Mul (F : Nat) (a0 : TSpec_Whole) (a1 : TSpec_Whole) (r0 : TSpec_Whole) (h0 : p_Whole_Mul F a0 a1 = some r0) : FnD Tryz.prog 35 [e_TSpec_Whole a0, e_TSpec_Whole a1] (fun r => r = e_TSpec_Whole r0) := by
 refine FnD.of (by kernel_rfl) Tryz.func35 rfl Tryz.ntmps35 rfl (leb rfl) fun W ok => ?_
 unfold p_Whole_Mul at h0
 refine AC.seq ?_
 refine AC.region ?_
 refine AO.op rfl (AOp.box rfl rfl (ltb rfl) rfl rfl ?_)
 refine AO.op rfl (AOp.box rfl rfl (ltb rfl) rfl rfl ?_)
 refine AO.op rfl (AOp.alloc rfl rfl (ltb rfl) zero28 rfl ?_)
 refine AO.nil ?_
 change AC _ _ _ _
 refine AC.seq ?_
 refine AC.region ?_
 refine AO.op rfl (AOp.fieldAddr rfl rfl (ltb rfl) rfl fo28_1 ?_)
 refine AO.op rfl (AOp.load1 rfl rfl (ltb rfl) rfl agg26 rfl rfl ?_)
 refine AO.op rfl (AOp.lenDs (n := a0.L.length) (cells := (List.map keS4 a0.L)) rfl rfl (ltb rfl) rfl el26 (by decide) (len1 _ _) ?_)
 refine AO.op rfl (AOp.fieldAddr rfl rfl (ltb rfl) rfl fo28_1 ?_)
 refine AO.op rfl (AOp.load1 rfl rfl (ltb rfl) rfl agg26 rfl rfl ?_)
 refine AO.op rfl (AOp.lenDs (n := a1.L.length) (cells := (List.map keS4 a1.L)) rfl rfl (ltb rfl) rfl el26 (by decide) (len1 _ _) ?_)
 obtain ⟨q1, h0⟩ := need_elim h0
 refine AO.op rfl (AOp.iadd rfl rfl (ltb rfl) rfl rfl rfl q1.1 q1.2 ?_)
 obtain ⟨q2, h0⟩ := need_elim h0
 refine AO.op rfl (AOp.makeL (f := fun z => SV.d (keS4 z)) (z0 := (0 : Int)) rfl rfl (ltb rfl) rfl rfl el26 info134 rfl rfl (by decide) q2.1 q2.2 rfl ?_)
 refine AO.op rfl (AOp.assign rfl rfl (ltb rfl) rfl ?_)
 refine AO.nil ?_
 change AC _ _ _ _
 refine AC.seq ?_
 refine AC.seq ?_
 refine AC.region ?_
 refine AO.op rfl (AOp.fieldAddr rfl rfl (ltb rfl) rfl fo28_1 ?_)
 refine AO.op rfl (AOp.load1 rfl rfl (ltb rfl) rfl agg26 rfl rfl ?_)
 refine AO.op rfl (AOp.lenDs (n := a0.L.length) (cells := (List.map keS4 a0.L)) rfl rfl (ltb rfl) rfl el26 (by decide) (len1 _ _) ?_)
 refine AO.op rfl (AOp.move rfl rfl (ltb rfl) rfl ?_)
 refine AO.nil ?_
 change AC _ _ _ _
 obtain ⟨o3, l4, h0⟩ := bind_elim h0
 refine AC.joinE (V := (List Int)) [2, 3, 4, 5] [] 4 (fun g5 => []) (fun g5 => [.fix 28 [.d (dbool a0.Neg), .d (eS4 a0.L)], .fix 28 [.d (dbool a1.Neg), .d (eS4 a1.L)], .fix 28 [.d (dbool false), .d (.v (.slice none 0 0))], .fix 134 (List.map (fun z => SV.d (keS4 z)) g5)]) (fun g5 => (p_Whole_Mul_k1 a0 a1 F) g5 = some r0) rfl ?_ ?_
 ·refine AC.block ?_
  refine AC.loopP (V := (Int × (List Int))) (p_Whole_Mul_l2 a0 a1 F) o3 [2, 3, 4, 5, 21, 22] [23] 4 (fun g10 => [(23, .d (di .i64 g10.1))]) (fun g10 => [.fix 28 [.d (dbool a0.Neg), .d (eS4 a0.L)], .fix 28 [.d (dbool a1.Neg), .d (eS4 a1.L)], .fix 28 [.d (dbool false), .d (.v (.slice none 0 0))], .fix 134 (List.map (fun z => SV.d (keS4 z)) g10.2)]) F ((0 : Int), (List.replicate ((((a0.L.length : Nat) : Int) + ((a1.L.length : Nat) : Int))).toNat (0 : Int))) l4 rfl rfl (LeL.refl _) rfl (okU_mk rfl (okU_cons rfl (okU_cons rfl (okU_cons rfl (okU_cons (okU_fixl (fun _ => rfl)) okU_nil))))) ?_
  intro n12 g10 h1
  unfold p_Whole_Mul_l2 at h1
  refine AC.seq ?_
  refine AC.region ?_
  refine AO.op rfl (AOp.ilss rfl rfl (ltb rfl) rfl rfl ?_)
  refine AO.nil ?_
  change AC _ _ _ _
  refine AC.seq ?_
  refine AC.cond rfl (fun q13 => ?_) (fun q13 => ?_)
  ·replace h1 := cT h1 q13
   refine AC.skip ?_
   change AC _ _ _ _
   refine AC.seq ?_
   refine AC.block ?_
   refine AC.seq ?_
   refine AC.region ?_
   refine AO.op rfl (AOp.move rfl rfl (ltb rfl) rfl ?_)
   obtain ⟨x14, q15, h1⟩ := idx_elim h1
   refine AO.op rfl (AOp.indexDs (cells := (List.map keS4 a0.L)) rfl rfl (ltb rfl) rfl rfl el26 (by decide) q15.1 (lt1 q15.2) ?_)
   refine AO.op rfl (AOp.loadEp rfl rfl (ltb rfl) rfl agg134 (at1 q15.2) ?_)
   refine AO.op rfl (AOp.assign rfl rfl (ltb rfl) rfl ?_)
   refine AO.op rfl (AOp.assign rfl rfl (ltb rfl) rfl ?_)
   refine AO.nil ?_
   change AC _ _ _ _
   refine AC.seq ?_
   refine AC.region ?_
   refine AO.op rfl (AOp.assign rfl rfl (ltb rfl) rfl ?_)
   refine AO.nil ?_
   change AC _ _ _ _
   refine AC.seq ?_
   refine AC.seq ?_
   refine AC.region ?_
   refine AO.op rfl (AOp.fieldAddr rfl rfl (ltb rfl) rfl fo28_1 ?_)
   refine AO.op rfl (AOp.load1 rfl rfl (ltb rfl) rfl agg26 rfl rfl ?_)
   refine AO.op rfl (AOp.lenDs (n := a1.L.length) (cells := (List.map keS4 a1.L)) rfl rfl (ltb rfl) rfl el26 (by decide) (len1 _ _) ?_)
   refine AO.op rfl (AOp.move rfl rfl (ltb rfl) rfl ?_)
   refine AO.nil ?_
   change AC _ _ _ _
   obtain ⟨o16, l17, h1⟩ := bind_elim h1
   refine AC.joinE (V := (Int × (List Int))) [2, 3, 4, 5, 6, 21, 22, 23] [8] 4 (fun g18 => [(8, .d (di .u64 g18.1))]) (fun g18 => [.fix 28 [.d (dbool a0.Neg), .d (eS4 a0.L)], .fix 28 [.d (dbool a1.Neg), .d (eS4 a1.L)], .fix 28 [.d (dbool false), .d (.v (.slice none 0 0))], .fix 134 (List.map (fun z => SV.d (keS4 z)) g18.2)]) (fun g18 => (p_Whole_Mul_k3 a0 a1 g10 (iter (p_Whole_Mul_l2 a0 a1 F) n12)) g18 = some o3) rfl ?_ ?_
   ·refine AC.block ?_
    refine AC.loopP (V := (Int × Int × (List Int))) (p_Whole_Mul_l4 a0 a1 g10 x14) o16 [2, 3, 4, 5, 6, 7, 21, 22, 23, 29, 30] [8, 31] 4 (fun g23 => [(8, .d (di .u64 g23.1)), (31, .d (di .i64 g23.2.1))]) (fun g23 => [.fix 28 [.d (dbool a0.Neg), .d (eS4 a0.L)], .fix 28 [.d (dbool a1.Neg), .d (eS4 a1.L)], .fix 28 [.d (dbool false), .d (.v (.slice none 0 0))], .fix 134 (List.map (fun z => SV.d (keS4 z)) g23.2.2)]) F ((0 : Int), (0 : Int), g10.2) l17 rfl rfl (LeL.refl _) rfl (okU_mk rfl (okU_cons rfl (okU_cons rfl (okU_cons rfl (okU_cons (okU_fixl (fun _ => rfl)) okU_nil))))) ?_
    intro n25 g23 h2
    unfold p_Whole_Mul_l4 at h2
    refine AC.seq ?_
    refine AC.region ?_
    refine AO.op rfl (AOp.ilss rfl rfl (ltb rfl) rfl rfl ?_)
    refine AO.nil ?_
    change AC _ _ _ _
    refine AC.seq ?_
    refine AC.cond rfl (fun q26 => ?_) (fun q26 => ?_)
    ·replace h2 := cT h2 q26
     refine AC.skip ?_
     change AC _ _ _ _
     refine AC.seq ?_
     refine AC.block ?_
     refine AC.seq ?_
     refine AC.region ?_
     refine AO.op rfl (AOp.move rfl rfl (ltb rfl) rfl ?_)
     obtain ⟨x27, q28, h2⟩ := idx_elim h2
     refine AO.op rfl (AOp.indexDs (cells := (List.map keS4 a1.L)) rfl rfl (ltb rfl) rfl rfl el26 (by decide) q28.1 (lt1 q28.2) ?_)
     refine AO.op rfl (AOp.loadEp rfl rfl (ltb rfl) rfl agg134 (at1 q28.2) ?_)
     refine AO.op rfl (AOp.assign rfl rfl (ltb rfl) rfl ?_)
     refine AO.op rfl (AOp.assign rfl rfl (ltb rfl) rfl ?_)
     refine AO.nil ?_
     change AC _ _ _ _
     refine AC.seq ?_
     refine AC.region ?_
     refine AO.op rfl (AOp.move rfl rfl (ltb rfl) rfl ?_)
     refine AO.op rfl (AOp.i2i rfl rfl (ltb rfl) rfl Tryz.underlying134 Tryz.underlying135 rfl ?_)
     refine AO.op rfl (AOp.move rfl rfl (ltb rfl) rfl ?_)
     refine AO.op rfl (AOp.i2i rfl rfl (ltb rfl) rfl Tryz.underlying134 Tryz.underlying135 rfl ?_)
     obtain ⟨q29, h2⟩ := need_elim h2
     refine AO.op rfl (AOp.imul rfl rfl (ltb rfl) rfl rfl rfl q29.1 q29.2 ?_)
     refine AO.op rfl (AOp.move rfl rfl (ltb rfl) rfl ?_)
     refine AO.op rfl (AOp.move rfl rfl (ltb rfl) rfl ?_)
     refine AO.op rfl (AOp.move rfl rfl (ltb rfl) rfl ?_)
     obtain ⟨q30, h2⟩ := need_elim h2
     refine AO.op rfl (AOp.iadd rfl rfl (ltb rfl) rfl rfl rfl q30.1 q30.2 ?_)
     obtain ⟨q31, h2⟩ := need_elim h2
     refine AO.op rfl (AOp.indexSl rfl rfl (ltb rfl) rfl rfl el26 q31.1 q31.2 ?_)
     obtain ⟨x32, q33, h2⟩ := idx_elim h2
     refine AO.op rfl (AOp.load1 rfl rfl (ltb rfl) rfl agg134 rfl (atO q33.2) ?_)
     refine AO.op rfl (AOp.i2i rfl rfl (ltb rfl) rfl Tryz.underlying134 Tryz.underlying135 rfl ?_)
     obtain ⟨q34, h2⟩ := need_elim h2
     refine AO.op rfl (AOp.iadd rfl rfl (ltb rfl) rfl rfl rfl q34.1 q34.2 ?_)
     refine AO.op rfl (AOp.move rfl rfl (ltb rfl) rfl ?_)
     obtain ⟨q35, h2⟩ := need_elim h2
     refine AO.op rfl (AOp.iadd rfl rfl (ltb rfl) rfl rfl rfl q35.1 q35.2 ?_)
     refine AO.op rfl (AOp.assign rfl rfl (ltb rfl) rfl ?_)
     refine AO.nil ?_
     change AC _ _ _ _
     refine AC.seq ?_
     refine AC.region ?_
     refine AO.op rfl (AOp.move rfl rfl (ltb rfl) rfl ?_)
     refine AO.op rfl (AOp.move rfl rfl (ltb rfl) rfl ?_)
     refine AO.op rfl (AOp.move rfl rfl (ltb rfl) rfl ?_)
     obtain ⟨q36, h2⟩ := need_elim h2
     refine AO.op rfl (AOp.iadd rfl rfl (ltb rfl) rfl rfl rfl q36.1 q36.2 ?_)
     refine AO.op rfl (AOp.move rfl rfl (ltb rfl) rfl ?_)
     refine AO.op rfl (AOp.i2i rfl rfl (ltb rfl) rfl Tryz.underlying135 Tryz.underlying134 rfl ?_)
     obtain ⟨q37, h2⟩ := need_elim h2
     refine AO.op rfl (AOp.indexSl rfl rfl (ltb rfl) rfl rfl el26 q37.1 q37.2 ?_)
     obtain ⟨q38, h2⟩ := need_elim h2
     refine AO.op rfl (AOp.storeL (f := fun z => SV.d (keS4 z)) (l := g23.2.2) (i := ((g10.1 + g23.2.1)).toNat) (v := (IntKind.u32.wrap ((((IntKind.u64.wrap x14) * (IntKind.u64.wrap x27)) + (IntKind.u64.wrap x32)) + g23.1))) rfl rfl rfl rfl size134 rfl rfl rfl q38 ?_)
     refine AO.nil ?_
     change AC _ _ _ _
     refine AC.region ?_
     refine AO.op rfl (AOp.move rfl rfl (ltb rfl) rfl ?_)
     obtain ⟨q39, h2⟩ := need_elim h2
     refine AO.op rfl (AOp.ishr (n := 32) rfl rfl (ltb rfl) rfl rfl (by decide) q39 rfl ?_)
     refine AO.op rfl (AOp.assign rfl rfl (ltb rfl) rfl ?_)
     refine AO.nil ?_
     change AC _ _ _ _
     refine AC.region ?_
     obtain ⟨q40, h2⟩ := need_elim h2
     refine AO.op rfl (AOp.iadd rfl rfl (ltb rfl) rfl rfl rfl q40.1 q40.2 ?_)
     refine AO.op rfl (AOp.move rfl rfl (ltb rfl) rfl ?_)
     refine AO.nil ?_
     exact ⟨((((((IntKind.u64.wrap x14) * (IntKind.u64.wrap x27)) + (IntKind.u64.wrap x32)) + g23.1) / 2 ^ 32), (g23.2.1 + (1 : Int)), (g23.2.2.set ((g10.1 + g23.2.1)).toNat (IntKind.u32.wrap ((((IntKind.u64.wrap x14) * (IntKind.u64.wrap x27)) + (IntKind.u64.wrap x32)) + g23.1)))), _, rfl, (LeL.refl _), rfl, (okU_mk rfl (okU_cons rfl (okU_cons rfl (okU_cons rfl (okU_cons (okU_fixl (fun _ => rfl)) okU_nil))))), h2⟩
    replace h2 := cF h2 q26
    refine AC.exit ?_
    obtain rfl := Option.some.inj h2
    exact ⟨(g23.1, g23.2.2), _, rfl, (LeL.refl _), rfl, (okU_mk rfl (okU_cons rfl (okU_cons rfl (okU_cons rfl (okU_cons (okU_fixl (fun _ => rfl)) okU_nil))))), aftL h1⟩
   intro g18 h1
   unfold p_Whole_Mul_k3 at h1
   change AC _ _ _ _
   refine AC.region ?_
   refine AO.op rfl (AOp.move rfl rfl (ltb rfl) rfl ?_)
   refine AO.op rfl (AOp.move rfl rfl (ltb rfl) rfl ?_)
   refine AO.op rfl (AOp.fieldAddr rfl rfl (ltb rfl) rfl fo28_1 ?_)
   refine AO.op rfl (AOp.load1 rfl rfl (ltb rfl) rfl agg26 rfl rfl ?_)
   refine AO.op rfl (AOp.lenDs (n := a1.L.length) (cells := (List.map keS4 a1.L)) rfl rfl (ltb rfl) rfl el26 (by decide) (len1 _ _) ?_)
   obtain ⟨q19, h1⟩ := need_elim h1
   refine AO.op rfl (AOp.iadd rfl rfl (ltb rfl) rfl rfl rfl q19.1 q19.2 ?_)
   refine AO.op rfl (AOp.move rfl rfl (ltb rfl) rfl ?_)
   refine AO.op rfl (AOp.i2i rfl rfl (ltb rfl) rfl Tryz.underlying135 Tryz.underlying134 rfl ?_)
   obtain ⟨q20, h1⟩ := need_elim h1
   refine AO.op rfl (AOp.indexSl rfl rfl (ltb rfl) rfl rfl el26 q20.1 q20.2 ?_)
   obtain ⟨q21, h1⟩ := need_elim h1
   refine AO.op rfl (AOp.storeL (f := fun z => SV.d (keS4 z)) (l := g18.2) (i := ((g10.1 + ((a1.L.length : Nat) : Int))).toNat) (v := (IntKind.u32.wrap g18.1)) rfl rfl rfl rfl size134 rfl rfl rfl q21 ?_)
   refine AO.nil ?_
   change AC _ _ _ _
   refine AC.region ?_
   obtain ⟨q22, h1⟩ := need_elim h1
   refine AO.op rfl (AOp.iadd rfl rfl (ltb rfl) rfl rfl rfl q22.1 q22.2 ?_)
   refine AO.op rfl (AOp.move rfl rfl (ltb rfl) rfl ?_)
   refine AO.nil ?_
   exact ⟨((g10.1 + (1 : Int)), (g18.2.set ((g10.1 + ((a1.L.length : Nat) : Int))).toNat (IntKind.u32.wrap g18.1))), _, rfl, (LeL.refl _), rfl, (okU_mk rfl (okU_cons rfl (okU_cons rfl (okU_cons rfl (okU_cons (okU_fixl (fun _ => rfl)) okU_nil))))), h1⟩
  replace h1 := cF h1 q13
  refine AC.exit ?_
  obtain rfl := Option.some.inj h1
  exact ⟨g10.2, _, rfl, (LeL.refl _), rfl, (okU_mk rfl (okU_cons rfl (okU_cons rfl (okU_cons rfl (okU_cons (okU_fixl (fun _ => rfl)) okU_nil))))), aftL h0⟩
 intro g5 h0
 unfold p_Whole_Mul_k1 at h0
 change AC _ _ _ _
 refine AC.seq ?_
 refine AC.region ?_
 refine AO.op rfl (AOp.move rfl rfl (ltb rfl) rfl ?_)
 obtain ⟨q6, h0⟩ := need_elim h0
 refine AO.freezeF (ds := (List.map keS4 g5)) 71 3 rfl rfl rfl (by rw [List.map_map]; rfl) (lenq q6 (len1 _ _)) (Nat.le_refl _) ?_
 obtain ⟨y7, q8, h0⟩ := bind_elim h0
 refine AO.op rfl (AOp.callD rfl rfl (ltb rfl) rfl rfl (w_trim F g5 y7 q8) ?_)
 rintro _ rfl
 refine AO.op rfl (AOp.assign rfl rfl (ltb rfl) rfl ?_)
 refine AO.nil ?_
 change AC _ _ _ _
 refine AC.seq ?_
 refine AC.region ?_
 refine AO.op rfl (AOp.move rfl rfl (ltb rfl) rfl ?_)
 refine AO.op rfl (AOp.lenDs (n := y7.length) (cells := (List.map keS4 y7)) rfl rfl (ltb rfl) rfl el26 (by decide) (len1 _ _) ?_)
 refine AO.op rfl (AOp.igtr rfl rfl (ltb rfl) rfl rfl ?_)
 refine AO.op rfl (AOp.move rfl rfl (ltb rfl) rfl ?_)
 refine AO.dec (decide ((0 : Int) < ((y7.length : Nat) : Int))) (fun q9 => ?_) (fun q9 => ?_)
 ·replace h0 := cT h0 q9
  refine AO.guardY rfl rfl rfl q9 (AOp.fieldAddr rfl rfl (ltb rfl) rfl fo28_0 ?_)
  refine AO.guardY rfl rfl rfl q9 (AOp.load1 rfl rfl (ltb rfl) rfl agg4 rfl rfl ?_)
  refine AO.guardY rfl rfl rfl q9 (AOp.fieldAddr rfl rfl (ltb rfl) rfl fo28_0 ?_)
  refine AO.guardY rfl rfl rfl q9 (AOp.load1 rfl rfl (ltb rfl) rfl agg4 rfl rfl ?_)
  refine AO.guardY rfl rfl rfl q9 (AOp.bneq Tryz.underlying4 rfl rfl (ltb rfl) rfl rfl ?_)
  refine AO.op rfl (AOp.pick rfl rfl (ltb rfl) rfl q9 rfl ?_)
  refine AO.op rfl (AOp.move rfl rfl (ltb rfl) rfl ?_)
  refine AO.op rfl (AOp.build rfl rfl (ltb rfl) zero28 rfl places28 rfl rfl ?_)
  refine AO.op rfl (AOp.store rfl rfl rfl rfl size28 rfl rfl rfl (leb rfl) ?_)
  refine AO.nil ?_
  change AC _ _ _ _
  refine AC.ret ?_
  change RetQ _ _ _ .ret _
  obtain rfl := Option.some.inj h0
  refine retq rfl rfl
 replace h0 := cF h0 q9
 refine AO.guardN rfl rfl rfl (ltb rfl) rfl q9 ?_
 refine AO.guardN rfl rfl rfl (ltb rfl) rfl q9 ?_
 refine AO.guardN rfl rfl rfl (ltb rfl) rfl q9 ?_
 refine AO.guardN rfl rfl rfl (ltb rfl) rfl q9 ?_
 refine AO.guardN rfl rfl rfl (ltb rfl) rfl q9 ?_
 refine AO.op rfl (AOp.pickN rfl rfl (ltb rfl) rfl q9 rfl ?_)
 refine AO.op rfl (AOp.move rfl rfl (ltb rfl) rfl ?_)
 refine AO.op rfl (AOp.build rfl rfl (ltb rfl) zero28 rfl places28 rfl rfl ?_)
 refine AO.op rfl (AOp.store rfl rfl rfl rfl size28 rfl rfl rfl (leb rfl) ?_)
 refine AO.nil ?_
 change AC _ _ _ _
 refine AC.ret ?_
 change RetQ _ _ _ .ret _
 obtain rfl := Option.some.inj h0
 refine retq rfl rfl

set_option maxRecDepth 100000 in
set_option maxHeartbeats 4000000 in
/-- (pub-orthodrome/spec.Dyadic).Mul -/
theorem w_Dyadic_Mul (F : Nat) (a0 : TSpec_Dyadic) (a1 : TSpec_Dyadic) (r0 : TSpec_Dyadic) (h0 : p_Dyadic_Mul F a0 a1 = some r0) : FnD Tryz.prog 18 [e_TSpec_Dyadic a0, e_TSpec_Dyadic a1] (fun r => r = e_TSpec_Dyadic r0) := by
 refine FnD.of (by kernel_rfl) Tryz.func18 rfl Tryz.ntmps18 rfl (leb rfl) fun W ok => ?_
 unfold p_Dyadic_Mul at h0
 refine AC.seq ?_
 refine AC.region ?_
 refine AO.op rfl (AOp.box rfl rfl (ltb rfl) rfl rfl ?_)
 refine AO.op rfl (AOp.box rfl rfl (ltb rfl) rfl rfl ?_)
 refine AO.op rfl (AOp.alloc rfl rfl (ltb rfl) zero30 rfl ?_)
 refine AO.nil ?_
 change AC _ _ _ _
 refine AC.seq ?_
 refine AC.draw 11 mixed (by kernel_rfl) ?_
 refine AD.op [2] rfl (by kernel_rfl) rfl rfl (fun _ _ h => AOp.fieldAddr rfl rfl (ltb rfl) rfl fo30_0 h) ?_
 refine AD.op [5] rfl (by kernel_rfl) rfl rfl (fun _ _ h => AOp.loadN rfl rfl (ltb rfl) rfl agg28 size28 rfl (leb rfl) rfl h) ?_
 refine AD.op [3] rfl (by kernel_rfl) rfl rfl (fun _ _ h => AOp.fieldAddr rfl rfl (ltb rfl) rfl fo30_0 h) ?_
 refine AD.op [7] rfl (by kernel_rfl) rfl rfl (fun _ _ h => AOp.loadN rfl rfl (ltb rfl) rfl agg28 size28 rfl (leb rfl) rfl h) ?_
 obtain ⟨y1, q2, h0⟩ := bind_elim h0
 refine AD.op [6, 8] rfl (by kernel_rfl) rfl rfl (fun _ _ h => AOp.callD rfl rfl (ltb rfl) rfl rfl (w_Whole_Mul F a0.N a1.N y1 q2) (by rintro _ rfl; exact h)) ?_
 refine AD.op [2] rfl (by kernel_rfl) rfl rfl (fun _ _ h => AOp.fieldAddr rfl rfl (ltb rfl) rfl fo30_1 h) ?_
 refine AD.op [10] rfl (by kernel_rfl) rfl rfl (fun _ _ h => AOp.load1 rfl rfl (ltb rfl) rfl agg3 rfl rfl h) ?_
 refine AD.op [3] rfl (by kernel_rfl) rfl rfl (fun _ _ h => AOp.fieldAddr rfl rfl (ltb rfl) rfl fo30_1 h) ?_
 refine AD.op [12] rfl (by kernel_rfl) rfl rfl (fun _ _ h => AOp.load1 rfl rfl (ltb rfl) rfl agg3 rfl rfl h) ?_
 obtain ⟨q3, h0⟩ := need_elim h0
 refine AD.op [11, 13] rfl (by kernel_rfl) rfl rfl (fun _ _ h => AOp.iadd rfl rfl (ltb rfl) rfl rfl rfl q3.1 q3.2 h) ?_
 refine AD.op [9, 14] rfl (by kernel_rfl) rfl rfl (fun _ _ h => AOp.build rfl rfl (ltb rfl) zero30 rfl places30 rfl rfl h) ?_
 refine AD.done ?_
 refine AO.op rfl (AOp.store rfl rfl rfl rfl size30 rfl rfl rfl (leb rfl) ?_)
 refine AO.nil ?_
 change AC _ _ _ _
 refine AC.ret ?_
 change RetQ _ _ _ .ret _
 obtain rfl := Option.some.inj h0
 refine retq rfl rfl

set_option maxRecDepth 100000 in
set_option maxHeartbeats 4000000 in
/-- (pub-orthodrome/spec.Dyadic).Shift -/
theorem w_Dyadic_Shift (a0 : TSpec_Dyadic) (a1 : Int) (r0 : TSpec_Dyadic) (h0 : p_Dyadic_Shift a0 a1 = some r0) : FnD Tryz.prog 19 [e_TSpec_Dyadic a0, di .i64 a1] (fun r => r = e_TSpec_Dyadic r0) := by
 refine FnD.of (by kernel_rfl) Tryz.func19 rfl Tryz.ntmps19 rfl (leb rfl) fun W ok => ?_
 unfold p_Dyadic_Shift at h0
 refine AC.seq ?_
 refine AC.region ?_
 refine AO.op rfl (AOp.box rfl rfl (ltb rfl) rfl rfl ?_)
 refine AO.op rfl (AOp.alloc rfl rfl (ltb rfl) zero30 rfl ?_)
 refine AO.nil ?_
 change AC _ _ _ _
 refine AC.seq ?_
 refine AC.region ?_
 refine AO.op rfl (AOp.fieldAddr rfl rfl (ltb rfl) rfl fo30_0 ?_)
 refine AO.op rfl (AOp.loadN rfl rfl (ltb rfl) rfl agg28 size28 rfl (leb rfl) rfl ?_)
 refine AO.op rfl (AOp.fieldAddr rfl rfl (ltb rfl) rfl fo30_1 ?_)
 refine AO.op rfl (AOp.load1 rfl rfl (ltb rfl) rfl agg3 rfl rfl ?_)
 refine AO.op rfl (AOp.move rfl rfl (ltb rfl) rfl ?_)
 obtain ⟨q1, h0⟩ := need_elim h0
 refine AO.op rfl (AOp.iadd rfl rfl (ltb rfl) rfl rfl rfl q1.1 q1.2 ?_)
 refine AO.op rfl (AOp.build rfl rfl (ltb rfl) zero30 rfl places30 rfl rfl ?_)
 refine AO.op rfl (AOp.store rfl rfl rfl rfl size30 rfl rfl rfl (leb rfl) ?_)
 refine AO.nil ?_
 change AC _ _ _ _
 refine AC.ret ?_
 change RetQ _ _ _ .ret _
 obtain rfl := Option.some.inj h0
 refine retq rfl rfl

set_option maxRecDepth 100000 in
set_option maxHeartbeats 4000000 in
/-- pub-orthodrome/spec.LineCentroid -/
theorem w_LineCentroid (F : Nat) (a0 : (List (List TSpec_Point))) (r0 : (TSpec_Ratio × TSpec_Ratio × Bool)) (h0 : p_LineCentroid F a0 = some r0) : FnD Tryz.prog 5 [eS7 a0] (fun r => r = .tu [e_TSpec_Ratio r0.1, e_TSpec_Ratio r0.2.1, dbool r0.2.2]) := by
 refine FnD.of (by kernel_rfl) Tryz.func5 rfl Tryz.ntmps5 rfl (leb rfl) fun W ok => ?_
 unfold p_LineCentroid at h0
 refine AC.seq ?_
 refine AC.region ?_
 refine AO.op rfl (AOp.alloc rfl rfl (ltb rfl) zero32 rfl ?_)
 refine AO.op rfl (AOp.alloc rfl rfl (ltb rfl) zero32 rfl ?_)
 refine AO.op rfl (AOp.assign rfl rfl (ltb rfl) rfl ?_)
 refine AO.nil ?_
 change AC _ _ _ _
 refine AC.seq ?_
 refine AC.region ?_
 refine AO.op rfl (AOp.build rfl rfl (ltb rfl) zero30 rfl places30 rfl rfl ?_)
 refine AO.op rfl (AOp.build rfl rfl (ltb rfl) zero30 rfl places30 rfl rfl ?_)
 refine AO.op rfl (AOp.build rfl rfl (ltb rfl) zero30 rfl places30 rfl rfl ?_)
 refine AO.op rfl (AOp.alloc rfl rfl (ltb rfl) zero30 rfl ?_)
 refine AO.op rfl (AOp.alloc rfl rfl (ltb rfl) zero30 rfl ?_)
 refine AO.op rfl (AOp.alloc rfl rfl (ltb rfl) zero30 rfl ?_)
 refine AO.op rfl (AOp.store rfl rfl rfl rfl size30 rfl rfl rfl (leb rfl) ?_)
 refine AO.op rfl (AOp.store rfl rfl rfl rfl size30 rfl rfl rfl (leb rfl) ?_)
 refine AO.op rfl (AOp.store rfl rfl rfl rfl size30 rfl rfl rfl (leb rfl) ?_)
 refine AO.nil ?_
 change AC _ _ _ _
 refine AC.seq ?_
 refine AC.seq ?_
 refine AC.region ?_
 refine AO.op rfl (AOp.move rfl rfl (ltb rfl) rfl ?_)
 refine AO.op rfl (AOp.lenDs (n := a0.length) (cells := (List.map keS7 a0)) rfl rfl (ltb rfl) rfl el23 (by decide) (len1 _ _) ?_)
 refine AO.op rfl (AOp.move rfl rfl (ltb rfl) rfl ?_)
 refine AO.nil ?_
 change AC _ _ _ _
 refine AC.subO 2 rfl (.cons (SVLe.refl _) (.cons (SVLe.nil 1) (.cons (SVLe.refl _) .nil))) ?_
 refine AC.subO 3 rfl (.cons (SVLe.refl _) (.cons (SVLe.nil 1) (.cons (SVLe.refl _) .nil))) ?_
 refine AC.subO 4 rfl (.cons (SVLe.refl _) (.cons (SVLe.nil 1) (.cons (SVLe.refl _) .nil))) ?_
 obtain ⟨o1, l2, h0⟩ := bind_elim h0
 refine AC.joinE (V := (Bool × (List Int) × Int × Bool × (List Int) × Int × Bool × (List Int) × Int)) [2, 3, 5, 6, 7] [] 5 (fun g3 => []) (fun g3 => [.fix 32 [.d (dbool false), .d (.v (.slice none 0 0)), .d (di .i64 (0 : Int)), .d (dbool false), .d (.v (.slice none 0 0)), .d (di .i64 (0 : Int))], .fix 32 [.d (dbool false), .d (.v (.slice none 0 0)), .d (di .i64 (0 : Int)), .d (dbool false), .d (.v (.slice none 0 0)), .d (di .i64 (0 : Int))], .fix 30 [.d (dbool g3.1), .d (eS4 g3.2.1), .d (di .i64 g3.2.2.1)], .fix 30 [.d (dbool g3.2.2.2.1), .d (eS4 g3.2.2.2.2.1), .d (di .i64 g3.2.2.2.2.2.1)], .fix 30 [.d (dbool g3.2.2.2.2.2.2.1), .d (eS4 g3.2.2.2.2.2.2.2.1), .d (di .i64 g3.2.2.2.2.2.2.2.2)]]) (fun g3 => p_LineCentroid_k1 g3 = some r0) rfl ?_ ?_
 ·refine AC.block ?_
  refine AC.loopP (V := (Int × Bool × (List Int) × Int × Bool × (List Int) × Int × Bool × (List Int) × Int)) (p_LineCentroid_l2 a0 F) o1 [2, 3, 5, 6, 7, 18, 19] [20] 5 (fun g9 => [(20, .d (di .i64 g9.1))]) (fun g9 => [.fix 32 [.d (dbool false), .d (.v (.slice none 0 0)), .d (di .i64 (0 : Int)), .d (dbool false), .d (.v (.slice none 0 0)), .d (di .i64 (0 : Int))], .fix 32 [.d (dbool false), .d (.v (.slice none 0 0)), .d (di .i64 (0 : Int)), .d (dbool false), .d (.v (.slice none 0 0)), .d (di .i64 (0 : Int))], .fix 30 [.d (dbool g9.2.1), .d (eS4 g9.2.2.1), .d (di .i64 g9.2.2.2.1)], .fix 30 [.d (dbool g9.2.2.2.2.1), .d (eS4 g9.2.2.2.2.2.1), .d (di .i64 g9.2.2.2.2.2.2.1)], .fix 30 [.d (dbool g9.2.2.2.2.2.2.2.1), .d (eS4 g9.2.2.2.2.2.2.2.2.1), .d (di .i64 g9.2.2.2.2.2.2.2.2.2)]]) F ((0 : Int), false, [], (0 : Int), false, [], (0 : Int), false, [], (0 : Int)) l2 rfl rfl (LeL.refl _) rfl rfl ?_
  intro n11 g9 h1
  unfold p_LineCentroid_l2 at h1
  refine AC.seq ?_
  refine AC.region ?_
  refine AO.op rfl (AOp.ilss rfl rfl (ltb rfl) rfl rfl ?_)
  refine AO.nil ?_
  change AC _ _ _ _
  refine AC.seq ?_
  refine AC.cond rfl (fun q12 => ?_) (fun q12 => ?_)
  ·replace h1 := cT h1 q12
   refine AC.skip ?_
   change AC _ _ _ _
   refine AC.seq ?_
   refine AC.block ?_
   refine AC.seq ?_
   refine AC.region ?_
   obtain ⟨x13, q14, h1⟩ := idx_elim h1
   refine AO.op rfl (AOp.indexDs (cells := (List.map keS7 a0)) rfl rfl (ltb rfl) rfl rfl el23 (by decide) q14.1 (lt1 q14.2) ?_)
   refine AO.op rfl (AOp.loadEp rfl rfl (ltb rfl) rfl agg35 (at1 q14.2) ?_)
   refine AO.op rfl (AOp.assign rfl rfl (ltb rfl) rfl ?_)
   refine AO.nil ?_
   change AC _ _ _ _
   refine AC.seq ?_
   refine AC.region ?_
   refine AO.op rfl (AOp.assign rfl rfl (ltb rfl) rfl ?_)
   refine AO.nil ?_
   change AC _ _ _ _
   obtain ⟨o15, l16, h1⟩ := bind_elim h1
   refine AC.joinE (V := (Bool × (List Int) × Int × Bool × (List Int) × Int × Bool × (List Int) × Int)) [2, 3, 5, 6, 7, 18, 19, 20] [] 5 (fun g17 => []) (fun g17 => [.fix 32 [.d (dbool false), .d (.v (.slice none 0 0)), .d (di .i64 (0 : Int)), .d (dbool false), .d (.v (.slice none 0 0)), .d (di .i64 (0 : Int))], .fix 32 [.d (dbool false), .d (.v (.slice none 0 0)), .d (di .i64 (0 : Int)), .d (dbool false), .d (.v (.slice none 0 0)), .d (di .i64 (0 : Int))], .fix 30 [.d (dbool g17.1), .d (eS4 g17.2.1), .d (di .i64 g17.2.2.1)], .fix 30 [.d (dbool g17.2.2.2.1), .d (eS4 g17.2.2.2.2.1), .d (di .i64 g17.2.2.2.2.2.1)], .fix 30 [.d (dbool g17.2.2.2.2.2.2.1), .d (eS4 g17.2.2.2.2.2.2.2.1), .d (di .i64 g17.2.2.2.2.2.2.2.2)]]) (fun g17 => (p_LineCentroid_k3 g9 (iter (p_LineCentroid_l2 a0 F) n11)) g17 = some o1) rfl ?_ ?_
   ·refine AC.block ?_
    refine AC.loopP (V := (Int × Bool × (List Int) × Int × Bool × (List Int) × Int × Bool × (List Int) × Int)) (p_LineCentroid_l4 F x13) o15 [2, 3, 5, 6, 7, 9, 18, 19, 20] [10] 5 (fun g19 => [(10, .d (di .i64 g19.1))]) (fun g19 => [.fix 32 [.d (dbool false), .d (.v (.slice none 0 0)), .d (di .i64 (0 : Int)), .d (dbool false), .d (.v (.slice none 0 0)), .d (di .i64 (0 : Int))], .fix 32 [.d (dbool false), .d (.v (.slice none 0 0)), .d (di .i64 (0 : Int)), .d (dbool false), .d (.v (.slice none 0 0)), .d (di .i64 (0 : Int))], .fix 30 [.d (dbool g19.2.1), .d (eS4 g19.2.2.1), .d (di .i64 g19.2.2.2.1)], .fix 30 [.d (dbool g19.2.2.2.2.1), .d (eS4 g19.2.2.2.2.2.1), .d (di .i64 g19.2.2.2.2.2.2.1)], .fix 30 [.d (dbool g19.2.2.2.2.2.2.2.1), .d (eS4 g19.2.2.2.2.2.2.2.2.1), .d (di .i64 g19.2.2.2.2.2.2.2.2.2)]]) F ((1 : Int), g9.2.1, g9.2.2.1, g9.2.2.2.1, g9.2.2.2.2.1, g9.2.2.2.2.2.1, g9.2.2.2.2.2.2.1, g9.2.2.2.2.2.2.2.1, g9.2.2.2.2.2.2.2.2.1, g9.2.2.2.2.2.2.2.2.2) l16 rfl rfl (LeL.refl _) rfl rfl ?_
    intro n21 g19 h2
    unfold p_LineCentroid_l4 at h2
    refine AC.seq ?_
    refine AC.seq ?_
    refine AC.region ?_
    refine AO.op rfl (AOp.move rfl rfl (ltb rfl) rfl ?_)
    refine AO.op rfl (AOp.move rfl rfl (ltb rfl) rfl ?_)
    refine AO.op rfl (AOp.lenDs (n := x13.length) (cells := (List.flatMap c_TSpec_Point x13)) rfl rfl (ltb rfl) rfl el35 (by decide) (lenN _ 6 (fun _ => rfl) _) ?_)
    refine AO.op rfl (AOp.ilss rfl rfl (ltb rfl) rfl rfl ?_)
    refine AO.nil ?_
    change AC _ _ _ _
    refine AC.cond rfl (fun q22 => ?_) (fun q22 => ?_)
    ·replace h2 := cT h2 q22
     refine AC.skip ?_
     change AC _ _ _ _
     refine AC.seq ?_
     refine AC.block ?_
     refine AC.seq ?_
     refine AC.room ?_
     refine AC.room ?_
     obtain ⟨x23, q24, h2⟩ := idx_elim h2
     obtain ⟨q25, h2⟩ := need_elim h2
     obtain ⟨x26, q27, h2⟩ := idx_elim h2
     obtain ⟨y28, q29, h2⟩ := bind_elim h2
     obtain ⟨y30, q31, h2⟩ := bind_elim h2
     obtain ⟨x32, q33, h2⟩ := idx_elim h2
     obtain ⟨q34, h2⟩ := need_elim h2
     obtain ⟨x35, q36, h2⟩ := idx_elim h2
     obtain ⟨y37, q38, h2⟩ := bind_elim h2
     obtain ⟨y39, q40, h2⟩ := bind_elim h2
     refine AC.drawS [0, 1, 2, 3, 4, 5, 6, 7, 8, 9, 10, 11, 12, 13, 14, 15, 16, 17, 18, 19, 20, 21, 22, 23, 24, 25, 26, 27] [26, 27] [28, 29] (fun L => [.fix 32 [.d (dbool false), .d (.v (.slice none 0 0)), .d (di .i64 (0 : Int)), .d (dbool false), .d (.v (.slice none 0 0)), .d (di .i64 (0 : Int))], .fix 32 [.d (dbool false), .d (.v (.slice none 0 0)), .d (di .i64 (0 : Int)), .d (dbool false), .d (.v (.slice none 0 0)), .d (di .i64 (0 : Int))], .fix 30 [.d (dbool g19.2.1), .d (eS4 g19.2.2.1), .d (di .i64 g19.2.2.2.1)], .fix 30 [.d (dbool g19.2.2.2.2.1), .d (eS4 g19.2.2.2.2.2.1), .d (di .i64 g19.2.2.2.2.2.2.1)], .fix 30 [.d (dbool g19.2.2.2.2.2.2.2.1), .d (eS4 g19.2.2.2.2.2.2.2.2.1), .d (di .i64 g19.2.2.2.2.2.2.2.2.2)], bif L 26 then .fix 30 [.d (dbool false), .d (.v (.slice none 0 0)), .d (di .i64 (0 : Int))] else .dead, bif L 27 then .fix 30 [.d (dbool false), .d (.v (.slice none 0 0)), .d (di .i64 (0 : Int))] else .dead]) [(26, SV.noO2 5 7), (27, SV.noO2 6 7)] mixed (by kernel_rfl) (fun L L' h => by simp only [h 26 (by decide), h 27 (by decide)]) rfl ?_
     refine AS.op [9] [] [] [26, 27] rfl rfl rfl (by kernel_rfl) (by kernel_rfl) rfl rfl (fun _ _ _ h => AOp.move rfl rfl (ltb rfl) rfl h) (by kernel_rfl) ?_
     refine AS.op [10] [] [] [26, 27] rfl rfl rfl (by kernel_rfl) (by kernel_rfl) rfl rfl (fun _ _ _ h => AOp.move rfl rfl (ltb rfl) rfl h) (by kernel_rfl) ?_
     refine AS.op [30, 31] [] [] [26, 27] rfl rfl rfl (by kernel_rfl) (by kernel_rfl) rfl rfl (fun _ _ _ h => AOp.indexDs (cells := (List.flatMap c_TSpec_Point x13)) rfl rfl (ltb rfl) rfl rfl el35 (by decide) q24.1 (ltN 6 (fun _ => rfl) (by decide) q24.2) h) (by kernel_rfl) ?_
     refine AS.op [32] [] [] [26, 27] rfl rfl rfl (by kernel_rfl) (by kernel_rfl) rfl rfl (fun _ _ _ h => AOp.fieldAddrEp rfl rfl (ltb rfl) rfl fo38_0 h) (by kernel_rfl) ?_
     refine AS.op [33] [] [] [26, 27] rfl rfl rfl (by kernel_rfl) (by kernel_rfl) rfl rfl (fun _ _ _ h => AOp.loadEpN rfl rfl (ltb rfl) rfl agg30 size30 (leNs 6 (fun _ => rfl) q24.2 0 3 (by decide)) (atNs 6 (fun _ => rfl) q24.2 0 3 (by decide) rfl) h) (by kernel_rfl) ?_
     refine AS.op [9] [] [] [26, 27] rfl rfl rfl (by kernel_rfl) (by kernel_rfl) rfl rfl (fun _ _ _ h => AOp.move rfl rfl (ltb rfl) rfl h) (by kernel_rfl) ?_
     refine AS.op [10] [] [] [26, 27] rfl rfl rfl (by kernel_rfl) (by kernel_rfl) rfl rfl (fun _ _ _ h => AOp.move rfl rfl (ltb rfl) rfl h) (by kernel_rfl) ?_
     refine AS.op [36] [] [] [26, 27] rfl rfl rfl (by kernel_rfl) (by kernel_rfl) rfl rfl (fun _ _ _ h => AOp.isub rfl rfl (ltb rfl) rfl rfl rfl q25.1 q25.2 h) (by kernel_rfl) ?_
     refine AS.op [35, 37] [] [] [26, 27] rfl rfl rfl (by kernel_rfl) (by kernel_rfl) rfl rfl (fun _ _ _ h => AOp.indexDs (cells := (List.flatMap c_TSpec_Point x13)) rfl rfl (ltb rfl) rfl rfl el35 (by decide) q27.1 (ltN 6 (fun _ => rfl) (by decide) q27.2) h) (by kernel_rfl) ?_
     refine AS.op [38] [] [] [26, 27] rfl rfl rfl (by kernel_rfl) (by kernel_rfl) rfl rfl (fun _ _ _ h => AOp.fieldAddrEp rfl rfl (ltb rfl) rfl fo38_0 h) (by kernel_rfl) ?_
     refine AS.op [39] [] [] [26, 27] rfl rfl rfl (by kernel_rfl) (by kernel_rfl) rfl rfl (fun _ _ _ h => AOp.loadEpN rfl rfl (ltb rfl) rfl agg30 size30 (leNs 6 (fun _ => rfl) q27.2 0 3 (by decide)) (atNs 6 (fun _ => rfl) q27.2 0 3 (by decide) rfl) h) (by kernel_rfl) ?_
     refine AS.op [34, 40] [] [] [26, 27] rfl rfl rfl (by kernel_rfl) (by kernel_rfl) rfl rfl (fun _ _ _ h => AOp.callD rfl rfl (ltb rfl) rfl rfl (w_Dyadic_Sub F x23.X x26.X y28 q29) (by rintro _ rfl; exact h)) (by kernel_rfl) ?_
     refine AS.op [41] [] [] [26, 27] rfl rfl rfl (by kernel_rfl) (by kernel_rfl) rfl rfl (fun _ _ _ h => AOp.callD rfl rfl (ltb rfl) rfl rfl (w_Dyadic_Abs y28 y30 q31) (by rintro _ rfl; exact h)) (by kernel_rfl) ?_
     refine AS.op [9] [] [] [26, 27] rfl rfl rfl (by kernel_rfl) (by kernel_rfl) rfl rfl (fun _ _ _ h => AOp.move rfl rfl (ltb rfl) rfl h) (by kernel_rfl) ?_
     refine AS.op [10] [] [] [26, 27] rfl rfl rfl (by kernel_rfl) (by kernel_rfl) rfl rfl (fun _ _ _ h => AOp.move rfl rfl (ltb rfl) rfl h) (by kernel_rfl) ?_
     refine AS.op [43, 44] [] [] [26, 27] rfl rfl rfl (by kernel_rfl) (by kernel_rfl) rfl rfl (fun _ _ _ h => AOp.indexDs (cells := (List.flatMap c_TSpec_Point x13)) rfl rfl (ltb rfl) rfl rfl el35 (by decide) q33.1 (ltN 6 (fun _ => rfl) (by decide) q33.2) h) (by kernel_rfl) ?_
     refine AS.op [45] [] [] [26, 27] rfl rfl rfl (by kernel_rfl) (by kernel_rfl) rfl rfl (fun _ _ _ h => AOp.fieldAddrEp rfl rfl (ltb rfl) rfl fo38_1 h) (by kernel_rfl) ?_
     refine AS.op [46] [] [] [26, 27] rfl rfl rfl (by kernel_rfl) (by kernel_rfl) rfl rfl (fun _ _ _ h => AOp.loadEpN rfl rfl (ltb rfl) rfl agg30 size30 (leNs 6 (fun _ => rfl) q33.2 3 3 (by decide)) (atNs 6 (fun _ => rfl) q33.2 3 3 (by decide) rfl) h) (by kernel_rfl) ?_
     refine AS.op [9] [] [] [26, 27] rfl rfl rfl (by kernel_rfl) (by kernel_rfl) rfl rfl (fun _ _ _ h => AOp.move rfl rfl (ltb rfl) rfl h) (by kernel_rfl) ?_
     refine AS.op [10] [] [] [26, 27] rfl rfl rfl (by kernel_rfl) (by kernel_rfl) rfl rfl (fun _ _ _ h => AOp.move rfl rfl (ltb rfl) rfl h) (by kernel_rfl) ?_
     refine AS.op [49] [] [] [26, 27] rfl rfl rfl (by kernel_rfl) (by kernel_rfl) rfl rfl (fun _ _ _ h => AOp.isub rfl rfl (ltb rfl) rfl rfl rfl q34.1 q34.2 h) (by kernel_rfl) ?_
     refine AS.op [48, 50] [] [] [26, 27] rfl rfl rfl (by kernel_rfl) (by kernel_rfl) rfl rfl (fun _ _ _ h => AOp.indexDs (cells := (List.flatMap c_TSpec_Point x13)) rfl rfl (ltb rfl) rfl rfl el35 (by decide) q36.1 (ltN 6 (fun _ => rfl) (by decide) q36.2) h) (by kernel_rfl) ?_
     refine AS.op [51] [] [] [26, 27] rfl rfl rfl (by kernel_rfl) (by kernel_rfl) rfl rfl (fun _ _ _ h => AOp.fieldAddrEp rfl rfl (ltb rfl) rfl fo38_1 h) (by kernel_rfl) ?_
     refine AS.op [52] [] [] [26, 27] rfl rfl rfl (by kernel_rfl) (by kernel_rfl) rfl rfl (fun _ _ _ h => AOp.loadEpN rfl rfl (ltb rfl) rfl agg30 size30 (leNs 6 (fun _ => rfl) q36.2 3 3 (by decide)) (atNs 6 (fun _ => rfl) q36.2 3 3 (by decide) rfl) h) (by kernel_rfl) ?_
     refine AS.op [47, 53] [] [] [26, 27] rfl rfl rfl (by kernel_rfl) (by kernel_rfl) rfl rfl (fun _ _ _ h => AOp.callD rfl rfl (ltb rfl) rfl rfl (w_Dyadic_Sub F x32.Y x35.Y y37 q38) (by rintro _ rfl; exact h)) (by kernel_rfl) ?_
     refine AS.op [54] [] [] [26, 27] rfl rfl rfl (by kernel_rfl) (by kernel_rfl) rfl rfl (fun _ _ _ h => AOp.callD rfl rfl (ltb rfl) rfl rfl (w_Dyadic_Abs y37 y39 q40) (by rintro _ rfl; exact h)) (by kernel_rfl) ?_
     refine AS.mid [] [] [26] [27] rfl rfl rfl rfl (by kernel_rfl) (by kernel_rfl) rfl rfl (fun _ _ _ h => AOp.alloc rfl rfl (ltb rfl) zero30 rfl (AO.sink 5 7 rfl rfl rfl (.cons rfl (.cons rfl (.cons rfl (.cons rfl (.cons rfl (.cons (noO2_cond rfl rfl) (.cons (noO2_cond rfl rfl) .nil))))))) rfl h)) (by kernel_rfl) rfl ?_
     refine AS.mid [] [] [27] [26] rfl rfl rfl rfl (by kernel_rfl) (by kernel_rfl) rfl rfl (fun _ _ _ h => AOp.alloc rfl rfl (ltb rfl) zero30 rfl (AO.sink 6 7 rfl rfl rfl (.cons rfl (.cons rfl (.cons rfl (.cons rfl (.cons rfl (.cons (noO2_cond rfl rfl) (.cons (noO2_cond rfl rfl) .nil))))))) rfl h)) (by kernel_rfl) rfl ?_
     refine AS.done ?_
     refine AO.objs (obs' := [.fix 32 [.d (dbool false), .d (.v (.slice none 0 0)), .d (di .i64 (0 : Int)), .d (dbool false), .d (.v (.slice none 0 0)), .d (di .i64 (0 : Int))], .fix 32 [.d (dbool false), .d (.v (.slice none 0 0)), .d (di .i64 (0 : Int)), .d (dbool false), .d (.v (.slice none 0 0)), .d (di .i64 (0 : Int))], .fix 30 [.d (dbool g19.2.1), .d (eS4 g19.2.2.1), .d (di .i64 g19.2.2.2.1)], .fix 30 [.d (dbool g19.2.2.2.2.1), .d (eS4 g19.2.2.2.2.2.1), .d (di .i64 g19.2.2.2.2.2.2.1)], .fix 30 [.d (dbool g19.2.2.2.2.2.2.2.1), .d (eS4 g19.2.2.2.2.2.2.2.2.1), .d (di .i64 g19.2.2.2.2.2.2.2.2.2)], .fix 30 [.d (dbool false), .d (.v (.slice none 0 0)), .d (di .i64 (0 : Int))], .fix 30 [.d (dbool false), .d (.v (.slice none 0 0)), .d (di .i64 (0 : Int))]]) rfl ?_
     refine AO.op rfl (AOp.store rfl rfl rfl rfl size30 rfl rfl rfl (leb rfl) ?_)
     refine AO.op rfl (AOp.store rfl rfl rfl rfl size30 rfl rfl rfl (leb rfl) ?_)
     refine AO.nil ?_
     change AC _ _ _ _
     refine AC.seq ?_
     refine AC.joinP (V := Bool) [2, 3, 5, 6, 7, 9, 10, 11, 12, 18, 19, 20] [63] 7 (fun g41 => [(63, .d (dbool g41))]) (fun g41 => [.fix 32 [.d (dbool false), .d (.v (.slice none 0 0)), .d (di .i64 (0 : Int)), .d (dbool false), .d (.v (.slice none 0 0)), .d (di .i64 (0 : Int))], .fix 32 [.d (dbool false), .d (.v (.slice none 0 0)), .d (di .i64 (0 : Int)), .d (dbool false), .d (.v (.slice none 0 0)), .d (di .i64 (0 : Int))], .fix 30 [.d (dbool g19.2.1), .d (eS4 g19.2.2.1), .d (di .i64 g19.2.2.2.1)], .fix 30 [.d (dbool g19.2.2.2.2.1), .d (eS4 g19.2.2.2.2.2.1), .d (di .i64 g19.2.2.2.2.2.2.1)], .fix 30 [.d (dbool g19.2.2.2.2.2.2.2.1), .d (eS4 g19.2.2.2.2.2.2.2.2.1), .d (di .i64 g19.2.2.2.2.2.2.2.2.2)], .fix 30 [.d (dbool y30.N.Neg), .d (eS4 y30.N.L), .d (di .i64 y30.E)], .fix 30 [.d (dbool y39.N.Neg), .d (eS4 y39.N.L), .d (di .i64 y39.E)]]) (fun g41 => (p_LineCentroid_k5 F x13 g19 (iter (p_LineCentroid_l4 F x13) n21) y30 y39) g41 = some o15) rfl ?_ ?_
     ·refine AC.region ?_
      refine AO.op rfl (AOp.loadN rfl rfl (ltb rfl) rfl agg30 size30 rfl (leb rfl) rfl ?_)
      obtain ⟨y70, q71, h2⟩ := bind_elim h2
      refine AO.op rfl (AOp.callD rfl rfl (ltb rfl) rfl rfl (w_Dyadic_Sign y30 y70 q71) ?_)
      rintro _ rfl
      refine AO.op rfl (AOp.ineq rfl rfl (ltb rfl) rfl rfl ?_)
      refine AO.op rfl (AOp.move rfl rfl (ltb rfl) rfl ?_)
      refine AO.dec (!decide (y70 = (0 : Int))) (fun q72 => ?_) (fun q72 => ?_)
      ·replace h2 := cT h2 q72
       refine AO.guardY rfl rfl rfl q72 (AOp.loadN rfl rfl (ltb rfl) rfl agg30 size30 rfl (leb rfl) rfl ?_)
       obtain ⟨y73, q74, h2⟩ := bind_elim h2
       refine AO.guardY rfl rfl rfl q72 (AOp.callD rfl rfl (ltb rfl) rfl rfl (w_Dyadic_Sign y39 y73 q74) ?_)
       rintro _ rfl
       refine AO.guardY rfl rfl rfl q72 (AOp.ineq rfl rfl (ltb rfl) rfl rfl ?_)
       refine AO.op rfl (AOp.pick rfl rfl (ltb rfl) rfl q72 rfl ?_)
       refine AO.nil ?_
       exact ⟨(!decide (y73 = (0 : Int))), _, rfl, (LeL.refl _), rfl, rfl, h2⟩
      replace h2 := cF h2 q72
      refine AO.guardN rfl rfl rfl (ltb rfl) rfl q72 ?_
      refine AO.guardN rfl rfl rfl (ltb rfl) rfl q72 ?_
      refine AO.guardN rfl rfl rfl (ltb rfl) rfl q72 ?_
      refine AO.op rfl (AOp.pickN rfl rfl (ltb rfl) rfl q72 rfl ?_)
      refine AO.nil ?_
      exact ⟨false, _, rfl, (LeL.refl _), rfl, rfl, h2⟩
     intro g41 h2
     unfold p_LineCentroid_k5 at h2
     refine AC.cond rfl (fun q42 => ?_) (fun q42 => ?_)
     ·replace h2 := cT h2 q42
      refine AC.seq ?_
      refine AC.region ?_
      refine AO.op rfl (AOp.build rfl rfl (ltb rfl) zero32 rfl places32 rfl rfl ?_)
      refine AO.op rfl (AOp.build rfl rfl (ltb rfl) zero32 rfl places32 rfl rfl ?_)
      refine AO.op rfl (AOp.store rfl rfl rfl rfl size32 rfl rfl rfl (leb rfl) ?_)
      refine AO.op rfl (AOp.store rfl rfl rfl rfl size32 rfl rfl rfl (leb rfl) ?_)
      refine AO.op rfl (AOp.assign rfl rfl (ltb rfl) rfl ?_)
      refine AO.nil ?_
      change AC _ _ _ _
      refine AC.subO 0 rfl (.cons (SVLe.refl _) (.cons (SVLe.nil 1) (.cons (SVLe.refl _) (.cons (SVLe.refl _) (.cons (SVLe.nil 1) (.cons (SVLe.refl _) .nil)))))) ?_
      refine AC.subO 1 rfl (.cons (SVLe.refl _) (.cons (SVLe.nil 1) (.cons (SVLe.refl _) (.cons (SVLe.refl _) (.cons (SVLe.nil 1) (.cons (SVLe.refl _) .nil)))))) ?_
      refine AC.ret ?_
      change RetQ _ _ _ .ret _
      obtain rfl := Option.some.inj h2
      replace h1 := aftR h1
      obtain rfl := Option.some.inj h1
      replace h0 := aftR h0
      obtain rfl := Option.some.inj h0
      refine retq rfl rfl
     replace h2 := cF h2 q42
     refine AC.skip ?_
     change AC _ _ _ _
     refine AC.seq ?_
     refine AC.region ?_
     refine AO.op rfl (AOp.loadN rfl rfl (ltb rfl) rfl agg30 size30 rfl (leb rfl) rfl ?_)
     refine AO.op rfl (AOp.loadN rfl rfl (ltb rfl) rfl agg30 size30 rfl (leb rfl) rfl ?_)
     obtain ⟨y43, q44, h2⟩ := bind_elim h2
     refine AO.op rfl (AOp.callD rfl rfl (ltb rfl) rfl rfl (w_Dyadic_Add F y30 y39 y43 q44) ?_)
     rintro _ rfl
     refine AO.op rfl (AOp.alloc rfl rfl (ltb rfl) zero30 rfl ?_)
     refine AO.op rfl (AOp.store rfl rfl rfl rfl size30 rfl rfl rfl (leb rfl) ?_)
     refine AO.nil ?_
     change AC _ _ _ _
     refine AC.draw 35 mixed (by kernel_rfl) ?_
     refine AD.op [5] rfl (by kernel_rfl) rfl rfl (fun _ _ h => AOp.loadN rfl rfl (ltb rfl) rfl agg30 size30 rfl (leb rfl) rfl h) ?_
     refine AD.op [13] rfl (by kernel_rfl) rfl rfl (fun _ _ h => AOp.loadN rfl rfl (ltb rfl) rfl agg30 size30 rfl (leb rfl) rfl h) ?_
     obtain ⟨y45, q46, h2⟩ := bind_elim h2
     refine AD.op [69, 70] rfl (by kernel_rfl) rfl rfl (fun _ _ h => AOp.callD rfl rfl (ltb rfl) rfl rfl (w_Dyadic_Add F (TSpec_Dyadic.mk (TSpec_Whole.mk g19.2.1 g19.2.2.1) g19.2.2.2.1) y43 y45 q46) (by rintro _ rfl; exact h)) ?_
     refine AD.op [6] rfl (by kernel_rfl) rfl rfl (fun _ _ h => AOp.loadN rfl rfl (ltb rfl) rfl agg30 size30 rfl (leb rfl) rfl h) ?_
     refine AD.op [13] rfl (by kernel_rfl) rfl rfl (fun _ _ h => AOp.loadN rfl rfl (ltb rfl) rfl agg30 size30 rfl (leb rfl) rfl h) ?_
     refine AD.op [9] rfl (by kernel_rfl) rfl rfl (fun _ _ h => AOp.move rfl rfl (ltb rfl) rfl h) ?_
     refine AD.op [10] rfl (by kernel_rfl) rfl rfl (fun _ _ h => AOp.move rfl rfl (ltb rfl) rfl h) ?_
     obtain ⟨x47, q48, h2⟩ := idx_elim h2
     refine AD.op [74, 75] rfl (by kernel_rfl) rfl rfl (fun _ _ h => AOp.indexDs (cells := (List.flatMap c_TSpec_Point x13)) rfl rfl (ltb rfl) rfl rfl el35 (by decide) q48.1 (ltN 6 (fun _ => rfl) (by decide) q48.2) h) ?_
     refine AD.op [76] rfl (by kernel_rfl) rfl rfl (fun _ _ h => AOp.fieldAddrEp rfl rfl (ltb rfl) rfl fo38_0 h) ?_
     refine AD.op [77] rfl (by kernel_rfl) rfl rfl (fun _ _ h => AOp.loadEpN rfl rfl (ltb rfl) rfl agg30 size30 (leNs 6 (fun _ => rfl) q48.2 0 3 (by decide)) (atNs 6 (fun _ => rfl) q48.2 0 3 (by decide) rfl) h) ?_
     refine AD.op [9] rfl (by kernel_rfl) rfl rfl (fun _ _ h => AOp.move rfl rfl (ltb rfl) rfl h) ?_
     refine AD.op [10] rfl (by kernel_rfl) rfl rfl (fun _ _ h => AOp.move rfl rfl (ltb rfl) rfl h) ?_
     obtain ⟨q49, h2⟩ := need_elim h2
     refine AD.op [80] rfl (by kernel_rfl) rfl rfl (fun _ _ h => AOp.isub rfl rfl (ltb rfl) rfl rfl rfl q49.1 q49.2 h) ?_
     obtain ⟨x50, q51, h2⟩ := idx_elim h2
     refine AD.op [79, 81] rfl (by kernel_rfl) rfl rfl (fun _ _ h => AOp.indexDs (cells := (List.flatMap c_TSpec_Point x13)) rfl rfl (ltb rfl) rfl rfl el35 (by decide) q51.1 (ltN 6 (fun _ => rfl) (by decide) q51.2) h) ?_
     refine AD.op [82] rfl (by kernel_rfl) rfl rfl (fun _ _ h => AOp.fieldAddrEp rfl rfl (ltb rfl) rfl fo38_0 h) ?_
     refine AD.op [83] rfl (by kernel_rfl) rfl rfl (fun _ _ h => AOp.loadEpN rfl rfl (ltb rfl) rfl agg30 size30 (leNs 6 (fun _ => rfl) q51.2 0 3 (by decide)) (atNs 6 (fun _ => rfl) q51.2 0 3 (by decide) rfl) h) ?_
     obtain ⟨y52, q53, h2⟩ := bind_elim h2
     refine AD.op [78, 84] rfl (by kernel_rfl) rfl rfl (fun _ _ h => AOp.callD rfl rfl (ltb rfl) rfl rfl (w_Dyadic_Add F x47.X x50.X y52 q53) (by rintro _ rfl; exact h)) ?_
     obtain ⟨y54, q55, h2⟩ := bind_elim h2
     refine AD.op [73, 85] rfl (by kernel_rfl) rfl rfl (fun _ _ h => AOp.callD rfl rfl (ltb rfl) rfl rfl (w_Dyadic_Mul F y43 y52 y54 q55) (by rintro _ rfl; exact h)) ?_
     obtain ⟨y56, q57, h2⟩ := bind_elim h2
     refine AD.op [72, 86] rfl (by kernel_rfl) rfl rfl (fun _ _ h => AOp.callD rfl rfl (ltb rfl) rfl rfl (w_Dyadic_Add F (TSpec_Dyadic.mk (TSpec_Whole.mk g19.2.2.2.2.1 g19.2.2.2.2.2.1) g19.2.2.2.2.2.2.1) y54 y56 q57) (by rintro _ rfl; exact h)) ?_
     refine AD.op [7] rfl (by kernel_rfl) rfl rfl (fun _ _ h => AOp.loadN rfl rfl (ltb rfl) rfl agg30 size30 rfl (leb rfl) rfl h) ?_
     refine AD.op [13] rfl (by kernel_rfl) rfl rfl (fun _ _ h => AOp.loadN rfl rfl (ltb rfl) rfl agg30 size30 rfl (leb rfl) rfl h) ?_
     refine AD.op [9] rfl (by kernel_rfl) rfl rfl (fun _ _ h => AOp.move rfl rfl (ltb rfl) rfl h) ?_
     refine AD.op [10] rfl (by kernel_rfl) rfl rfl (fun _ _ h => AOp.move rfl rfl (ltb rfl) rfl h) ?_
     obtain ⟨x58, q59, h2⟩ := idx_elim h2
     refine AD.op [90, 91] rfl (by kernel_rfl) rfl rfl (fun _ _ h => AOp.indexDs (cells := (List.flatMap c_TSpec_Point x13)) rfl rfl (ltb rfl) rfl rfl el35 (by decide) q59.1 (ltN 6 (fun _ => rfl) (by decide) q59.2) h) ?_
     refine AD.op [92] rfl (by kernel_rfl) rfl rfl (fun _ _ h => AOp.fieldAddrEp rfl rfl (ltb rfl) rfl fo38_1 h) ?_
     refine AD.op [93] rfl (by kernel_rfl) rfl rfl (fun _ _ h => AOp.loadEpN rfl rfl (ltb rfl) rfl agg30 size30 (leNs 6 (fun _ => rfl) q59.2 3 3 (by decide)) (atNs 6 (fun _ => rfl) q59.2 3 3 (by decide) rfl) h) ?_
     refine AD.op [9] rfl (by kernel_rfl) rfl rfl (fun _ _ h => AOp.move rfl rfl (ltb rfl) rfl h) ?_
     refine AD.op [10] rfl (by kernel_rfl) rfl rfl (fun _ _ h => AOp.move rfl rfl (ltb rfl) rfl h) ?_
     obtain ⟨q60, h2⟩ := need_elim h2
     refine AD.op [96] rfl (by kernel_rfl) rfl rfl (fun _ _ h => AOp.isub rfl rfl (ltb rfl) rfl rfl rfl q60.1 q60.2 h) ?_
     obtain ⟨x61, q62, h2⟩ := idx_elim h2
     refine AD.op [95, 97] rfl (by kernel_rfl) rfl rfl (fun _ _ h => AOp.indexDs (cells := (List.flatMap c_TSpec_Point x13)) rfl rfl (ltb rfl) rfl rfl el35 (by decide) q62.1 (ltN 6 (fun _ => rfl) (by decide) q62.2) h) ?_
     refine AD.op [98] rfl (by kernel_rfl) rfl rfl (fun _ _ h => AOp.fieldAddrEp rfl rfl (ltb rfl) rfl fo38_1 h) ?_
     refine AD.op [99] rfl (by kernel_rfl) rfl rfl (fun _ _ h => AOp.loadEpN rfl rfl (ltb rfl) rfl agg30 size30 (leNs 6 (fun _ => rfl) q62.2 3 3 (by decide)) (atNs 6 (fun _ => rfl) q62.2 3 3 (by decide) rfl) h) ?_
     obtain ⟨y63, q64, h2⟩ := bind_elim h2
     refine AD.op [94, 100] rfl (by kernel_rfl) rfl rfl (fun _ _ h => AOp.callD rfl rfl (ltb rfl) rfl rfl (w_Dyadic_Add F x58.Y x61.Y y63 q64) (by rintro _ rfl; exact h)) ?_
     obtain ⟨y65, q66, h2⟩ := bind_elim h2
     refine AD.op [89, 101] rfl (by kernel_rfl) rfl rfl (fun _ _ h => AOp.callD rfl rfl (ltb rfl) rfl rfl (w_Dyadic_Mul F y43 y63 y65 q66) (by rintro _ rfl; exact h)) ?_
     obtain ⟨y67, q68, h2⟩ := bind_elim h2
     refine AD.op [88, 102] rfl (by kernel_rfl) rfl rfl (fun _ _ h => AOp.callD rfl rfl (ltb rfl) rfl rfl (w_Dyadic_Add F (TSpec_Dyadic.mk (TSpec_Whole.mk g19.2.2.2.2.2.2.2.1 g19.2.2.2.2.2.2.2.2.1) g19.2.2.2.2.2.2.2.2.2) y65 y67 q68) (by rintro _ rfl; exact h)) ?_
     refine AD.done ?_
     refine AO.op rfl (AOp.store rfl rfl rfl rfl size30 rfl rfl rfl (leb rfl) ?_)
     refine AO.op rfl (AOp.store rfl rfl rfl rfl size30 rfl rfl rfl (leb rfl) ?_)
     refine AO.op rfl (AOp.store rfl rfl rfl rfl size30 rfl rfl rfl (leb rfl) ?_)
     refine AO.nil ?_
     change AC _ _ _ _
     refine AC.region ?_
     refine AO.op rfl (AOp.move rfl rfl (ltb rfl) rfl ?_)
     obtain ⟨q69, h2⟩ := need_elim h2
     refine AO.op rfl (AOp.iadd rfl rfl (ltb rfl) rfl rfl rfl q69.1 q69.2 ?_)
     refine AO.op rfl (AOp.assign rfl rfl (ltb rfl) rfl ?_)
     refine AO.nil ?_
     exact ⟨((g19.1 + (1 : Int)), y45.N.Neg, y45.N.L, y45.E, y56.N.Neg, y56.N.L, y56.E, y67.N.Neg, y67.N.L, y67.E), _, rfl, (LeL.refl _), rfl, rfl, h2⟩
    replace h2 := cF h2 q22
    refine AC.exit ?_
    obtain rfl := Option.some.inj h2
    exact ⟨(g19.2.1, g19.2.2.1, g19.2.2.2.1, g19.2.2.2.2.1, g19.2.2.2.2.2.1, g19.2.2.2.2.2.2.1, g19.2.2.2.2.2.2.2.1, g19.2.2.2.2.2.2.2.2.1, g19.2.2.2.2.2.2.2.2.2), _, rfl, (LeL.refl _), rfl, rfl, aftL h1⟩
   intro g17 h1
   unfold p_LineCentroid_k3 at h1
   change AC _ _ _ _
   refine AC.region ?_
   obtain ⟨q18, h1⟩ := need_elim h1
   refine AO.op rfl (AOp.iadd rfl rfl (ltb rfl) rfl rfl rfl q18.1 q18.2 ?_)
   refine AO.op rfl (AOp.move rfl rfl (ltb rfl) rfl ?_)
   refine AO.nil ?_
   exact ⟨((g9.1 + (1 : Int)), g17.1, g17.2.1, g17.2.2.1, g17.2.2.2.1, g17.2.2.2.2.1, g17.2.2.2.2.2.1, g17.2.2.2.2.2.2.1, g17.2.2.2.2.2.2.2.1, g17.2.2.2.2.2.2.2.2), _, rfl, (LeL.refl _), rfl, rfl, h1⟩
  replace h1 := cF h1 q12
  refine AC.exit ?_
  obtain rfl := Option.some.inj h1
  exact ⟨(g9.2.1, g9.2.2.1, g9.2.2.2.1, g9.2.2.2.2.1, g9.2.2.2.2.2.1, g9.2.2.2.2.2.2.1, g9.2.2.2.2.2.2.2.1, g9.2.2.2.2.2.2.2.2.1, g9.2.2.2.2.2.2.2.2.2), _, rfl, (LeL.refl _), rfl, rfl, aftL h0⟩
 intro g3 h0
 unfold p_LineCentroid_k1 at h0
 change AC _ _ _ _
 refine AC.seq ?_
 refine AC.seq ?_
 refine AC.region ?_
 refine AO.op rfl (AOp.loadN rfl rfl (ltb rfl) rfl agg30 size30 rfl (leb rfl) rfl ?_)
 obtain ⟨y4, q5, h0⟩ := bind_elim h0
 refine AO.op rfl (AOp.callD rfl rfl (ltb rfl) rfl rfl (w_Dyadic_Sign (TSpec_Dyadic.mk (TSpec_Whole.mk g3.1 g3.2.1) g3.2.2.1) y4 q5) ?_)
 rintro _ rfl
 refine AO.op rfl (AOp.ieql rfl rfl (ltb rfl) rfl rfl ?_)
 refine AO.nil ?_
 change AC _ _ _ _
 refine AC.cond rfl (fun q6 => ?_) (fun q6 => ?_)
 ·replace h0 := cT h0 q6
  refine AC.seq ?_
  refine AC.region ?_
  refine AO.op rfl (AOp.build rfl rfl (ltb rfl) zero32 rfl places32 rfl rfl ?_)
  refine AO.op rfl (AOp.build rfl rfl (ltb rfl) zero32 rfl places32 rfl rfl ?_)
  refine AO.op rfl (AOp.store rfl rfl rfl rfl size32 rfl rfl rfl (leb rfl) ?_)
  refine AO.op rfl (AOp.store rfl rfl rfl rfl size32 rfl rfl rfl (leb rfl) ?_)
  refine AO.op rfl (AOp.assign rfl rfl (ltb rfl) rfl ?_)
  refine AO.nil ?_
  change AC _ _ _ _
  refine AC.subO 0 rfl (.cons (SVLe.refl _) (.cons (SVLe.nil 1) (.cons (SVLe.refl _) (.cons (SVLe.refl _) (.cons (SVLe.nil 1) (.cons (SVLe.refl _) .nil)))))) ?_
  refine AC.subO 1 rfl (.cons (SVLe.refl _) (.cons (SVLe.nil 1) (.cons (SVLe.refl _) (.cons (SVLe.refl _) (.cons (SVLe.nil 1) (.cons (SVLe.refl _) .nil)))))) ?_
  refine AC.ret ?_
  change RetQ _ _ _ .ret _
  obtain rfl := Option.some.inj h0
  refine retq rfl rfl
 replace h0 := cF h0 q6
 refine AC.skip ?_
 change AC _ _ _ _
 refine AC.seq ?_
 refine AC.region ?_
 refine AO.op rfl (AOp.loadN rfl rfl (ltb rfl) rfl agg30 size30 rfl (leb rfl) rfl ?_)
 obtain ⟨y7, q8, h0⟩ := bind_elim h0
 refine AO.op rfl (AOp.callD rfl rfl (ltb rfl) rfl rfl (w_Dyadic_Shift (TSpec_Dyadic.mk (TSpec_Whole.mk g3.1 g3.2.1) g3.2.2.1) (1 : Int) y7 q8) ?_)
 rintro _ rfl
 refine AO.op rfl (AOp.alloc rfl rfl (ltb rfl) zero30 rfl ?_)
 refine AO.op rfl (AOp.store rfl rfl rfl rfl size30 rfl rfl rfl (leb rfl) ?_)
 refine AO.nil ?_
 change AC _ _ _ _
 refine AC.seq ?_
 refine AC.drawS [0, 1, 2, 3, 4, 5, 6] [6] [7, 8] (fun L => [.fix 32 [(bif L 6 then .d (dbool g3.2.2.2.1) else .d (dbool false)), (bif L 6 then .d (eS4 g3.2.2.2.2.1) else .d (.v (.slice none 0 0))), (bif L 6 then .d (di .i64 g3.2.2.2.2.2.1) else .d (di .i64 (0 : Int))), (bif L 6 then .d (dbool y7.N.Neg) else .d (dbool false)), (bif L 6 then .d (eS4 y7.N.L) else .d (.v (.slice none 0 0))), (bif L 6 then .d (di .i64 y7.E) else .d (di .i64 (0 : Int)))], .fix 32 [.d (dbool false), .d (.v (.slice none 0 0)), .d (di .i64 (0 : Int)), .d (dbool false), .d (.v (.slice none 0 0)), .d (di .i64 (0 : Int))], .fix 30 [.d (dbool g3.1), .d (eS4 g3.2.1), .d (di .i64 g3.2.2.1)], .fix 30 [.d (dbool g3.2.2.2.1), .d (eS4 g3.2.2.2.2.1), .d (di .i64 g3.2.2.2.2.2.1)], .fix 30 [.d (dbool g3.2.2.2.2.2.2.1), .d (eS4 g3.2.2.2.2.2.2.2.1), .d (di .i64 g3.2.2.2.2.2.2.2.2)], .fix 30 [.d (dbool y7.N.Neg), .d (eS4 y7.N.L), .d (di .i64 y7.E)]]) [(6, (fun _ => true))] mixed (by kernel_rfl) (fun L L' h => by simp only [h 6 (by decide)]) rfl ?_
 refine AS.op [6] [] [6] [] rfl rfl rfl (by kernel_rfl) (by kernel_rfl) rfl rfl (fun _ _ _ h => AOp.loadN rfl rfl (ltb rfl) rfl agg30 size30 rfl (leb rfl) rfl h) (by kernel_rfl) ?_
 refine AS.op [14] [] [6] [] rfl rfl rfl (by kernel_rfl) (by kernel_rfl) rfl rfl (fun _ _ _ h => AOp.loadN rfl rfl (ltb rfl) rfl agg30 size30 rfl (leb rfl) rfl h) (by kernel_rfl) ?_
 refine AS.op [112, 113] [] [6] [] rfl rfl rfl (by kernel_rfl) (by kernel_rfl) rfl rfl (fun _ _ _ h => AOp.build rfl rfl (ltb rfl) zero32 rfl places32 rfl rfl h) (by kernel_rfl) ?_
 refine AS.op [7] [] [] [6] rfl rfl rfl (by kernel_rfl) (by kernel_rfl) rfl rfl (fun _ _ _ h => AOp.loadN rfl rfl (ltb rfl) rfl agg30 size30 rfl (leb rfl) rfl h) (by kernel_rfl) ?_
 refine AS.op [14] [] [] [6] rfl rfl rfl (by kernel_rfl) (by kernel_rfl) rfl rfl (fun _ _ _ h => AOp.loadN rfl rfl (ltb rfl) rfl agg30 size30 rfl (leb rfl) rfl h) (by kernel_rfl) ?_
 refine AS.op [115, 116] [] [] [6] rfl rfl rfl (by kernel_rfl) (by kernel_rfl) rfl rfl (fun _ _ _ h => AOp.build rfl rfl (ltb rfl) zero32 rfl places32 rfl rfl h) (by kernel_rfl) ?_
 refine AS.mid0 [2, 114] [] [6] [] rfl rfl rfl rfl (by kernel_rfl) (by kernel_rfl) rfl rfl (fun _ _ _ h => AOp.store rfl rfl rfl rfl size32 rfl rfl rfl (leb rfl) (AO.dropT h)) (by kernel_rfl) rfl ?_
 refine AS.done ?_
 refine AO.objs (obs' := [.fix 32 [.d (dbool g3.2.2.2.1), .d (eS4 g3.2.2.2.2.1), .d (di .i64 g3.2.2.2.2.2.1), .d (dbool y7.N.Neg), .d (eS4 y7.N.L), .d (di .i64 y7.E)], .fix 32 [.d (dbool false), .d (.v (.slice none 0 0)), .d (di .i64 (0 : Int)), .d (dbool false), .d (.v (.slice none 0 0)), .d (di .i64 (0 : Int))], .fix 30 [.d (dbool g3.1), .d (eS4 g3.2.1), .d (di .i64 g3.2.2.1)], .fix 30 [.d (dbool g3.2.2.2.1), .d (eS4 g3.2.2.2.2.1), .d (di .i64 g3.2.2.2.2.2.1)], .fix 30 [.d (dbool g3.2.2.2.2.2.2.1), .d (eS4 g3.2.2.2.2.2.2.2.1), .d (di .i64 g3.2.2.2.2.2.2.2.2)], .fix 30 [.d (dbool y7.N.Neg), .d (eS4 y7.N.L), .d (di .i64 y7.E)]]) rfl ?_
 refine AO.op rfl (AOp.store rfl rfl rfl rfl size32 rfl rfl rfl (leb rfl) ?_)
 refine AO.op rfl (AOp.assign rfl rfl (ltb rfl) rfl ?_)
 refine AO.nil ?_
 change AC _ _ _ _
 refine AC.ret ?_
 change RetQ _ _ _ .ret _
 obtain rfl := Option.some.inj h0
 refine retq rfl rfl

set_option maxRecDepth 100000 in
set_option maxHeartbeats 4000000 in
/-- (pub-orthodrome/spec.Dyadic).Cmp -/
theorem w_Dyadic_Cmp (F : Nat) (a0 : TSpec_Dyadic) (a1 : TSpec_Dyadic) (r0 : Int) (h0 : p_Dyadic_Cmp F a0 a1 = some r0) : FnD Tryz.prog 7 [e_TSpec_Dyadic a0, e_TSpec_Dyadic a1] (fun r => r = di .i64 r0) := by
 refine FnD.of (by kernel_rfl) Tryz.func7 rfl Tryz.ntmps7 rfl (leb rfl) fun W ok => ?_
 unfold p_Dyadic_Cmp at h0
 refine AC.seq ?_
 refine AC.region ?_
 refine AO.op rfl (AOp.box rfl rfl (ltb rfl) rfl rfl ?_)
 refine AO.op rfl (AOp.box rfl rfl (ltb rfl) rfl rfl ?_)
 refine AO.op rfl (AOp.assign rfl rfl (ltb rfl) rfl ?_)
 refine AO.nil ?_
 change AC _ _ _ _
 refine AC.seq ?_
 refine AC.region ?_
 refine AO.op rfl (AOp.loadN rfl rfl (ltb rfl) rfl agg30 size30 rfl (leb rfl) rfl ?_)
 refine AO.op rfl (AOp.loadN rfl rfl (ltb rfl) rfl agg30 size30 rfl (leb rfl) rfl ?_)
 obtain ⟨y1, q2, h0⟩ := bind_elim h0
 refine AO.op rfl (AOp.callD rfl rfl (ltb rfl) rfl rfl (w_Dyadic_Sub F a0 a1 y1 q2) ?_)
 rintro _ rfl
 obtain ⟨y3, q4, h0⟩ := bind_elim h0
 refine AO.op rfl (AOp.callD rfl rfl (ltb rfl) rfl rfl (w_Dyadic_Sign y1 y3 q4) ?_)
 rintro _ rfl
 refine AO.op rfl (AOp.assign rfl rfl (ltb rfl) rfl ?_)
 refine AO.nil ?_
 change AC _ _ _ _
 refine AC.ret ?_
 change RetQ _ _ _ .ret _
 obtain rfl := Option.some.inj h0
 refine retq rfl rfl

set_option maxRecDepth 100000 in
set_option maxHeartbeats 4000000 in
/-- pub-orthodrome/spec.Same -/
theorem w_Same (F : Nat) (a0 : TSpec_Point) (a1 : TSpec_Point) (r0 : Bool) (h0 : p_Same F a0 a1 = some r0) : FnD Tryz.prog 6 [e_TSpec_Point a0, e_TSpec_Point a1] (fun r => r = dbool r0) := by
 refine FnD.of (by kernel_rfl) Tryz.func6 rfl Tryz.ntmps6 rfl (leb rfl) fun W ok => ?_
 unfold p_Same at h0
 refine AC.seq ?_
 refine AC.region ?_
 refine AO.op rfl (AOp.box rfl rfl (ltb rfl) rfl rfl ?_)
 refine AO.op rfl (AOp.box rfl rfl (ltb rfl) rfl rfl ?_)
 refine AO.op rfl (AOp.assign rfl rfl (ltb rfl) rfl ?_)
 refine AO.nil ?_
 change AC _ _ _ _
 refine AC.seq ?_
 refine AC.region ?_
 refine AO.op rfl (AOp.fieldAddr rfl rfl (ltb rfl) rfl fo38_0 ?_)
 refine AO.op rfl (AOp.loadN rfl rfl (ltb rfl) rfl agg30 size30 rfl (leb rfl) rfl ?_)
 refine AO.op rfl (AOp.fieldAddr rfl rfl (ltb rfl) rfl fo38_0 ?_)
 refine AO.op rfl (AOp.loadN rfl rfl (ltb rfl) rfl agg30 size30 rfl (leb rfl) rfl ?_)
 obtain ⟨y1, q2, h0⟩ := bind_elim h0
 refine AO.op rfl (AOp.callD rfl rfl (ltb rfl) rfl rfl (w_Dyadic_Cmp F a0.X a1.X y1 q2) ?_)
 rintro _ rfl
 refine AO.op rfl (AOp.ieql rfl rfl (ltb rfl) rfl rfl ?_)
 refine AO.op rfl (AOp.move rfl rfl (ltb rfl) rfl ?_)
 refine AO.dec (decide (y1 = (0 : Int))) (fun q3 => ?_) (fun q3 => ?_)
 ·replace h0 := cT h0 q3
  refine AO.guardY rfl rfl rfl q3 (AOp.fieldAddr rfl rfl (ltb rfl) rfl fo38_1 ?_)
  refine AO.guardY rfl rfl rfl q3 (AOp.loadN rfl rfl (ltb rfl) rfl agg30 size30 rfl (leb rfl) rfl ?_)
  refine AO.guardY rfl rfl rfl q3 (AOp.fieldAddr rfl rfl (ltb rfl) rfl fo38_1 ?_)
  refine AO.guardY rfl rfl rfl q3 (AOp.loadN rfl rfl (ltb rfl) rfl agg30 size30 rfl (leb rfl) rfl ?_)
  obtain ⟨y4, q5, h0⟩ := bind_elim h0
  refine AO.guardY rfl rfl rfl q3 (AOp.callD rfl rfl (ltb rfl) rfl rfl (w_Dyadic_Cmp F a0.Y a1.Y y4 q5) ?_)
  rintro _ rfl
  refine AO.guardY rfl rfl rfl q3 (AOp.ieql rfl rfl (ltb rfl) rfl rfl ?_)
  refine AO.op rfl (AOp.pick rfl rfl (ltb rfl) rfl q3 rfl ?_)
  refine AO.op rfl (AOp.assign rfl rfl (ltb rfl) rfl ?_)
  refine AO.nil ?_
  change AC _ _ _ _
  refine AC.ret ?_
  change RetQ _ _ _ .ret _
  obtain rfl := Option.some.inj h0
  refine retq rfl rfl
 replace h0 := cF h0 q3
 refine AO.guardN rfl rfl rfl (ltb rfl) rfl q3 ?_
 refine AO.guardN rfl rfl rfl (ltb rfl) rfl q3 ?_
 refine AO.guardN rfl rfl rfl (ltb rfl) rfl q3 ?_
 refine AO.guardN rfl rfl rfl (ltb rfl) rfl q3 ?_
 refine AO.guardN rfl rfl rfl (ltb rfl) rfl q3 ?_
 refine AO.guardN rfl rfl rfl (ltb rfl) rfl q3 ?_
 refine AO.op rfl (AOp.pickN rfl rfl (ltb rfl) rfl q3 rfl ?_)
 refine AO.op rfl (AOp.assign rfl rfl (ltb rfl) rfl ?_)
 refine AO.nil ?_
 change AC _ _ _ _
 refine AC.ret ?_
 change RetQ _ _ _ .ret _
 obtain rfl := Option.some.inj h0
 refine retq rfl rfl

set_option maxRecDepth 100000 in
set_option maxHeartbeats 4000000 in
/-- (pub-orthodrome/pub/gogeom.Layout).Stride -/
theorem w_Layout_Stride (a0 : Int) (r0 : Int) (h0 : p_Layout_Stride a0 = some r0) : FnD Tryz.prog 36 [di .i64 a0] (fun r => r = di .i64 r0) := by
 refine FnD.of (by kernel_rfl) Tryz.func36 rfl Tryz.ntmps36 rfl (leb rfl) fun W ok => ?_
 unfold p_Layout_Stride at h0
 refine AC.seq ?_
 refine AC.region ?_
 refine AO.op rfl (AOp.assign rfl rfl (ltb rfl) rfl ?_)
 refine AO.nil ?_
 change AC _ _ _ _
 refine AC.seq ?_
 refine AC.region ?_
 refine AO.op rfl (AOp.move rfl rfl (ltb rfl) rfl ?_)
 refine AO.nil ?_
 change AC _ _ _ _
 refine AC.block ?_
 refine AC.seq ?_
 refine AC.region ?_
 refine AO.op rfl (AOp.ieql rfl rfl (ltb rfl) rfl rfl ?_)
 refine AO.op rfl (AOp.assign rfl rfl (ltb rfl) rfl ?_)
 refine AO.nil ?_
 change AC _ _ _ _
 refine AC.cond rfl (fun q1 => ?_) (fun q1 => ?_)
 ·replace h0 := cT h0 q1
  refine AC.seq ?_
  refine AC.region ?_
  refine AO.op rfl (AOp.assign rfl rfl (ltb rfl) rfl ?_)
  refine AO.nil ?_
  change AC _ _ _ _
  refine AC.ret ?_
  change RetQ _ _ _ .ret _
  obtain rfl := Option.some.inj h0
  refine retq rfl rfl
 replace h0 := cF h0 q1
 refine AC.seq ?_
 refine AC.region ?_
 refine AO.op rfl (AOp.ieql rfl rfl (ltb rfl) rfl rfl ?_)
 refine AO.op rfl (AOp.assign rfl rfl (ltb rfl) rfl ?_)
 refine AO.nil ?_
 change AC _ _ _ _
 refine AC.cond rfl (fun q2 => ?_) (fun q2 => ?_)
 ·replace h0 := cT h0 q2
  refine AC.seq ?_
  refine AC.region ?_
  refine AO.op rfl (AOp.assign rfl rfl (ltb rfl) rfl ?_)
  refine AO.nil ?_
  change AC _ _ _ _
  refine AC.ret ?_
  change RetQ _ _ _ .ret _
  obtain rfl := Option.some.inj h0
  refine retq rfl rfl
 replace h0 := cF h0 q2
 refine AC.seq ?_
 refine AC.region ?_
 refine AO.op rfl (AOp.ieql rfl rfl (ltb rfl) rfl rfl ?_)
 refine AO.op rfl (AOp.assign rfl rfl (ltb rfl) rfl ?_)
 refine AO.nil ?_
 change AC _ _ _ _
 refine AC.cond rfl (fun q3 => ?_) (fun q3 => ?_)
 ·replace h0 := cT h0 q3
  refine AC.seq ?_
  refine AC.region ?_
  refine AO.op rfl (AOp.assign rfl rfl (ltb rfl) rfl ?_)
  refine AO.nil ?_
  change AC _ _ _ _
  refine AC.ret ?_
  change RetQ _ _ _ .ret _
  obtain rfl := Option.some.inj h0
  refine retq rfl rfl
 replace h0 := cF h0 q3
 refine AC.seq ?_
 refine AC.region ?_
 refine AO.op rfl (AOp.ieql rfl rfl (ltb rfl) rfl rfl ?_)
 refine AO.op rfl (AOp.assign rfl rfl (ltb rfl) rfl ?_)
 refine AO.nil ?_
 change AC _ _ _ _
 refine AC.cond rfl (fun q4 => ?_) (fun q4 => ?_)
 ·replace h0 := cT h0 q4
  refine AC.seq ?_
  refine AC.region ?_
  refine AO.op rfl (AOp.assign rfl rfl (ltb rfl) rfl ?_)
  refine AO.nil ?_
  change AC _ _ _ _
  refine AC.ret ?_
  change RetQ _ _ _ .ret _
  obtain rfl := Option.some.inj h0
  refine retq rfl rfl
 replace h0 := cF h0 q4
 refine AC.seq ?_
 refine AC.region ?_
 refine AO.op rfl (AOp.ieql rfl rfl (ltb rfl) rfl rfl ?_)
 refine AO.op rfl (AOp.assign rfl rfl (ltb rfl) rfl ?_)
 refine AO.nil ?_
 change AC _ _ _ _
 refine AC.cond rfl (fun q5 => ?_) (fun q5 => ?_)
 ·replace h0 := cT h0 q5
  refine AC.seq ?_
  refine AC.region ?_
  refine AO.op rfl (AOp.assign rfl rfl (ltb rfl) rfl ?_)
  refine AO.nil ?_
  change AC _ _ _ _
  refine AC.ret ?_
  change RetQ _ _ _ .ret _
  obtain rfl := Option.some.inj h0
  refine retq rfl rfl
 replace h0 := cF h0 q5
 refine AC.seq ?_
 refine AC.region ?_
 refine AO.op rfl (AOp.move rfl rfl (ltb rfl) rfl ?_)
 refine AO.op rfl (AOp.assign rfl rfl (ltb rfl) rfl ?_)
 refine AO.nil ?_
 change AC _ _ _ _
 refine AC.ret ?_
 change RetQ _ _ _ .ret _
 obtain rfl := Option.some.inj h0
 refine retq rfl rfl

set_option maxRecDepth 100000 in
set_option maxHeartbeats 4000000 in
/-- pub-orthodrome/impl.floats -/
theorem w_floats (a0 : (List Nat)) (r0 : (List Nat)) (h0 : p_floats a0 = some r0) : FnD Tryz.prog 24 [eS1 a0] (fun r => r = eS1 r0) := by
 refine FnD.of (by kernel_rfl) Tryz.func24 rfl Tryz.ntmps24 rfl (leb rfl) fun W ok => ?_
 unfold p_floats at h0
 refine AC.seq ?_
 refine AC.region ?_
 refine AO.op rfl (AOp.assign rfl rfl (ltb rfl) rfl ?_)
 refine AO.nil ?_
 change AC _ _ _ _
 refine AC.seq ?_
 refine AC.region ?_
 refine AO.op rfl (AOp.move rfl rfl (ltb rfl) rfl ?_)
 obtain ⟨q1, h0⟩ := need_elim h0
 refine AO.op rfl (AOp.appendNil (m := a0.length) (news := (List.map keS1 a0)) rfl rfl (ltb rfl) rfl rfl el40 info54 rfl (by decide) (len1 _ _) (one1 _ (fun _ => rfl) _) (small63 q1) (small q1 (by decide)) ?_)
 refine AO.op rfl (AOp.assign rfl rfl (ltb rfl) rfl ?_)
 refine AO.nil ?_
 change AC _ _ _ _
 refine AC.ret ?_
 change RetQ _ _ _ .ret _
 obtain rfl := Option.some.inj h0
 refine retq rfl rfl

set_option maxRecDepth 100000 in
set_option maxHeartbeats 4000000 in
/-- pub-orthodrome/impl.ints -/
theorem w_ints (a0 : (List Int)) (r0 : (List Int)) (h0 : p_ints a0 = some r0) : FnD Tryz.prog 51 [eS2 a0] (fun r => r = eS2 r0) := by
 refine FnD.of (by kernel_rfl) Tryz.func51 rfl Tryz.ntmps51 rfl (leb rfl) fun W ok => ?_
 unfold p_ints at h0
 refine AC.seq ?_
 refine AC.region ?_
 refine AO.op rfl (AOp.assign rfl rfl (ltb rfl) rfl ?_)
 refine AO.nil ?_
 change AC _ _ _ _
 refine AC.seq ?_
 refine AC.region ?_
 refine AO.op rfl (AOp.move rfl rfl (ltb rfl) rfl ?_)
 obtain ⟨q1, h0⟩ := need_elim h0
 refine AO.op rfl (AOp.appendNil (m := a0.length) (news := (List.map keS2 a0)) rfl rfl (ltb rfl) rfl rfl el46 info3 rfl (by decide) (len1 _ _) (one1 _ (fun _ => rfl) _) (small63 q1) (small q1 (by decide)) ?_)
 refine AO.op rfl (AOp.assign rfl rfl (ltb rfl) rfl ?_)
 refine AO.nil ?_
 change AC _ _ _ _
 refine AC.ret ?_
 change RetQ _ _ _ .ret _
 obtain rfl := Option.some.inj h0
 refine retq rfl rfl

end Go.Proofs.YtdchenbdnalbcaaGreatDoor.Wk
