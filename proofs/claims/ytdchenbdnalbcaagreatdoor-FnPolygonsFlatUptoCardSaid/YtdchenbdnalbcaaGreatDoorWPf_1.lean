/- Proved: more of it. -/
import Derived.Test.YtdchenbdnalbcaaGreatDoorWPf_0
namespace Go.Proofs.YtdchenbdnalbcaaGreatDoor.Wk
open Go.Vm
set_option linter.unusedVariables false
set_option linter.unusedSimpArgs false
set_option maxRecDepth 100000 in
/-- pub-orthodrome/pub/gogeom.NewPolygonFlat: a new block -/
theorem wa_NewPolygonFlat (a0 : Int) (a1 : (List Nat)) (a2 : (List Int)) (r0 : TGeom_Polygon) (h0 : p_NewPolygonFlat a0 a1 a2 = some r0) : FnA Tryz.prog 50 [di .i64 a0, eS1 a1, eS2 a2] 92 (fun r => r = c_TGeom_Polygon r0) := by
 refine FnA.of (by kernel_rfl) Tryz.func50 rfl Tryz.ntmps50 rfl (leb rfl) fun W ok => ?_
 unfold p_NewPolygonFlat at h0
 refine AC.seq ?_
 refine AC.region ?_
 refine AO.op rfl (AOp.assign rfl rfl (ltb rfl) rfl ?_)
 refine AO.nil ?_
 change AC _ _ _ _
 refine AC.seq ?_
 refine AC.region ?_
 refine AO.op rfl (AOp.alloc rfl rfl (ltb rfl) zero92 rfl ?_)
 refine AO.op rfl (AOp.assign rfl rfl (ltb rfl) rfl ?_)
 refine AO.nil ?_
 change AC _ _ _ _
 refine AC.seq ?_
 refine AC.region ?_
 refine AO.op rfl (AOp.move rfl rfl (ltb rfl) rfl ?_)
 refine AO.op rfl (AOp.move rfl rfl (ltb rfl) rfl ?_)
 refine AO.op rfl (AOp.nilCheck rfl rfl (ltb rfl) rfl rfl ?_)
 refine AO.op rfl (AOp.fieldAddr rfl rfl (ltb rfl) rfl fo92_0 ?_)
 refine AO.op rfl (AOp.fieldAddr rfl rfl (ltb rfl) rfl fo90_0 ?_)
 refine AO.op rfl (AOp.fieldAddr rfl rfl (ltb rfl) rfl fo88_0 ?_)
 refine AO.op rfl (AOp.fieldAddr rfl rfl (ltb rfl) rfl fo86_0 ?_)
 refine AO.op rfl (AOp.store rfl rfl rfl rfl size62 rfl rfl rfl (leb rfl) ?_)
 refine AO.nil ?_
 change AC _ _ _ _
 refine AC.seq ?_
 refine AC.region ?_
 refine AO.op rfl (AOp.move rfl rfl (ltb rfl) rfl ?_)
 refine AO.op rfl (AOp.move rfl rfl (ltb rfl) rfl ?_)
 obtain ⟨y1, q2, h0⟩ := bind_elim h0
 refine AO.op rfl (AOp.callD rfl rfl (ltb rfl) rfl rfl (w_Layout_Stride a0 y1 q2) ?_)
 rintro _ rfl
 refine AO.op rfl (AOp.nilCheck rfl rfl (ltb rfl) rfl rfl ?_)
 refine AO.op rfl (AOp.fieldAddr rfl rfl (ltb rfl) rfl fo92_0 ?_)
 refine AO.op rfl (AOp.fieldAddr rfl rfl (ltb rfl) rfl fo90_0 ?_)
 refine AO.op rfl (AOp.fieldAddr rfl rfl (ltb rfl) rfl fo88_0 ?_)
 refine AO.op rfl (AOp.fieldAddr rfl rfl (ltb rfl) rfl fo86_1 ?_)
 refine AO.op rfl (AOp.store rfl rfl rfl rfl size3 rfl rfl rfl (leb rfl) ?_)
 refine AO.nil ?_
 change AC _ _ _ _
 refine AC.seq ?_
 refine AC.region ?_
 refine AO.op rfl (AOp.move rfl rfl (ltb rfl) rfl ?_)
 refine AO.op rfl (AOp.move rfl rfl (ltb rfl) rfl ?_)
 refine AO.op rfl (AOp.nilCheck rfl rfl (ltb rfl) rfl rfl ?_)
 refine AO.op rfl (AOp.fieldAddr rfl rfl (ltb rfl) rfl fo92_0 ?_)
 refine AO.op rfl (AOp.fieldAddr rfl rfl (ltb rfl) rfl fo90_0 ?_)
 refine AO.op rfl (AOp.fieldAddr rfl rfl (ltb rfl) rfl fo88_0 ?_)
 refine AO.op rfl (AOp.fieldAddr rfl rfl (ltb rfl) rfl fo86_2 ?_)
 refine AO.op rfl (AOp.store rfl rfl rfl rfl size40 rfl rfl rfl (leb rfl) ?_)
 refine AO.nil ?_
 change AC _ _ _ _
 refine AC.seq ?_
 refine AC.region ?_
 refine AO.op rfl (AOp.move rfl rfl (ltb rfl) rfl ?_)
 refine AO.op rfl (AOp.move rfl rfl (ltb rfl) rfl ?_)
 refine AO.op rfl (AOp.nilCheck rfl rfl (ltb rfl) rfl rfl ?_)
 refine AO.op rfl (AOp.fieldAddr rfl rfl (ltb rfl) rfl fo92_0 ?_)
 refine AO.op rfl (AOp.fieldAddr rfl rfl (ltb rfl) rfl fo90_1 ?_)
 refine AO.op rfl (AOp.store rfl rfl rfl rfl size46 rfl rfl rfl (leb rfl) ?_)
 refine AO.nil ?_
 change AC _ _ _ _
 refine AC.seq ?_
 refine AC.region ?_
 refine AO.op rfl (AOp.move rfl rfl (ltb rfl) rfl ?_)
 refine AO.op rfl (AOp.assign rfl rfl (ltb rfl) rfl ?_)
 refine AO.nil ?_
 change AC _ _ _ _
 refine AC.ret ?_
 change RetA _ _ _ .ret _
 obtain rfl := Option.some.inj h0
 exact ⟨_, _, _, _, rfl, rfl, rfl, rfl, rfl⟩

set_option maxRecDepth 100000 in
/-- pub-orthodrome/pub/gogeom.NewLinearRingFlat: a new block -/
theorem wa_NewLinearRingFlat (a0 : Int) (a1 : (List Nat)) (r0 : TGeom_LinearRing) (h0 : p_NewLinearRingFlat a0 a1 = some r0) : FnA Tryz.prog 48 [di .i64 a0, eS1 a1] 98 (fun r => r = c_TGeom_LinearRing r0) := by
 refine FnA.of (by kernel_rfl) Tryz.func48 rfl Tryz.ntmps48 rfl (leb rfl) fun W ok => ?_
 unfold p_NewLinearRingFlat at h0
 refine AC.seq ?_
 refine AC.region ?_
 refine AO.op rfl (AOp.assign rfl rfl (ltb rfl) rfl ?_)
 refine AO.nil ?_
 change AC _ _ _ _
 refine AC.seq ?_
 refine AC.region ?_
 refine AO.op rfl (AOp.alloc rfl rfl (ltb rfl) zero98 rfl ?_)
 refine AO.op rfl (AOp.assign rfl rfl (ltb rfl) rfl ?_)
 refine AO.nil ?_
 change AC _ _ _ _
 refine AC.seq ?_
 refine AC.region ?_
 refine AO.op rfl (AOp.move rfl rfl (ltb rfl) rfl ?_)
 refine AO.op rfl (AOp.move rfl rfl (ltb rfl) rfl ?_)
 refine AO.op rfl (AOp.nilCheck rfl rfl (ltb rfl) rfl rfl ?_)
 refine AO.op rfl (AOp.fieldAddr rfl rfl (ltb rfl) rfl fo98_0 ?_)
 refine AO.op rfl (AOp.fieldAddr rfl rfl (ltb rfl) rfl fo88_0 ?_)
 refine AO.op rfl (AOp.fieldAddr rfl rfl (ltb rfl) rfl fo86_0 ?_)
 refine AO.op rfl (AOp.store rfl rfl rfl rfl size62 rfl rfl rfl (leb rfl) ?_)
 refine AO.nil ?_
 change AC _ _ _ _
 refine AC.seq ?_
 refine AC.region ?_
 refine AO.op rfl (AOp.move rfl rfl (ltb rfl) rfl ?_)
 refine AO.op rfl (AOp.move rfl rfl (ltb rfl) rfl ?_)
 obtain ⟨y1, q2, h0⟩ := bind_elim h0
 refine AO.op rfl (AOp.callD rfl rfl (ltb rfl) rfl rfl (w_Layout_Stride a0 y1 q2) ?_)
 rintro _ rfl
 refine AO.op rfl (AOp.nilCheck rfl rfl (ltb rfl) rfl rfl ?_)
 refine AO.op rfl (AOp.fieldAddr rfl rfl (ltb rfl) rfl fo98_0 ?_)
 refine AO.op rfl (AOp.fieldAddr rfl rfl (ltb rfl) rfl fo88_0 ?_)
 refine AO.op rfl (AOp.fieldAddr rfl rfl (ltb rfl) rfl fo86_1 ?_)
 refine AO.op rfl (AOp.store rfl rfl rfl rfl size3 rfl rfl rfl (leb rfl) ?_)
 refine AO.nil ?_
 change AC _ _ _ _
 refine AC.seq ?_
 refine AC.region ?_
 refine AO.op rfl (AOp.move rfl rfl (ltb rfl) rfl ?_)
 refine AO.op rfl (AOp.move rfl rfl (ltb rfl) rfl ?_)
 refine AO.op rfl (AOp.nilCheck rfl rfl (ltb rfl) rfl rfl ?_)
 refine AO.op rfl (AOp.fieldAddr rfl rfl (ltb rfl) rfl fo98_0 ?_)
 refine AO.op rfl (AOp.fieldAddr rfl rfl (ltb rfl) rfl fo88_0 ?_)
 refine AO.op rfl (AOp.fieldAddr rfl rfl (ltb rfl) rfl fo86_2 ?_)
 refine AO.op rfl (AOp.store rfl rfl rfl rfl size40 rfl rfl rfl (leb rfl) ?_)
 refine AO.nil ?_
 change AC _ _ _ _
 refine AC.seq ?_
 refine AC.region ?_
 refine AO.op rfl (AOp.move rfl rfl (ltb rfl) rfl ?_)
 refine AO.op rfl (AOp.assign rfl rfl (ltb rfl) rfl ?_)
 refine AO.nil ?_
 change AC _ _ _ _
 refine AC.ret ?_
 change RetA _ _ _ .ret _
 obtain rfl := Option.some.inj h0
 exact ⟨_, _, _, _, rfl, rfl, rfl, rfl, rfl⟩

set_option maxRecDepth 100000 in
set_option maxHeartbeats 4000000 in
/-- pub-orthodrome/pub/gogeom/xy/inner.Equal -/
theorem w_Equal (a0 : (List Nat)) (a1 : Int) (a2 : (List Nat)) (a3 : Int) (r0 : Bool) (h0 : p_Equal a0 a1 a2 a3 = some r0) : FnD Tryz.prog 86 [eS1 a0, di .i64 a1, eS1 a2, di .i64 a3] (fun r => r = dbool r0) := by
 refine FnD.of (by kernel_rfl) Tryz.func86 rfl Tryz.ntmps86 rfl (leb rfl) fun W ok => ?_
 unfold p_Equal at h0
 refine AC.seq ?_
 refine AC.region ?_
 refine AO.op rfl (AOp.assign rfl rfl (ltb rfl) rfl ?_)
 refine AO.nil ?_
 change AC _ _ _ _
 refine AC.seq ?_
 refine AC.seq ?_
 refine AC.draw 9 mixed (by kernel_rfl) ?_
 refine AD.op [0] rfl (by kernel_rfl) rfl rfl (fun _ _ h => AOp.move rfl rfl (ltb rfl) rfl h) ?_
 refine AD.op [1] rfl (by kernel_rfl) rfl rfl (fun _ _ h => AOp.move rfl rfl (ltb rfl) rfl h) ?_
 obtain ⟨x1, q2, h0⟩ := idx_elim h0
 refine AD.op [9, 10] rfl (by kernel_rfl) rfl rfl (fun _ _ h => AOp.indexDs (cells := (List.map keS1 a0)) rfl rfl (ltb rfl) rfl rfl el40 (by decide) q2.1 (lt1 q2.2) h) ?_
 refine AD.op [11] rfl (by kernel_rfl) rfl rfl (fun _ _ h => AOp.loadEp rfl rfl (ltb rfl) rfl agg54 (at1 q2.2) h) ?_
 refine AD.op [2] rfl (by kernel_rfl) rfl rfl (fun _ _ h => AOp.move rfl rfl (ltb rfl) rfl h) ?_
 refine AD.op [3] rfl (by kernel_rfl) rfl rfl (fun _ _ h => AOp.move rfl rfl (ltb rfl) rfl h) ?_
 obtain ⟨x3, q4, h0⟩ := idx_elim h0
 refine AD.op [13, 14] rfl (by kernel_rfl) rfl rfl (fun _ _ h => AOp.indexDs (cells := (List.map keS1 a2)) rfl rfl (ltb rfl) rfl rfl el40 (by decide) q4.1 (lt1 q4.2) h) ?_
 refine AD.op [15] rfl (by kernel_rfl) rfl rfl (fun _ _ h => AOp.loadEp rfl rfl (ltb rfl) rfl agg54 (at1 q4.2) h) ?_
 refine AD.op [12, 16] rfl (by kernel_rfl) rfl rfl (fun _ _ h => AOp.fneq rfl rfl (ltb rfl) rfl rfl h) ?_
 refine AD.done ?_
 refine AO.nil ?_
 change AC _ _ _ _
 refine AC.cond rfl (fun q5 => ?_) (fun q5 => ?_)
 ·replace h0 := cT h0 q5
  refine AC.seq ?_
  refine AC.region ?_
  refine AO.op rfl (AOp.assign rfl rfl (ltb rfl) rfl ?_)
  refine AO.nil ?_
  change AC _ _ _ _
  refine AC.ret ?_
  change RetQ _ _ _ .ret _
  obtain rfl := Option.some.inj h0
  refine retq rfl rfl
 replace h0 := cF h0 q5
 refine AC.skip ?_
 change AC _ _ _ _
 refine AC.seq ?_
 refine AC.seq ?_
 refine AC.draw 11 mixed (by kernel_rfl) ?_
 refine AD.op [0] rfl (by kernel_rfl) rfl rfl (fun _ _ h => AOp.move rfl rfl (ltb rfl) rfl h) ?_
 refine AD.op [1] rfl (by kernel_rfl) rfl rfl (fun _ _ h => AOp.move rfl rfl (ltb rfl) rfl h) ?_
 obtain ⟨q6, h0⟩ := need_elim h0
 refine AD.op [19] rfl (by kernel_rfl) rfl rfl (fun _ _ h => AOp.iadd rfl rfl (ltb rfl) rfl rfl rfl q6.1 q6.2 h) ?_
 obtain ⟨x7, q8, h0⟩ := idx_elim h0
 refine AD.op [18, 20] rfl (by kernel_rfl) rfl rfl (fun _ _ h => AOp.indexDs (cells := (List.map keS1 a0)) rfl rfl (ltb rfl) rfl rfl el40 (by decide) q8.1 (lt1 q8.2) h) ?_
 refine AD.op [21] rfl (by kernel_rfl) rfl rfl (fun _ _ h => AOp.loadEp rfl rfl (ltb rfl) rfl agg54 (at1 q8.2) h) ?_
 refine AD.op [2] rfl (by kernel_rfl) rfl rfl (fun _ _ h => AOp.move rfl rfl (ltb rfl) rfl h) ?_
 refine AD.op [3] rfl (by kernel_rfl) rfl rfl (fun _ _ h => AOp.move rfl rfl (ltb rfl) rfl h) ?_
 obtain ⟨q9, h0⟩ := need_elim h0
 refine AD.op [24] rfl (by kernel_rfl) rfl rfl (fun _ _ h => AOp.iadd rfl rfl (ltb rfl) rfl rfl rfl q9.1 q9.2 h) ?_
 obtain ⟨x10, q11, h0⟩ := idx_elim h0
 refine AD.op [23, 25] rfl (by kernel_rfl) rfl rfl (fun _ _ h => AOp.indexDs (cells := (List.map keS1 a2)) rfl rfl (ltb rfl) rfl rfl el40 (by decide) q11.1 (lt1 q11.2) h) ?_
 refine AD.op [26] rfl (by kernel_rfl) rfl rfl (fun _ _ h => AOp.loadEp rfl rfl (ltb rfl) rfl agg54 (at1 q11.2) h) ?_
 refine AD.op [22, 27] rfl (by kernel_rfl) rfl rfl (fun _ _ h => AOp.fneq rfl rfl (ltb rfl) rfl rfl h) ?_
 refine AD.done ?_
 refine AO.nil ?_
 change AC _ _ _ _
 refine AC.cond rfl (fun q12 => ?_) (fun q12 => ?_)
 ·replace h0 := cT h0 q12
  refine AC.seq ?_
  refine AC.region ?_
  refine AO.op rfl (AOp.assign rfl rfl (ltb rfl) rfl ?_)
  refine AO.nil ?_
  change AC _ _ _ _
  refine AC.ret ?_
  change RetQ _ _ _ .ret _
  obtain rfl := Option.some.inj h0
  refine retq rfl rfl
 replace h0 := cF h0 q12
 refine AC.skip ?_
 change AC _ _ _ _
 refine AC.seq ?_
 refine AC.region ?_
 refine AO.op rfl (AOp.assign rfl rfl (ltb rfl) rfl ?_)
 refine AO.nil ?_
 change AC _ _ _ _
 refine AC.ret ?_
 change RetQ _ _ _ .ret _
 obtain rfl := Option.some.inj h0
 refine retq rfl rfl

set_option maxRecDepth 100000 in
set_option maxHeartbeats 4000000 in
/-- pub-orthodrome/pub/gogeom/bigxy.orientationBasedOnSign -/
theorem w_orientationBasedOnSign (a0 : Nat) (r0 : Int) (h0 : p_orientationBasedOnSign a0 = some r0) : FnD Tryz.prog 95 [dfl a0] (fun r => r = di .i64 r0) := by
 refine FnD.of (by kernel_rfl) Tryz.func95 rfl Tryz.ntmps95 rfl (leb rfl) fun W ok => ?_
 unfold p_orientationBasedOnSign at h0
 refine AC.seq ?_
 refine AC.region ?_
 refine AO.op rfl (AOp.assign rfl rfl (ltb rfl) rfl ?_)
 refine AO.nil ?_
 change AC _ _ _ _
 refine AC.seq ?_
 refine AC.seq ?_
 refine AC.region ?_
 refine AO.op rfl (AOp.move rfl rfl (ltb rfl) rfl ?_)
 refine AO.op rfl (AOp.fgtr rfl rfl (ltb rfl) rfl rfl ?_)
 refine AO.nil ?_
 change AC _ _ _ _
 refine AC.cond rfl (fun q1 => ?_) (fun q1 => ?_)
 ·replace h0 := cT h0 q1
  refine AC.seq ?_
  refine AC.region ?_
  refine AO.op rfl (AOp.assign rfl rfl (ltb rfl) rfl ?_)
  refine AO.nil ?_
  change AC _ _ _ _
  refine AC.ret ?_
  change RetQ _ _ _ .ret _
  obtain rfl := Option.some.inj h0
  refine retq rfl rfl
 replace h0 := cF h0 q1
 refine AC.skip ?_
 change AC _ _ _ _
 refine AC.seq ?_
 refine AC.seq ?_
 refine AC.region ?_
 refine AO.op rfl (AOp.move rfl rfl (ltb rfl) rfl ?_)
 refine AO.op rfl (AOp.flss rfl rfl (ltb rfl) rfl rfl ?_)
 refine AO.nil ?_
 change AC _ _ _ _
 refine AC.cond rfl (fun q2 => ?_) (fun q2 => ?_)
 ·replace h0 := cT h0 q2
  refine AC.seq ?_
  refine AC.region ?_
  refine AO.op rfl (AOp.assign rfl rfl (ltb rfl) rfl ?_)
  refine AO.nil ?_
  change AC _ _ _ _
  refine AC.ret ?_
  change RetQ _ _ _ .ret _
  obtain rfl := Option.some.inj h0
  refine retq rfl rfl
 replace h0 := cF h0 q2
 refine AC.skip ?_
 change AC _ _ _ _
 refine AC.seq ?_
 refine AC.region ?_
 refine AO.op rfl (AOp.assign rfl rfl (ltb rfl) rfl ?_)
 refine AO.nil ?_
 change AC _ _ _ _
 refine AC.ret ?_
 change RetQ _ _ _ .ret _
 obtain rfl := Option.some.inj h0
 refine retq rfl rfl

set_option maxRecDepth 100000 in
set_option maxHeartbeats 4000000 in
/-- pub-orthodrome/pub/gogeom/bigxy.orientationIndexFilter -/
theorem w_orientationIndexFilter (a0 : (List Nat)) (a1 : (List Nat)) (a2 : (List Nat)) (r0 : Int) (h0 : p_orientationIndexFilter a0 a1 a2 = some r0) : FnD Tryz.prog 94 [eS1 a0, eS1 a1, eS1 a2] (fun r => r = di .i64 r0) := by
 refine FnD.of (by kernel_rfl) Tryz.func94 rfl Tryz.ntmps94 rfl (leb rfl) fun W ok => ?_
 unfold p_orientationIndexFilter at h0
 refine AC.seq ?_
 refine AC.region ?_
 refine AO.op rfl (AOp.assign rfl rfl (ltb rfl) rfl ?_)
 refine AO.nil ?_
 change AC _ _ _ _
 refine AC.seq ?_
 refine AC.region ?_
 refine AO.op rfl (AOp.assign rfl rfl (ltb rfl) rfl ?_)
 refine AO.nil ?_
 change AC _ _ _ _
 refine AC.seq ?_
 refine AC.draw 16 mixed (by kernel_rfl) ?_
 refine AD.op [0] rfl (by kernel_rfl) rfl rfl (fun _ _ h => AOp.move rfl rfl (ltb rfl) rfl h) ?_
 obtain ⟨x1, q2, h0⟩ := idx_elim h0
 refine AD.op [12] rfl (by kernel_rfl) rfl rfl (fun _ _ h => AOp.indexDs (cells := (List.map keS1 a0)) rfl rfl (ltb rfl) rfl rfl el69 (by decide) q2.1 (lt1 q2.2) h) ?_
 refine AD.op [13] rfl (by kernel_rfl) rfl rfl (fun _ _ h => AOp.loadEp rfl rfl (ltb rfl) rfl agg54 (at1 q2.2) h) ?_
 refine AD.op [2] rfl (by kernel_rfl) rfl rfl (fun _ _ h => AOp.move rfl rfl (ltb rfl) rfl h) ?_
 obtain ⟨x3, q4, h0⟩ := idx_elim h0
 refine AD.op [15] rfl (by kernel_rfl) rfl rfl (fun _ _ h => AOp.indexDs (cells := (List.map keS1 a2)) rfl rfl (ltb rfl) rfl rfl el69 (by decide) q4.1 (lt1 q4.2) h) ?_
 refine AD.op [16] rfl (by kernel_rfl) rfl rfl (fun _ _ h => AOp.loadEp rfl rfl (ltb rfl) rfl agg54 (at1 q4.2) h) ?_
 obtain ⟨z5, q6, h0⟩ := bind_elim h0
 refine AD.op [14, 17] rfl (by kernel_rfl) rfl rfl (fun _ _ h => AOp.farith rfl rfl (ltb rfl) rfl rfl q6 h) ?_
 refine AD.op [1] rfl (by kernel_rfl) rfl rfl (fun _ _ h => AOp.move rfl rfl (ltb rfl) rfl h) ?_
 obtain ⟨x7, q8, h0⟩ := idx_elim h0
 refine AD.op [19] rfl (by kernel_rfl) rfl rfl (fun _ _ h => AOp.indexDs (cells := (List.map keS1 a1)) rfl rfl (ltb rfl) rfl rfl el69 (by decide) q8.1 (lt1 q8.2) h) ?_
 refine AD.op [20] rfl (by kernel_rfl) rfl rfl (fun _ _ h => AOp.loadEp rfl rfl (ltb rfl) rfl agg54 (at1 q8.2) h) ?_
 refine AD.op [2] rfl (by kernel_rfl) rfl rfl (fun _ _ h => AOp.move rfl rfl (ltb rfl) rfl h) ?_
 obtain ⟨x9, q10, h0⟩ := idx_elim h0
 refine AD.op [22] rfl (by kernel_rfl) rfl rfl (fun _ _ h => AOp.indexDs (cells := (List.map keS1 a2)) rfl rfl (ltb rfl) rfl rfl el69 (by decide) q10.1 (lt1 q10.2) h) ?_
 refine AD.op [23] rfl (by kernel_rfl) rfl rfl (fun _ _ h => AOp.loadEp rfl rfl (ltb rfl) rfl agg54 (at1 q10.2) h) ?_
 obtain ⟨z11, q12, h0⟩ := bind_elim h0
 refine AD.op [21, 24] rfl (by kernel_rfl) rfl rfl (fun _ _ h => AOp.farith rfl rfl (ltb rfl) rfl rfl q12 h) ?_
 obtain ⟨z13, q14, h0⟩ := bind_elim h0
 refine AD.op [18, 25] rfl (by kernel_rfl) rfl rfl (fun _ _ h => AOp.farith rfl rfl (ltb rfl) rfl rfl q14 h) ?_
 refine AD.op [26] rfl (by kernel_rfl) rfl rfl (fun _ _ h => AOp.assign rfl rfl (ltb rfl) rfl h) ?_
 refine AD.done ?_
 refine AO.nil ?_
 change AC _ _ _ _
 refine AC.seq ?_
 refine AC.draw 16 mixed (by kernel_rfl) ?_
 refine AD.op [0] rfl (by kernel_rfl) rfl rfl (fun _ _ h => AOp.move rfl rfl (ltb rfl) rfl h) ?_
 obtain ⟨x15, q16, h0⟩ := idx_elim h0
 refine AD.op [27] rfl (by kernel_rfl) rfl rfl (fun _ _ h => AOp.indexDs (cells := (List.map keS1 a0)) rfl rfl (ltb rfl) rfl rfl el69 (by decide) q16.1 (lt1 q16.2) h) ?_
 refine AD.op [28] rfl (by kernel_rfl) rfl rfl (fun _ _ h => AOp.loadEp rfl rfl (ltb rfl) rfl agg54 (at1 q16.2) h) ?_
 refine AD.op [2] rfl (by kernel_rfl) rfl rfl (fun _ _ h => AOp.move rfl rfl (ltb rfl) rfl h) ?_
 obtain ⟨x17, q18, h0⟩ := idx_elim h0
 refine AD.op [30] rfl (by kernel_rfl) rfl rfl (fun _ _ h => AOp.indexDs (cells := (List.map keS1 a2)) rfl rfl (ltb rfl) rfl rfl el69 (by decide) q18.1 (lt1 q18.2) h) ?_
 refine AD.op [31] rfl (by kernel_rfl) rfl rfl (fun _ _ h => AOp.loadEp rfl rfl (ltb rfl) rfl agg54 (at1 q18.2) h) ?_
 obtain ⟨z19, q20, h0⟩ := bind_elim h0
 refine AD.op [29, 32] rfl (by kernel_rfl) rfl rfl (fun _ _ h => AOp.farith rfl rfl (ltb rfl) rfl rfl q20 h) ?_
 refine AD.op [1] rfl (by kernel_rfl) rfl rfl (fun _ _ h => AOp.move rfl rfl (ltb rfl) rfl h) ?_
 obtain ⟨x21, q22, h0⟩ := idx_elim h0
 refine AD.op [34] rfl (by kernel_rfl) rfl rfl (fun _ _ h => AOp.indexDs (cells := (List.map keS1 a1)) rfl rfl (ltb rfl) rfl rfl el69 (by decide) q22.1 (lt1 q22.2) h) ?_
 refine AD.op [35] rfl (by kernel_rfl) rfl rfl (fun _ _ h => AOp.loadEp rfl rfl (ltb rfl) rfl agg54 (at1 q22.2) h) ?_
 refine AD.op [2] rfl (by kernel_rfl) rfl rfl (fun _ _ h => AOp.move rfl rfl (ltb rfl) rfl h) ?_
 obtain ⟨x23, q24, h0⟩ := idx_elim h0
 refine AD.op [37] rfl (by kernel_rfl) rfl rfl (fun _ _ h => AOp.indexDs (cells := (List.map keS1 a2)) rfl rfl (ltb rfl) rfl rfl el69 (by decide) q24.1 (lt1 q24.2) h) ?_
 refine AD.op [38] rfl (by kernel_rfl) rfl rfl (fun _ _ h => AOp.loadEp rfl rfl (ltb rfl) rfl agg54 (at1 q24.2) h) ?_
 obtain ⟨z25, q26, h0⟩ := bind_elim h0
 refine AD.op [36, 39] rfl (by kernel_rfl) rfl rfl (fun _ _ h => AOp.farith rfl rfl (ltb rfl) rfl rfl q26 h) ?_
 obtain ⟨z27, q28, h0⟩ := bind_elim h0
 refine AD.op [33, 40] rfl (by kernel_rfl) rfl rfl (fun _ _ h => AOp.farith rfl rfl (ltb rfl) rfl rfl q28 h) ?_
 refine AD.op [41] rfl (by kernel_rfl) rfl rfl (fun _ _ h => AOp.assign rfl rfl (ltb rfl) rfl h) ?_
 refine AD.done ?_
 refine AO.nil ?_
 change AC _ _ _ _
 refine AC.seq ?_
 refine AC.region ?_
 refine AO.op rfl (AOp.move rfl rfl (ltb rfl) rfl ?_)
 refine AO.op rfl (AOp.move rfl rfl (ltb rfl) rfl ?_)
 obtain ⟨z29, q30, h0⟩ := bind_elim h0
 refine AO.op rfl (AOp.farith rfl rfl (ltb rfl) rfl rfl q30 ?_)
 refine AO.op rfl (AOp.assign rfl rfl (ltb rfl) rfl ?_)
 refine AO.nil ?_
 change AC _ _ _ _
 refine AC.seq ?_
 refine AC.block ?_
 refine AC.seq ?_
 refine AC.region ?_
 refine AO.op rfl (AOp.move rfl rfl (ltb rfl) rfl ?_)
 refine AO.op rfl (AOp.fgtr rfl rfl (ltb rfl) rfl rfl ?_)
 refine AO.op rfl (AOp.assign rfl rfl (ltb rfl) rfl ?_)
 refine AO.nil ?_
 change AC _ _ _ _
 refine AC.cond rfl (fun q31 => ?_) (fun q31 => ?_)
 ·replace h0 := cT h0 q31
  cases h0
 replace h0 := cF h0 q31
 refine AC.seq ?_
 refine AC.region ?_
 refine AO.op rfl (AOp.move rfl rfl (ltb rfl) rfl ?_)
 refine AO.op rfl (AOp.flss rfl rfl (ltb rfl) rfl rfl ?_)
 refine AO.op rfl (AOp.assign rfl rfl (ltb rfl) rfl ?_)
 refine AO.nil ?_
 change AC _ _ _ _
 refine AC.cond rfl (fun q32 => ?_) (fun q32 => ?_)
 ·replace h0 := cT h0 q32
  cases h0
 replace h0 := cF h0 q32
 refine AC.seq ?_
 refine AC.region ?_
 refine AO.op rfl (AOp.move rfl rfl (ltb rfl) rfl ?_)
 obtain ⟨y33, q34, h0⟩ := bind_elim h0
 refine AO.op rfl (AOp.callD rfl rfl (ltb rfl) rfl rfl (w_orientationBasedOnSign z29 y33 q34) ?_)
 rintro _ rfl
 refine AO.op rfl (AOp.assign rfl rfl (ltb rfl) rfl ?_)
 refine AO.nil ?_
 change AC _ _ _ _
 refine AC.ret ?_
 change RetQ _ _ _ .ret _
 obtain rfl := Option.some.inj h0
 refine retq rfl rfl

set_option maxRecDepth 100000 in
set_option maxHeartbeats 4000000 in
/-- pub-orthodrome/pub/gogeom/bigxy.OrientationIndex -/
theorem w_OrientationIndex (a0 : (List Nat)) (a1 : (List Nat)) (a2 : (List Nat)) (r0 : Int) (h0 : p_OrientationIndex a0 a1 a2 = some r0) : FnD Tryz.prog 87 [eS1 a0, eS1 a1, eS1 a2] (fun r => r = di .i64 r0) := by
 refine FnD.of (by kernel_rfl) Tryz.func87 rfl Tryz.ntmps87 rfl (leb rfl) fun W ok => ?_
 unfold p_OrientationIndex at h0
 refine AC.seq ?_
 refine AC.region ?_
 refine AO.op rfl (AOp.assign rfl rfl (ltb rfl) rfl ?_)
 refine AO.nil ?_
 change AC _ _ _ _
 refine AC.seq ?_
 refine AC.region ?_
 refine AO.op rfl (AOp.move rfl rfl (ltb rfl) rfl ?_)
 refine AO.op rfl (AOp.move rfl rfl (ltb rfl) rfl ?_)
 refine AO.op rfl (AOp.move rfl rfl (ltb rfl) rfl ?_)
 obtain ⟨y1, q2, h0⟩ := bind_elim h0
 refine AO.op rfl (AOp.callD rfl rfl (ltb rfl) rfl rfl (w_orientationIndexFilter a0 a1 a2 y1 q2) ?_)
 rintro _ rfl
 refine AO.op rfl (AOp.assign rfl rfl (ltb rfl) rfl ?_)
 refine AO.nil ?_
 change AC _ _ _ _
 refine AC.seq ?_
 refine AC.seq ?_
 refine AC.region ?_
 refine AO.op rfl (AOp.move rfl rfl (ltb rfl) rfl ?_)
 refine AO.op rfl (AOp.ileq rfl rfl (ltb rfl) rfl rfl ?_)
 refine AO.nil ?_
 change AC _ _ _ _
 refine AC.cond rfl (fun q3 => ?_) (fun q3 => ?_)
 ·replace h0 := cT h0 q3
  refine AC.seq ?_
  refine AC.region ?_
  refine AO.op rfl (AOp.move rfl rfl (ltb rfl) rfl ?_)
  refine AO.op rfl (AOp.assign rfl rfl (ltb rfl) rfl ?_)
  refine AO.nil ?_
  change AC _ _ _ _
  refine AC.ret ?_
  change RetQ _ _ _ .ret _
  obtain rfl := Option.some.inj h0
  refine retq rfl rfl
 replace h0 := cF h0 q3
 cases h0

set_option maxRecDepth 100000 in
set_option maxHeartbeats 4000000 in
/-- pub-orthodrome/pub/gogeom/xy.IsRingCounterClockwise -/
theorem w_IsRingCounterClockwise (F : Nat) (a0 : Int) (a1 : (List Nat)) (r0 : Bool) (h0 : p_IsRingCounterClockwise F a0 a1 = some r0) : FnD Tryz.prog 76 [di .i64 a0, eS1 a1] (fun r => r = dbool r0) := by
 refine FnD.of (by kernel_rfl) Tryz.func76 rfl Tryz.ntmps76 rfl (leb rfl) fun W ok => ?_
 unfold p_IsRingCounterClockwise at h0
 refine AC.seq ?_
 refine AC.region ?_
 refine AO.op rfl (AOp.assign rfl rfl (ltb rfl) rfl ?_)
 refine AO.nil ?_
 change AC _ _ _ _
 refine AC.seq ?_
 refine AC.region ?_
 refine AO.op rfl (AOp.move rfl rfl (ltb rfl) rfl ?_)
 obtain ⟨y1, q2, h0⟩ := bind_elim h0
 refine AO.op rfl (AOp.callD rfl rfl (ltb rfl) rfl rfl (w_Layout_Stride a0 y1 q2) ?_)
 rintro _ rfl
 refine AO.op rfl (AOp.assign rfl rfl (ltb rfl) rfl ?_)
 refine AO.nil ?_
 change AC _ _ _ _
 refine AC.seq ?_
 refine AC.region ?_
 refine AO.op rfl (AOp.move rfl rfl (ltb rfl) rfl ?_)
 refine AO.op rfl (AOp.lenDs (n := a1.length) (cells := (List.map keS1 a1)) rfl rfl (ltb rfl) rfl el40 (by decide) (len1 _ _) ?_)
 refine AO.op rfl (AOp.move rfl rfl (ltb rfl) rfl ?_)
 obtain ⟨q3, h0⟩ := need_elim h0
 refine AO.op rfl (AOp.isub rfl rfl (ltb rfl) rfl rfl rfl q3.1 q3.2 ?_)
 refine AO.op rfl (AOp.assign rfl rfl (ltb rfl) rfl ?_)
 refine AO.nil ?_
 change AC _ _ _ _
 refine AC.seq ?_
 refine AC.seq ?_
 refine AC.region ?_
 refine AO.op rfl (AOp.move rfl rfl (ltb rfl) rfl ?_)
 refine AO.op rfl (AOp.move rfl rfl (ltb rfl) rfl ?_)
 obtain ⟨q4, h0⟩ := need_elim h0
 refine AO.op rfl (AOp.iquo rfl rfl (ltb rfl) rfl rfl q4.1 rfl q4.2.1 q4.2.2 ?_)
 refine AO.op rfl (AOp.assign rfl rfl (ltb rfl) rfl ?_)
 refine AO.nil ?_
 change AC _ _ _ _
 refine AC.seq ?_
 refine AC.region ?_
 refine AO.op rfl (AOp.move rfl rfl (ltb rfl) rfl ?_)
 refine AO.op rfl (AOp.ilss rfl rfl (ltb rfl) rfl rfl ?_)
 refine AO.nil ?_
 change AC _ _ _ _
 refine AC.cond rfl (fun q5 => ?_) (fun q5 => ?_)
 ·replace h0 := cT h0 q5
  cases h0
 replace h0 := cF h0 q5
 refine AC.skip ?_
 change AC _ _ _ _
 refine AC.seq ?_
 refine AC.region ?_
 refine AO.op rfl (AOp.assign rfl rfl (ltb rfl) rfl ?_)
 refine AO.nil ?_
 change AC _ _ _ _
 refine AC.seq ?_
 refine AC.seq ?_
 refine AC.region ?_
 refine AO.op rfl (AOp.move rfl rfl (ltb rfl) rfl ?_)
 refine AO.op rfl (AOp.assign rfl rfl (ltb rfl) rfl ?_)
 refine AO.nil ?_
 change AC _ _ _ _
 obtain ⟨o6, l7, h0⟩ := bind_elim h0
 refine AC.joinE (V := Int) [1, 5, 6] [8] 0 (fun g8 => [(8, .d (di .i64 g8))]) (fun g8 => []) (fun g8 => (p_IsRingCounterClockwise_k1 a1 F y1) g8 = some r0) rfl ?_ ?_
 ·refine AC.block ?_
  refine AC.loopP (V := (Int × Int)) (p_IsRingCounterClockwise_l8 a1 y1) o6 [1, 5, 6] [8, 9] 0 (fun g57 => [(8, .d (di .i64 g57.1)), (9, .d (di .i64 g57.2))]) (fun g57 => []) F ((0 : Int), y1) l7 rfl rfl (LeL.refl _) rfl rfl ?_
  intro n59 g57 h1
  unfold p_IsRingCounterClockwise_l8 at h1
  refine AC.seq ?_
  refine AC.seq ?_
  refine AC.region ?_
  refine AO.op rfl (AOp.move rfl rfl (ltb rfl) rfl ?_)
  refine AO.op rfl (AOp.move rfl rfl (ltb rfl) rfl ?_)
  refine AO.op rfl (AOp.lenDs (n := a1.length) (cells := (List.map keS1 a1)) rfl rfl (ltb rfl) rfl el40 (by decide) (len1 _ _) ?_)
  refine AO.op rfl (AOp.move rfl rfl (ltb rfl) rfl ?_)
  obtain ⟨q60, h1⟩ := need_elim h1
  refine AO.op rfl (AOp.isub rfl rfl (ltb rfl) rfl rfl rfl q60.1 q60.2 ?_)
  refine AO.op rfl (AOp.ileq rfl rfl (ltb rfl) rfl rfl ?_)
  refine AO.nil ?_
  change AC _ _ _ _
  refine AC.cond rfl (fun q61 => ?_) (fun q61 => ?_)
  ·replace h1 := cT h1 q61
   refine AC.skip ?_
   change AC _ _ _ _
   refine AC.seq ?_
   refine AC.block ?_
   refine AC.seq ?_
   refine AC.draw 11 mixed (by kernel_rfl) ?_
   refine AD.op [1] rfl (by kernel_rfl) rfl rfl (fun _ _ h => AOp.move rfl rfl (ltb rfl) rfl h) ?_
   refine AD.op [9] rfl (by kernel_rfl) rfl rfl (fun _ _ h => AOp.move rfl rfl (ltb rfl) rfl h) ?_
   obtain ⟨q62, h1⟩ := need_elim h1
   refine AD.op [37] rfl (by kernel_rfl) rfl rfl (fun _ _ h => AOp.iadd rfl rfl (ltb rfl) rfl rfl rfl q62.1 q62.2 h) ?_
   obtain ⟨x63, q64, h1⟩ := idx_elim h1
   refine AD.op [36, 38] rfl (by kernel_rfl) rfl rfl (fun _ _ h => AOp.indexDs (cells := (List.map keS1 a1)) rfl rfl (ltb rfl) rfl rfl el40 (by decide) q64.1 (lt1 q64.2) h) ?_
   refine AD.op [39] rfl (by kernel_rfl) rfl rfl (fun _ _ h => AOp.loadEp rfl rfl (ltb rfl) rfl agg54 (at1 q64.2) h) ?_
   refine AD.op [1] rfl (by kernel_rfl) rfl rfl (fun _ _ h => AOp.move rfl rfl (ltb rfl) rfl h) ?_
   refine AD.op [8] rfl (by kernel_rfl) rfl rfl (fun _ _ h => AOp.move rfl rfl (ltb rfl) rfl h) ?_
   obtain ⟨q65, h1⟩ := need_elim h1
   refine AD.op [42] rfl (by kernel_rfl) rfl rfl (fun _ _ h => AOp.iadd rfl rfl (ltb rfl) rfl rfl rfl q65.1 q65.2 h) ?_
   obtain ⟨x66, q67, h1⟩ := idx_elim h1
   refine AD.op [41, 43] rfl (by kernel_rfl) rfl rfl (fun _ _ h => AOp.indexDs (cells := (List.map keS1 a1)) rfl rfl (ltb rfl) rfl rfl el40 (by decide) q67.1 (lt1 q67.2) h) ?_
   refine AD.op [44] rfl (by kernel_rfl) rfl rfl (fun _ _ h => AOp.loadEp rfl rfl (ltb rfl) rfl agg54 (at1 q67.2) h) ?_
   refine AD.op [40, 45] rfl (by kernel_rfl) rfl rfl (fun _ _ h => AOp.fgtr rfl rfl (ltb rfl) rfl rfl h) ?_
   refine AD.done ?_
   refine AO.nil ?_
   change AC _ _ _ _
   refine AC.cond rfl (fun q68 => ?_) (fun q68 => ?_)
   ·replace h1 := cT h1 q68
    refine AC.region ?_
    refine AO.op rfl (AOp.move rfl rfl (ltb rfl) rfl ?_)
    refine AO.op rfl (AOp.assign rfl rfl (ltb rfl) rfl ?_)
    refine AO.nil ?_
    change AC _ _ _ _
    refine AC.region ?_
    refine AO.op rfl (AOp.move rfl rfl (ltb rfl) rfl ?_)
    refine AO.op rfl (AOp.move rfl rfl (ltb rfl) rfl ?_)
    obtain ⟨q69, h1⟩ := need_elim h1
    refine AO.op rfl (AOp.iadd rfl rfl (ltb rfl) rfl rfl rfl q69.1 q69.2 ?_)
    refine AO.op rfl (AOp.assign rfl rfl (ltb rfl) rfl ?_)
    refine AO.nil ?_
    exact ⟨(g57.2, (g57.2 + y1)), _, rfl, (LeL.refl _), rfl, rfl, h1⟩
   replace h1 := cF h1 q68
   refine AC.skip ?_
   change AC _ _ _ _
   refine AC.region ?_
   refine AO.op rfl (AOp.move rfl rfl (ltb rfl) rfl ?_)
   refine AO.op rfl (AOp.move rfl rfl (ltb rfl) rfl ?_)
   obtain ⟨q70, h1⟩ := need_elim h1
   refine AO.op rfl (AOp.iadd rfl rfl (ltb rfl) rfl rfl rfl q70.1 q70.2 ?_)
   refine AO.op rfl (AOp.assign rfl rfl (ltb rfl) rfl ?_)
   refine AO.nil ?_
   exact ⟨(g57.1, (g57.2 + y1)), _, rfl, (LeL.refl _), rfl, rfl, h1⟩
  replace h1 := cF h1 q61
  refine AC.exit ?_
  obtain rfl := Option.some.inj h1
  exact ⟨g57.1, _, rfl, (LeL.refl _), rfl, rfl, aftL h0⟩
 intro g8 h0
 unfold p_IsRingCounterClockwise_k1 at h0
 change AC _ _ _ _
 refine AC.seq ?_
 refine AC.region ?_
 refine AO.op rfl (AOp.move rfl rfl (ltb rfl) rfl ?_)
 refine AO.op rfl (AOp.assign rfl rfl (ltb rfl) rfl ?_)
 refine AO.nil ?_
 change AC _ _ _ _
 obtain ⟨o9, l10, h0⟩ := bind_elim h0
 refine AC.joinP (V := Int) [1, 5, 6, 8] [10] 0 (fun g11 => [(10, .d (di .i64 g11))]) (fun g11 => []) (fun g11 => (p_IsRingCounterClockwise_k2 a1 F y1 g8) g11 = some r0) rfl ?_ ?_
 ·refine AC.block ?_
  refine AC.loopP (V := Int) (p_IsRingCounterClockwise_l6 a1 y1 g8) o9 [1, 5, 6, 8] [10] 0 (fun g47 => [(10, .d (di .i64 g47))]) (fun g47 => []) F g8 l10 rfl rfl (LeL.refl _) rfl rfl ?_
  intro n49 g47 h1
  unfold p_IsRingCounterClockwise_l6 at h1
  refine AC.block ?_
  refine AC.seq ?_
  refine AC.region ?_
  refine AO.op rfl (AOp.move rfl rfl (ltb rfl) rfl ?_)
  refine AO.op rfl (AOp.move rfl rfl (ltb rfl) rfl ?_)
  obtain ⟨q50, h1⟩ := need_elim h1
  refine AO.op rfl (AOp.isub rfl rfl (ltb rfl) rfl rfl rfl q50.1 q50.2 ?_)
  refine AO.op rfl (AOp.assign rfl rfl (ltb rfl) rfl ?_)
  refine AO.nil ?_
  change AC _ _ _ _
  refine AC.joinP (V := Int) [1, 5, 6, 8] [10] 0 (fun g51 => [(10, .d (di .i64 g51))]) (fun g51 => []) (fun g51 => (p_IsRingCounterClockwise_k7 a1 g8 (iter (p_IsRingCounterClockwise_l6 a1 y1 g8) n49)) g51 = some o9) rfl ?_ ?_
  ·refine AC.seq ?_
   refine AC.region ?_
   refine AO.op rfl (AOp.move rfl rfl (ltb rfl) rfl ?_)
   refine AO.op rfl (AOp.ilss rfl rfl (ltb rfl) rfl rfl ?_)
   refine AO.nil ?_
   change AC _ _ _ _
   refine AC.cond rfl (fun q56 => ?_) (fun q56 => ?_)
   ·replace h1 := cT h1 q56
    refine AC.region ?_
    refine AO.op rfl (AOp.move rfl rfl (ltb rfl) rfl ?_)
    refine AO.op rfl (AOp.assign rfl rfl (ltb rfl) rfl ?_)
    refine AO.nil ?_
    exact ⟨(((a1.length : Nat) : Int) - y1), _, rfl, (LeL.refl _), rfl, rfl, h1⟩
   replace h1 := cF h1 q56
   refine AC.skip ?_
   exact ⟨(g47 - y1), _, rfl, (LeL.refl _), rfl, rfl, h1⟩
  intro g51 h1
  unfold p_IsRingCounterClockwise_k7 at h1
  refine AC.seq ?_
  refine AC.region ?_
  refine AO.op rfl (AOp.move rfl rfl (ltb rfl) rfl ?_)
  refine AO.op rfl (AOp.move rfl rfl (ltb rfl) rfl ?_)
  refine AO.op rfl (AOp.move rfl rfl (ltb rfl) rfl ?_)
  refine AO.op rfl (AOp.move rfl rfl (ltb rfl) rfl ?_)
  obtain ⟨y52, q53, h1⟩ := bind_elim h1
  refine AO.op rfl (AOp.callD rfl rfl (ltb rfl) rfl rfl (w_Equal a1 g51 a1 g8 y52 q53) ?_)
  rintro _ rfl
  refine AO.op rfl (AOp.bnot rfl rfl (ltb rfl) rfl ?_)
  refine AO.op rfl (AOp.move rfl rfl (ltb rfl) rfl ?_)
  refine AO.dec (!y52) (fun q54 => ?_) (fun q54 => ?_)
  ·replace h1 := cT h1 q54
   refine AO.guardN rfl rfl rfl (ltb rfl) rfl q54 ?_
   refine AO.guardN rfl rfl rfl (ltb rfl) rfl q54 ?_
   refine AO.guardN rfl rfl rfl (ltb rfl) rfl q54 ?_
   refine AO.op rfl (AOp.pick rfl rfl (ltb rfl) rfl q54 rfl ?_)
   refine AO.nil ?_
   change AC _ _ _ _
   refine AC.condT rfl rfl ?_
   refine AC.exit ?_
   obtain rfl := Option.some.inj h1
   exact ⟨g51, _, rfl, (LeL.refl _), rfl, rfl, aftL h0⟩
  replace h1 := cF h1 q54
  refine AO.guardY rfl rfl rfl q54 (AOp.move rfl rfl (ltb rfl) rfl ?_)
  refine AO.guardY rfl rfl rfl q54 (AOp.move rfl rfl (ltb rfl) rfl ?_)
  refine AO.guardY rfl rfl rfl q54 (AOp.ieql rfl rfl (ltb rfl) rfl rfl ?_)
  refine AO.op rfl (AOp.pickN rfl rfl (ltb rfl) rfl q54 rfl ?_)
  refine AO.nil ?_
  change AC _ _ _ _
  refine AC.cond rfl (fun q55 => ?_) (fun q55 => ?_)
  ·replace h1 := cT h1 q55
   refine AC.exit ?_
   obtain rfl := Option.some.inj h1
   exact ⟨g51, _, rfl, (LeL.refl _), rfl, rfl, aftL h0⟩
  replace h1 := cF h1 q55
  refine AC.skip ?_
  exact ⟨g51, _, rfl, (LeL.refl _), rfl, rfl, h1⟩
 intro g11 h0
 unfold p_IsRingCounterClockwise_k2 at h0
 refine AC.seq ?_
 refine AC.region ?_
 refine AO.op rfl (AOp.move rfl rfl (ltb rfl) rfl ?_)
 refine AO.op rfl (AOp.assign rfl rfl (ltb rfl) rfl ?_)
 refine AO.nil ?_
 change AC _ _ _ _
 obtain ⟨o12, l13, h0⟩ := bind_elim h0
 refine AC.joinP (V := Int) [1, 8, 10] [11] 0 (fun g14 => [(11, .d (di .i64 g14))]) (fun g14 => []) (fun g14 => (p_IsRingCounterClockwise_k3 a1 g8 g11) g14 = some r0) rfl ?_ ?_
 ·refine AC.block ?_
  refine AC.loopP (V := Int) (p_IsRingCounterClockwise_l5 a1 y1 g8) o12 [1, 5, 6, 8, 10] [11] 0 (fun g38 => [(11, .d (di .i64 g38))]) (fun g38 => []) F g8 l13 rfl rfl (LeL.refl _) rfl rfl ?_
  intro n40 g38 h1
  unfold p_IsRingCounterClockwise_l5 at h1
  refine AC.block ?_
  refine AC.seq ?_
  refine AC.region ?_
  refine AO.op rfl (AOp.move rfl rfl (ltb rfl) rfl ?_)
  refine AO.op rfl (AOp.move rfl rfl (ltb rfl) rfl ?_)
  obtain ⟨q41, h1⟩ := need_elim h1
  refine AO.op rfl (AOp.iadd rfl rfl (ltb rfl) rfl rfl rfl q41.1 q41.2 ?_)
  refine AO.op rfl (AOp.move rfl rfl (ltb rfl) rfl ?_)
  obtain ⟨q42, h1⟩ := need_elim h1
  refine AO.op rfl (AOp.irem rfl rfl (ltb rfl) rfl rfl q42 rfl ?_)
  refine AO.op rfl (AOp.assign rfl rfl (ltb rfl) rfl ?_)
  refine AO.nil ?_
  change AC _ _ _ _
  refine AC.seq ?_
  refine AC.region ?_
  refine AO.op rfl (AOp.move rfl rfl (ltb rfl) rfl ?_)
  refine AO.op rfl (AOp.move rfl rfl (ltb rfl) rfl ?_)
  refine AO.op rfl (AOp.move rfl rfl (ltb rfl) rfl ?_)
  refine AO.op rfl (AOp.move rfl rfl (ltb rfl) rfl ?_)
  obtain ⟨y43, q44, h1⟩ := bind_elim h1
  refine AO.op rfl (AOp.callD rfl rfl (ltb rfl) rfl rfl (w_Equal a1 (Int.tmod (g38 + y1) (((a1.length : Nat) : Int) - y1)) a1 g8 y43 q44) ?_)
  rintro _ rfl
  refine AO.op rfl (AOp.bnot rfl rfl (ltb rfl) rfl ?_)
  refine AO.op rfl (AOp.move rfl rfl (ltb rfl) rfl ?_)
  refine AO.dec (!y43) (fun q45 => ?_) (fun q45 => ?_)
  ·replace h1 := cT h1 q45
   refine AO.guardN rfl rfl rfl (ltb rfl) rfl q45 ?_
   refine AO.guardN rfl rfl rfl (ltb rfl) rfl q45 ?_
   refine AO.guardN rfl rfl rfl (ltb rfl) rfl q45 ?_
   refine AO.op rfl (AOp.pick rfl rfl (ltb rfl) rfl q45 rfl ?_)
   refine AO.nil ?_
   change AC _ _ _ _
   refine AC.condT rfl rfl ?_
   refine AC.exit ?_
   obtain rfl := Option.some.inj h1
   exact ⟨(Int.tmod (g38 + y1) (((a1.length : Nat) : Int) - y1)), _, rfl, (LeL.refl _), rfl, rfl, aftL h0⟩
  replace h1 := cF h1 q45
  refine AO.guardY rfl rfl rfl q45 (AOp.move rfl rfl (ltb rfl) rfl ?_)
  refine AO.guardY rfl rfl rfl q45 (AOp.move rfl rfl (ltb rfl) rfl ?_)
  refine AO.guardY rfl rfl rfl q45 (AOp.ieql rfl rfl (ltb rfl) rfl rfl ?_)
  refine AO.op rfl (AOp.pickN rfl rfl (ltb rfl) rfl q45 rfl ?_)
  refine AO.nil ?_
  change AC _ _ _ _
  refine AC.cond rfl (fun q46 => ?_) (fun q46 => ?_)
  ·replace h1 := cT h1 q46
   refine AC.exit ?_
   obtain rfl := Option.some.inj h1
   exact ⟨(Int.tmod (g38 + y1) (((a1.length : Nat) : Int) - y1)), _, rfl, (LeL.refl _), rfl, rfl, aftL h0⟩
  replace h1 := cF h1 q46
  refine AC.skip ?_
  exact ⟨(Int.tmod (g38 + y1) (((a1.length : Nat) : Int) - y1)), _, rfl, (LeL.refl _), rfl, rfl, h1⟩
 intro g14 h0
 unfold p_IsRingCounterClockwise_k3 at h0
 refine AC.seq ?_
 refine AC.joinP (V := Bool) [1, 8, 10, 11] [101] 0 (fun g15 => [(101, .d (dbool g15))]) (fun g15 => []) (fun g15 => (p_IsRingCounterClockwise_k4 a1 g8 g11 g14) g15 = some r0) rfl ?_ ?_
 ·refine AC.region ?_
  refine AO.op rfl (AOp.move rfl rfl (ltb rfl) rfl ?_)
  refine AO.op rfl (AOp.move rfl rfl (ltb rfl) rfl ?_)
  refine AO.op rfl (AOp.move rfl rfl (ltb rfl) rfl ?_)
  refine AO.op rfl (AOp.move rfl rfl (ltb rfl) rfl ?_)
  obtain ⟨y30, q31, h0⟩ := bind_elim h0
  refine AO.op rfl (AOp.callD rfl rfl (ltb rfl) rfl rfl (w_Equal a1 g11 a1 g8 y30 q31) ?_)
  rintro _ rfl
  refine AO.op rfl (AOp.move rfl rfl (ltb rfl) rfl ?_)
  refine AO.dec y30 (fun q32 => ?_) (fun q32 => ?_)
  ·replace h0 := cT h0 q32
   refine AO.guardN rfl rfl rfl (ltb rfl) rfl q32 ?_
   refine AO.guardN rfl rfl rfl (ltb rfl) rfl q32 ?_
   refine AO.guardN rfl rfl rfl (ltb rfl) rfl q32 ?_
   refine AO.guardN rfl rfl rfl (ltb rfl) rfl q32 ?_
   refine AO.guardN rfl rfl rfl (ltb rfl) rfl q32 ?_
   refine AO.op rfl (AOp.pick rfl rfl (ltb rfl) rfl q32 rfl ?_)
   refine AO.op rfl (AOp.move rfl rfl (ltb rfl) rfl ?_)
   refine AO.guardN rfl rfl rfl (ltb rfl) rfl rfl ?_
   refine AO.guardN rfl rfl rfl (ltb rfl) rfl rfl ?_
   refine AO.guardN rfl rfl rfl (ltb rfl) rfl rfl ?_
   refine AO.guardN rfl rfl rfl (ltb rfl) rfl rfl ?_
   refine AO.guardN rfl rfl rfl (ltb rfl) rfl rfl ?_
   refine AO.op rfl (AOp.pick rfl rfl (ltb rfl) rfl rfl rfl ?_)
   refine AO.nil ?_
   exact ⟨true, _, rfl, (LeL.refl _), rfl, rfl, h0⟩
  replace h0 := cF h0 q32
  refine AO.guardY rfl rfl rfl q32 (AOp.move rfl rfl (ltb rfl) rfl ?_)
  refine AO.guardY rfl rfl rfl q32 (AOp.move rfl rfl (ltb rfl) rfl ?_)
  refine AO.guardY rfl rfl rfl q32 (AOp.move rfl rfl (ltb rfl) rfl ?_)
  refine AO.guardY rfl rfl rfl q32 (AOp.move rfl rfl (ltb rfl) rfl ?_)
  obtain ⟨y33, q34, h0⟩ := bind_elim h0
  refine AO.guardY rfl rfl rfl q32 (AOp.callD rfl rfl (ltb rfl) rfl rfl (w_Equal a1 g14 a1 g8 y33 q34) ?_)
  rintro _ rfl
  refine AO.op rfl (AOp.pickN rfl rfl (ltb rfl) rfl q32 rfl ?_)
  refine AO.op rfl (AOp.move rfl rfl (ltb rfl) rfl ?_)
  refine AO.dec y33 (fun q35 => ?_) (fun q35 => ?_)
  ·replace h0 := cT h0 q35
   refine AO.guardN rfl rfl rfl (ltb rfl) rfl q35 ?_
   refine AO.guardN rfl rfl rfl (ltb rfl) rfl q35 ?_
   refine AO.guardN rfl rfl rfl (ltb rfl) rfl q35 ?_
   refine AO.guardN rfl rfl rfl (ltb rfl) rfl q35 ?_
   refine AO.guardN rfl rfl rfl (ltb rfl) rfl q35 ?_
   refine AO.op rfl (AOp.pick rfl rfl (ltb rfl) rfl q35 rfl ?_)
   refine AO.nil ?_
   exact ⟨true, _, rfl, (LeL.refl _), rfl, rfl, h0⟩
  replace h0 := cF h0 q35
  refine AO.guardY rfl rfl rfl q35 (AOp.move rfl rfl (ltb rfl) rfl ?_)
  refine AO.guardY rfl rfl rfl q35 (AOp.move rfl rfl (ltb rfl) rfl ?_)
  refine AO.guardY rfl rfl rfl q35 (AOp.move rfl rfl (ltb rfl) rfl ?_)
  refine AO.guardY rfl rfl rfl q35 (AOp.move rfl rfl (ltb rfl) rfl ?_)
  obtain ⟨y36, q37, h0⟩ := bind_elim h0
  refine AO.guardY rfl rfl rfl q35 (AOp.callD rfl rfl (ltb rfl) rfl rfl (w_Equal a1 g11 a1 g14 y36 q37) ?_)
  rintro _ rfl
  refine AO.op rfl (AOp.pickN rfl rfl (ltb rfl) rfl q35 rfl ?_)
  refine AO.nil ?_
  exact ⟨y36, _, rfl, (LeL.refl _), rfl, rfl, h0⟩
 intro g15 h0
 unfold p_IsRingCounterClockwise_k4 at h0
 refine AC.cond rfl (fun q16 => ?_) (fun q16 => ?_)
 ·replace h0 := cT h0 q16
  refine AC.seq ?_
  refine AC.region ?_
  refine AO.op rfl (AOp.assign rfl rfl (ltb rfl) rfl ?_)
  refine AO.nil ?_
  change AC _ _ _ _
  refine AC.ret ?_
  change RetQ _ _ _ .ret _
  obtain rfl := Option.some.inj h0
  refine retq rfl rfl
 replace h0 := cF h0 q16
 refine AC.skip ?_
 change AC _ _ _ _
 refine AC.seq ?_
 refine AC.draw 17 mixed (by kernel_rfl) ?_
 refine AD.op [1] rfl (by kernel_rfl) rfl rfl (fun _ _ h => AOp.move rfl rfl (ltb rfl) rfl h) ?_
 refine AD.op [10] rfl (by kernel_rfl) rfl rfl (fun _ _ h => AOp.move rfl rfl (ltb rfl) rfl h) ?_
 refine AD.op [10] rfl (by kernel_rfl) rfl rfl (fun _ _ h => AOp.move rfl rfl (ltb rfl) rfl h) ?_
 obtain ⟨q17, h0⟩ := need_elim h0
 refine AD.op [104] rfl (by kernel_rfl) rfl rfl (fun _ _ h => AOp.iadd rfl rfl (ltb rfl) rfl rfl rfl q17.1 q17.2 h) ?_
 obtain ⟨q18, h0⟩ := need_elim h0
 refine AD.op [102, 103, 105] rfl (by kernel_rfl) rfl rfl (fun _ _ h => AOp.sliceD (cells := (List.map keS1 a1)) (n := a1.length) (l := (g11).toNat) (hh := ((g11 + (2 : Int))).toNat) rfl rfl (ltb rfl) rfl (.inr ⟨_, _, _, rfl, rfl, q18.1.1, rfl⟩) (.inr ⟨_, _, _, rfl, rfl, q18.1.2, rfl⟩) el40 (by decide) (len1 _ _) q18.2.1 q18.2.2 (sub1 _ _ _ _) h) ?_
 refine AD.op [1] rfl (by kernel_rfl) rfl rfl (fun _ _ h => AOp.move rfl rfl (ltb rfl) rfl h) ?_
 refine AD.op [8] rfl (by kernel_rfl) rfl rfl (fun _ _ h => AOp.move rfl rfl (ltb rfl) rfl h) ?_
 refine AD.op [8] rfl (by kernel_rfl) rfl rfl (fun _ _ h => AOp.move rfl rfl (ltb rfl) rfl h) ?_
 obtain ⟨q19, h0⟩ := need_elim h0
 refine AD.op [109] rfl (by kernel_rfl) rfl rfl (fun _ _ h => AOp.iadd rfl rfl (ltb rfl) rfl rfl rfl q19.1 q19.2 h) ?_
 obtain ⟨q20, h0⟩ := need_elim h0
 refine AD.op [107, 108, 110] rfl (by kernel_rfl) rfl rfl (fun _ _ h => AOp.sliceD (cells := (List.map keS1 a1)) (n := a1.length) (l := (g8).toNat) (hh := ((g8 + (2 : Int))).toNat) rfl rfl (ltb rfl) rfl (.inr ⟨_, _, _, rfl, rfl, q20.1.1, rfl⟩) (.inr ⟨_, _, _, rfl, rfl, q20.1.2, rfl⟩) el40 (by decide) (len1 _ _) q20.2.1 q20.2.2 (sub1 _ _ _ _) h) ?_
 refine AD.op [1] rfl (by kernel_rfl) rfl rfl (fun _ _ h => AOp.move rfl rfl (ltb rfl) rfl h) ?_
 refine AD.op [11] rfl (by kernel_rfl) rfl rfl (fun _ _ h => AOp.move rfl rfl (ltb rfl) rfl h) ?_
 refine AD.op [11] rfl (by kernel_rfl) rfl rfl (fun _ _ h => AOp.move rfl rfl (ltb rfl) rfl h) ?_
 obtain ⟨q21, h0⟩ := need_elim h0
 refine AD.op [114] rfl (by kernel_rfl) rfl rfl (fun _ _ h => AOp.iadd rfl rfl (ltb rfl) rfl rfl rfl q21.1 q21.2 h) ?_
 obtain ⟨q22, h0⟩ := need_elim h0
 refine AD.op [112, 113, 115] rfl (by kernel_rfl) rfl rfl (fun _ _ h => AOp.sliceD (cells := (List.map keS1 a1)) (n := a1.length) (l := (g14).toNat) (hh := ((g14 + (2 : Int))).toNat) rfl rfl (ltb rfl) rfl (.inr ⟨_, _, _, rfl, rfl, q22.1.1, rfl⟩) (.inr ⟨_, _, _, rfl, rfl, q22.1.2, rfl⟩) el40 (by decide) (len1 _ _) q22.2.1 q22.2.2 (sub1 _ _ _ _) h) ?_
 obtain ⟨y23, q24, h0⟩ := bind_elim h0
 refine AD.op [106, 111, 116] rfl (by kernel_rfl) rfl rfl (fun _ _ h => AOp.callD rfl rfl (ltb rfl) rfl rfl (w_OrientationIndex ((a1.drop (g11).toNat).take (((g11 + (2 : Int))).toNat - (g11).toNat)) ((a1.drop (g8).toNat).take (((g8 + (2 : Int))).toNat - (g8).toNat)) ((a1.drop (g14).toNat).take (((g14 + (2 : Int))).toNat - (g14).toNat)) y23 q24) (by rintro _ rfl; exact h)) ?_
 refine AD.op [117] rfl (by kernel_rfl) rfl rfl (fun _ _ h => AOp.assign rfl rfl (ltb rfl) rfl h) ?_
 refine AD.done ?_
 refine AO.nil ?_
 change AC _ _ _ _
 refine AC.seq ?_
 refine AC.region ?_
 refine AO.op rfl (AOp.assign rfl rfl (ltb rfl) rfl ?_)
 refine AO.nil ?_
 change AC _ _ _ _
 refine AC.seq ?_
 refine AC.seq ?_
 refine AC.region ?_
 refine AO.op rfl (AOp.move rfl rfl (ltb rfl) rfl ?_)
 refine AO.op rfl (AOp.ieql rfl rfl (ltb rfl) rfl rfl ?_)
 refine AO.nil ?_
 change AC _ _ _ _
 refine AC.cond rfl (fun q25 => ?_) (fun q25 => ?_)
 ·replace h0 := cT h0 q25
  refine AC.draw 10 mixed (by kernel_rfl) ?_
  refine AD.op [1] rfl (by kernel_rfl) rfl rfl (fun _ _ h => AOp.move rfl rfl (ltb rfl) rfl h) ?_
  refine AD.op [10] rfl (by kernel_rfl) rfl rfl (fun _ _ h => AOp.move rfl rfl (ltb rfl) rfl h) ?_
  obtain ⟨x26, q27, h0⟩ := idx_elim h0
  refine AD.op [120, 121] rfl (by kernel_rfl) rfl rfl (fun _ _ h => AOp.indexDs (cells := (List.map keS1 a1)) rfl rfl (ltb rfl) rfl rfl el40 (by decide) q27.1 (lt1 q27.2) h) ?_
  refine AD.op [122] rfl (by kernel_rfl) rfl rfl (fun _ _ h => AOp.loadEp rfl rfl (ltb rfl) rfl agg54 (at1 q27.2) h) ?_
  refine AD.op [1] rfl (by kernel_rfl) rfl rfl (fun _ _ h => AOp.move rfl rfl (ltb rfl) rfl h) ?_
  refine AD.op [11] rfl (by kernel_rfl) rfl rfl (fun _ _ h => AOp.move rfl rfl (ltb rfl) rfl h) ?_
  obtain ⟨x28, q29, h0⟩ := idx_elim h0
  refine AD.op [124, 125] rfl (by kernel_rfl) rfl rfl (fun _ _ h => AOp.indexDs (cells := (List.map keS1 a1)) rfl rfl (ltb rfl) rfl rfl el40 (by decide) q29.1 (lt1 q29.2) h) ?_
  refine AD.op [126] rfl (by kernel_rfl) rfl rfl (fun _ _ h => AOp.loadEp rfl rfl (ltb rfl) rfl agg54 (at1 q29.2) h) ?_
  refine AD.op [123, 127] rfl (by kernel_rfl) rfl rfl (fun _ _ h => AOp.fgtr rfl rfl (ltb rfl) rfl rfl h) ?_
  refine AD.op [128] rfl (by kernel_rfl) rfl rfl (fun _ _ h => AOp.assign rfl rfl (ltb rfl) rfl h) ?_
  refine AD.done ?_
  refine AO.nil ?_
  change AC _ _ _ _
  refine AC.seq ?_
  refine AC.region ?_
  refine AO.op rfl (AOp.move rfl rfl (ltb rfl) rfl ?_)
  refine AO.op rfl (AOp.assign rfl rfl (ltb rfl) rfl ?_)
  refine AO.nil ?_
  change AC _ _ _ _
  refine AC.ret ?_
  change RetQ _ _ _ .ret _
  obtain rfl := Option.some.inj h0
  refine retq rfl rfl
 replace h0 := cF h0 q25
 refine AC.region ?_
 refine AO.op rfl (AOp.move rfl rfl (ltb rfl) rfl ?_)
 refine AO.op rfl (AOp.igtr rfl rfl (ltb rfl) rfl rfl ?_)
 refine AO.op rfl (AOp.assign rfl rfl (ltb rfl) rfl ?_)
 refine AO.nil ?_
 change AC _ _ _ _
 refine AC.seq ?_
 refine AC.region ?_
 refine AO.op rfl (AOp.move rfl rfl (ltb rfl) rfl ?_)
 refine AO.op rfl (AOp.assign rfl rfl (ltb rfl) rfl ?_)
 refine AO.nil ?_
 change AC _ _ _ _
 refine AC.ret ?_
 change RetQ _ _ _ .ret _
 obtain rfl := Option.some.inj h0
 refine retq rfl rfl

theorem callSqrt (x z : Nat) (h : FloatKind.f64.format.sqrt x = some z) (w : World) : (callFunc 98 #[.float .f64 x]).run Tryz.prog w = .ok (.value (.float .f64 z)) w := by
 rw [run_callFunc_extern Tryz.func98 (by kernel_rfl) (by kernel_rfl) (by kernel_rfl) (e := Extern.MathSqrt.sqrt) (by kernel_rfl)]
 have e : Extern.MathSqrt.sqrt #[.float .f64 x] = (match FloatKind.f64.format.sqrt x with | some r => pure (.float .f64 r) | none => do pure (.float .f64 (← choose (.nanBits .f64 x x)))) := rfl
 rw [e, h]
 rfl

set_option maxRecDepth 100000 in
set_option maxHeartbeats 4000000 in
/-- math.Sqrt -/
theorem w_Sqrt (a0 : Nat) (r0 : Nat) (h0 : p_Sqrt a0 = some r0) : FnD Tryz.prog 96 [dfl a0] (fun r => r = dfl r0) := by
 refine FnD.of (by kernel_rfl) Tryz.func96 rfl Tryz.ntmps96 rfl (leb rfl) fun W ok => ?_
 unfold p_Sqrt at h0
 refine AC.seq ?_
 refine AC.region ?_
 refine AO.op rfl (AOp.assign rfl rfl (ltb rfl) rfl ?_)
 refine AO.nil ?_
 change AC _ _ _ _
 refine AC.seq ?_
 refine AC.region ?_
 refine AO.op rfl (AOp.move rfl rfl (ltb rfl) rfl ?_)
 obtain ⟨z1, q2, h0⟩ := bind_elim h0
 refine AO.op rfl (AOp.callX [.float .f64 a0] rfl rfl (ltb rfl) rfl (callSqrt _ _ q2) ?_)
 refine AO.op rfl (AOp.assign rfl rfl (ltb rfl) rfl ?_)
 refine AO.nil ?_
 change AC _ _ _ _
 refine AC.ret ?_
 change RetQ _ _ _ .ret _
 obtain rfl := Option.some.inj h0
 refine retq rfl rfl

set_option maxRecDepth 100000 in
set_option maxHeartbeats 4000000 in
/-- pub-orthodrome/pub/gogeom/xy/inner.Distance2D -/
theorem w_Distance2D (a0 : (List Nat)) (a1 : (List Nat)) (r0 : Nat) (h0 : p_Distance2D a0 a1 = some r0) : FnD Tryz.prog 90 [eS1 a0, eS1 a1] (fun r => r = dfl r0) := by
 refine FnD.of (by kernel_rfl) Tryz.func90 rfl Tryz.ntmps90 rfl (leb rfl) fun W ok => ?_
 unfold p_Distance2D at h0
 refine AC.seq ?_
 refine AC.region ?_
 refine AO.op rfl (AOp.assign rfl rfl (ltb rfl) rfl ?_)
 refine AO.nil ?_
 change AC _ _ _ _
 refine AC.seq ?_
 refine AC.draw 8 mixed (by kernel_rfl) ?_
 refine AD.op [0] rfl (by kernel_rfl) rfl rfl (fun _ _ h => AOp.move rfl rfl (ltb rfl) rfl h) ?_
 obtain ⟨x1, q2, h0⟩ := idx_elim h0
 refine AD.op [7] rfl (by kernel_rfl) rfl rfl (fun _ _ h => AOp.indexDs (cells := (List.map keS1 a0)) rfl rfl (ltb rfl) rfl rfl el69 (by decide) q2.1 (lt1 q2.2) h) ?_
 refine AD.op [8] rfl (by kernel_rfl) rfl rfl (fun _ _ h => AOp.loadEp rfl rfl (ltb rfl) rfl agg54 (at1 q2.2) h) ?_
 refine AD.op [1] rfl (by kernel_rfl) rfl rfl (fun _ _ h => AOp.move rfl rfl (ltb rfl) rfl h) ?_
 obtain ⟨x3, q4, h0⟩ := idx_elim h0
 refine AD.op [10] rfl (by kernel_rfl) rfl rfl (fun _ _ h => AOp.indexDs (cells := (List.map keS1 a1)) rfl rfl (ltb rfl) rfl rfl el69 (by decide) q4.1 (lt1 q4.2) h) ?_
 refine AD.op [11] rfl (by kernel_rfl) rfl rfl (fun _ _ h => AOp.loadEp rfl rfl (ltb rfl) rfl agg54 (at1 q4.2) h) ?_
 obtain ⟨z5, q6, h0⟩ := bind_elim h0
 refine AD.op [9, 12] rfl (by kernel_rfl) rfl rfl (fun _ _ h => AOp.farith rfl rfl (ltb rfl) rfl rfl q6 h) ?_
 refine AD.op [13] rfl (by kernel_rfl) rfl rfl (fun _ _ h => AOp.assign rfl rfl (ltb rfl) rfl h) ?_
 refine AD.done ?_
 refine AO.nil ?_
 change AC _ _ _ _
 refine AC.seq ?_
 refine AC.draw 8 mixed (by kernel_rfl) ?_
 refine AD.op [0] rfl (by kernel_rfl) rfl rfl (fun _ _ h => AOp.move rfl rfl (ltb rfl) rfl h) ?_
 obtain ⟨x7, q8, h0⟩ := idx_elim h0
 refine AD.op [14] rfl (by kernel_rfl) rfl rfl (fun _ _ h => AOp.indexDs (cells := (List.map keS1 a0)) rfl rfl (ltb rfl) rfl rfl el69 (by decide) q8.1 (lt1 q8.2) h) ?_
 refine AD.op [15] rfl (by kernel_rfl) rfl rfl (fun _ _ h => AOp.loadEp rfl rfl (ltb rfl) rfl agg54 (at1 q8.2) h) ?_
 refine AD.op [1] rfl (by kernel_rfl) rfl rfl (fun _ _ h => AOp.move rfl rfl (ltb rfl) rfl h) ?_
 obtain ⟨x9, q10, h0⟩ := idx_elim h0
 refine AD.op [17] rfl (by kernel_rfl) rfl rfl (fun _ _ h => AOp.indexDs (cells := (List.map keS1 a1)) rfl rfl (ltb rfl) rfl rfl el69 (by decide) q10.1 (lt1 q10.2) h) ?_
 refine AD.op [18] rfl (by kernel_rfl) rfl rfl (fun _ _ h => AOp.loadEp rfl rfl (ltb rfl) rfl agg54 (at1 q10.2) h) ?_
 obtain ⟨z11, q12, h0⟩ := bind_elim h0
 refine AD.op [16, 19] rfl (by kernel_rfl) rfl rfl (fun _ _ h => AOp.farith rfl rfl (ltb rfl) rfl rfl q12 h) ?_
 refine AD.op [20] rfl (by kernel_rfl) rfl rfl (fun _ _ h => AOp.assign rfl rfl (ltb rfl) rfl h) ?_
 refine AD.done ?_
 refine AO.nil ?_
 change AC _ _ _ _
 refine AC.seq ?_
 refine AC.region ?_
 refine AO.op rfl (AOp.move rfl rfl (ltb rfl) rfl ?_)
 refine AO.op rfl (AOp.move rfl rfl (ltb rfl) rfl ?_)
 obtain ⟨z13, q14, h0⟩ := bind_elim h0
 refine AO.op rfl (AOp.farith rfl rfl (ltb rfl) rfl rfl q14 ?_)
 refine AO.op rfl (AOp.move rfl rfl (ltb rfl) rfl ?_)
 refine AO.op rfl (AOp.move rfl rfl (ltb rfl) rfl ?_)
 obtain ⟨z15, q16, h0⟩ := bind_elim h0
 refine AO.op rfl (AOp.farith rfl rfl (ltb rfl) rfl rfl q16 ?_)
 obtain ⟨z17, q18, h0⟩ := bind_elim h0
 refine AO.op rfl (AOp.farith rfl rfl (ltb rfl) rfl rfl q18 ?_)
 obtain ⟨y19, q20, h0⟩ := bind_elim h0
 refine AO.op rfl (AOp.callD rfl rfl (ltb rfl) rfl rfl (w_Sqrt z17 y19 q20) ?_)
 rintro _ rfl
 refine AO.op rfl (AOp.assign rfl rfl (ltb rfl) rfl ?_)
 refine AO.nil ?_
 change AC _ _ _ _
 refine AC.ret ?_
 change RetQ _ _ _ .ret _
 obtain rfl := Option.some.inj h0
 refine retq rfl rfl

end Go.Proofs.YtdchenbdnalbcaaGreatDoor.Wk
