/- Proved: more of it. -/
import Derived.Test.YtbgdonedjgkhiaaWGc_0
namespace Go.Proofs.Ytbgdonedjgkhiaa.Wk
open Go.Vm
set_option linter.unusedVariables false
set_option linter.unusedSimpArgs false
set_option maxRecDepth 100000 in
set_option maxHeartbeats 4000000 in
/-- pub-orthodrome/impl.geometry -/
theorem w_geometry_b (Rec_ : TImpl_Geom → Option IfcV) (hR : ∀ (a0 : TImpl_Geom) (r0 : IfcV), Rec_ a0 = some r0 → FnD Try.prog 22 [e_TImpl_Geom a0] (fun r => r = eIfc r0)) (F : Nat) (a0 : TImpl_Geom) (r0 : IfcV) (h0 : p_geometry_b Rec_ F a0 = some r0) : FnD Try.prog 22 [e_TImpl_Geom a0] (fun r => r = eIfc r0) := by
  refine FnD.of (by kernel_rfl) Try.func22 rfl Try.ntmps22 rfl (leb rfl) fun W ok => ?_
  unfold p_geometry_b at h0
  refine AC.seq ?_
  refine AC.region ?_
  refine AO.op rfl (AOp.box rfl rfl (ltb rfl) rfl rfl ?_)
  refine AO.op rfl (AOp.assign rfl rfl (ltb rfl) rfl ?_)
  refine AO.nil ?_
  change AC _ _ _ _
  refine AC.seq ?_
  refine AC.draw 7 mixed (by kernel_rfl) ?_
  refine AD.op [1] rfl (by kernel_rfl) rfl rfl (fun _ _ h => AOp.fieldAddr rfl rfl (ltb rfl) rfl fo27_1 h) ?_
  refine AD.op [8] rfl (by kernel_rfl) rfl rfl (fun _ _ h => AOp.load1 rfl rfl (ltb rfl) rfl agg3 rfl rfl h) ?_
  refine AD.op [1] rfl (by kernel_rfl) rfl rfl (fun _ _ h => AOp.fieldAddr rfl rfl (ltb rfl) rfl fo27_3 h) ?_
  refine AD.op [10] rfl (by kernel_rfl) rfl rfl (fun _ _ h => AOp.load1 rfl rfl (ltb rfl) rfl agg22 rfl rfl h) ?_
  obtain ⟨y1, q2, h0⟩ := bind_elim h0
  refine AD.op [11] rfl (by kernel_rfl) rfl rfl (fun _ _ h => AOp.callD rfl rfl (ltb rfl) rfl rfl (w_floats a0.Flat y1 q2) (by rintro _ rfl; exact h)) ?_
  refine AD.op [9] rfl (by kernel_rfl) rfl rfl (fun _ _ h => AOp.assign rfl rfl (ltb rfl) rfl h) ?_
  refine AD.op [12] rfl (by kernel_rfl) rfl rfl (fun _ _ h => AOp.assign rfl rfl (ltb rfl) rfl h) ?_
  refine AD.done ?_
  refine AO.nil ?_
  change AC _ _ _ _
  refine AC.seq ?_
  refine AC.seq ?_
  refine AC.region ?_
  refine AO.op rfl (AOp.fieldAddr rfl rfl (ltb rfl) rfl fo27_0 ?_)
  refine AO.op rfl (AOp.load1 rfl rfl (ltb rfl) rfl agg3 rfl rfl ?_)
  refine AO.nil ?_
  change AC _ _ _ _
  refine AC.block ?_
  refine AC.seq ?_
  refine AC.region ?_
  refine AO.op rfl (AOp.ieql rfl rfl (ltb rfl) rfl rfl ?_)
  refine AO.op rfl (AOp.assign rfl rfl (ltb rfl) rfl ?_)
  refine AO.nil ?_
  change AC _ _ _ _
  refine AC.cond rfl (fun q3 => ?_) (fun q3 => ?_)
  · replace h0 := cT h0 q3
    refine AC.seq ?_
    refine AC.room ?_
    obtain ⟨y4, q5, h0⟩ := bind_elim h0
    refine AC.drawS [0, 1, 2, 3, 4] [2] [5, 6, 7] (fun L => [.fix 27 [.d (di .i64 a0.Kind), .d (di .i64 a0.Layout), .d (di .i64 a0.SRID), .d (eS1 a0.Flat), .d (eS2 a0.Ends), .d (eS3 a0.Endss), .d (eS0 a0.Kids)], bif L 2 then .fix 113 [.d (di .i64 y4.geom0.layout), .d (di .i64 y4.geom0.stride), .d (eS1 y4.geom0.flatCoords), .d (di .i64 y4.geom0.srid)] else .dead]) [(2, SV.noO2 1 2)] mixed (by kernel_rfl) (fun L L' h => by simp only [h 2 (by decide)]) rfl ?_
    refine AS.op [3] [] [2] [] rfl rfl rfl (by kernel_rfl) (by kernel_rfl) rfl rfl (fun _ _ _ h => AOp.move rfl rfl (ltb rfl) rfl h) (by kernel_rfl) ?_
    refine AS.op [4] [] [2] [] rfl rfl rfl (by kernel_rfl) (by kernel_rfl) rfl rfl (fun _ _ _ h => AOp.move rfl rfl (ltb rfl) rfl h) (by kernel_rfl) ?_
    refine AS.mid [17, 18] [] [2] [] rfl rfl rfl rfl (by kernel_rfl) (by kernel_rfl) rfl rfl (fun _ _ _ h => AOp.callA rfl rfl (ltb rfl) rfl rfl (wa_NewPointFlat a0.Layout y1 y4 q5) (AO.sink 1 2 rfl rfl rfl (.cons rfl (.cons (noO2_cond rfl rfl) .nil)) rfl h)) (by kernel_rfl) rfl ?_
    refine AS.op [1] [] [] [2] rfl rfl rfl (by kernel_rfl) (by kernel_rfl) rfl rfl (fun _ _ _ h => AOp.fieldAddr rfl rfl (ltb rfl) rfl fo27_2 h) (by kernel_rfl) ?_
    refine AS.op [20] [] [] [2] rfl rfl rfl (by kernel_rfl) (by kernel_rfl) rfl rfl (fun _ _ _ h => AOp.load1 rfl rfl (ltb rfl) rfl agg3 rfl rfl h) (by kernel_rfl) ?_
    refine AS.done ?_
    refine AO.objs (obs' := [.fix 27 [.d (di .i64 a0.Kind), .d (di .i64 a0.Layout), .d (di .i64 a0.SRID), .d (eS1 a0.Flat), .d (eS2 a0.Ends), .d (eS3 a0.Endss), .d (eS0 a0.Kids)], .fix 113 [.d (di .i64 y4.geom0.layout), .d (di .i64 y4.geom0.stride), .d (eS1 y4.geom0.flatCoords), .d (di .i64 y4.geom0.srid)]]) rfl ?_
    refine AO.op rfl (AOp.inl [2] (by kernel_rfl) Try.func40 rfl Try.ntmps40 rfl rfl (ltb rfl) rfl (leb rfl) rfl ?_)
    intro fr6
    refine AC.seq ?_
    refine AC.region ?_
    refine AO.op rfl (AOp.assign rfl rfl (ltb rfl) rfl ?_)
    refine AO.nil ?_
    change AC _ _ _ _
    refine AC.seq ?_
    refine AC.region ?_
    refine AO.op rfl (AOp.move rfl rfl (ltb rfl) rfl ?_)
    refine AO.op rfl (AOp.move rfl rfl (ltb rfl) rfl ?_)
    refine AO.op rfl (AOp.nilCheck rfl rfl (ltb rfl) rfl rfl ?_)
    refine AO.op rfl (AOp.fieldAddr rfl rfl (ltb rfl) rfl fo113_0 ?_)
    refine AO.op rfl (AOp.fieldAddr rfl rfl (ltb rfl) rfl fo91_3 ?_)
    refine AO.op rfl (AOp.store rfl rfl rfl rfl size3 rfl rfl rfl (leb rfl) ?_)
    refine AO.nil ?_
    change AC _ _ _ _
    refine AC.seq ?_
    refine AC.region ?_
    refine AO.op rfl (AOp.move rfl rfl (ltb rfl) rfl ?_)
    refine AO.op rfl (AOp.assign rfl rfl (ltb rfl) rfl ?_)
    refine AO.nil ?_
    change AC _ _ _ _
    refine AC.ret ?_
    refine inlret (ob' := [.fix 27 [.d (di .i64 a0.Kind), .d (di .i64 a0.Layout), .d (di .i64 a0.SRID), .d (eS1 a0.Flat), .d (eS2 a0.Ends), .d (eS3 a0.Endss), .d (eS0 a0.Kids)], .fix 113 [.d (di .i64 y4.geom0.layout), .d (di .i64 y4.geom0.stride), .d (eS1 y4.geom0.flatCoords), .d (di .i64 a0.SRID)], .dead]) (e' := [(2, .d (.v (.nilIface)))]) (r := .ptr 1 0) rfl rfl rfl ?_
    change AO _ _ _ _ _
    refine AO.op rfl (AOp.makeIfc rfl rfl (ltb rfl) rfl conc64 ?_)
    refine AO.op rfl (AOp.assign rfl rfl (ltb rfl) rfl ?_)
    refine AO.nil ?_
    change AC _ _ _ _
    refine AC.ret ?_
    change RetQ _ _ _ .ret _
    obtain rfl := Option.some.inj h0
    refine retq rfl rfl
  replace h0 := cF h0 q3
  refine AC.seq ?_
  refine AC.region ?_
  refine AO.op rfl (AOp.ieql rfl rfl (ltb rfl) rfl rfl ?_)
  refine AO.op rfl (AOp.assign rfl rfl (ltb rfl) rfl ?_)
  refine AO.nil ?_
  change AC _ _ _ _
  refine AC.cond rfl (fun q7 => ?_) (fun q7 => ?_)
  · replace h0 := cT h0 q7
    refine AC.seq ?_
    refine AC.room ?_
    obtain ⟨y8, q9, h0⟩ := bind_elim h0
    refine AC.drawS [0, 1, 2, 3, 4] [2] [5, 6, 7] (fun L => [.fix 27 [.d (di .i64 a0.Kind), .d (di .i64 a0.Layout), .d (di .i64 a0.SRID), .d (eS1 a0.Flat), .d (eS2 a0.Ends), .d (eS3 a0.Endss), .d (eS0 a0.Kids)], bif L 2 then .fix 115 [.d (di .i64 y8.geom1.geom0.layout), .d (di .i64 y8.geom1.geom0.stride), .d (eS1 y8.geom1.geom0.flatCoords), .d (di .i64 y8.geom1.geom0.srid)] else .dead]) [(2, SV.noO2 1 2)] mixed (by kernel_rfl) (fun L L' h => by simp only [h 2 (by decide)]) rfl ?_
    refine AS.op [3] [] [2] [] rfl rfl rfl (by kernel_rfl) (by kernel_rfl) rfl rfl (fun _ _ _ h => AOp.move rfl rfl (ltb rfl) rfl h) (by kernel_rfl) ?_
    refine AS.op [4] [] [2] [] rfl rfl rfl (by kernel_rfl) (by kernel_rfl) rfl rfl (fun _ _ _ h => AOp.move rfl rfl (ltb rfl) rfl h) (by kernel_rfl) ?_
    refine AS.mid [26, 27] [] [2] [] rfl rfl rfl rfl (by kernel_rfl) (by kernel_rfl) rfl rfl (fun _ _ _ h => AOp.callA rfl rfl (ltb rfl) rfl rfl (wa_NewLineStringFlat a0.Layout y1 y8 q9) (AO.sink 1 2 rfl rfl rfl (.cons rfl (.cons (noO2_cond rfl rfl) .nil)) rfl h)) (by kernel_rfl) rfl ?_
    refine AS.op [1] [] [] [2] rfl rfl rfl (by kernel_rfl) (by kernel_rfl) rfl rfl (fun _ _ _ h => AOp.fieldAddr rfl rfl (ltb rfl) rfl fo27_2 h) (by kernel_rfl) ?_
    refine AS.op [29] [] [] [2] rfl rfl rfl (by kernel_rfl) (by kernel_rfl) rfl rfl (fun _ _ _ h => AOp.load1 rfl rfl (ltb rfl) rfl agg3 rfl rfl h) (by kernel_rfl) ?_
    refine AS.done ?_
    refine AO.objs (obs' := [.fix 27 [.d (di .i64 a0.Kind), .d (di .i64 a0.Layout), .d (di .i64 a0.SRID), .d (eS1 a0.Flat), .d (eS2 a0.Ends), .d (eS3 a0.Endss), .d (eS0 a0.Kids)], .fix 115 [.d (di .i64 y8.geom1.geom0.layout), .d (di .i64 y8.geom1.geom0.stride), .d (eS1 y8.geom1.geom0.flatCoords), .d (di .i64 y8.geom1.geom0.srid)]]) rfl ?_
    refine AO.op rfl (AOp.inl [2] (by kernel_rfl) Try.func42 rfl Try.ntmps42 rfl rfl (ltb rfl) rfl (leb rfl) rfl ?_)
    intro fr10
    refine AC.seq ?_
    refine AC.region ?_
    refine AO.op rfl (AOp.assign rfl rfl (ltb rfl) rfl ?_)
    refine AO.nil ?_
    change AC _ _ _ _
    refine AC.seq ?_
    refine AC.region ?_
    refine AO.op rfl (AOp.move rfl rfl (ltb rfl) rfl ?_)
    refine AO.op rfl (AOp.move rfl rfl (ltb rfl) rfl ?_)
    refine AO.op rfl (AOp.nilCheck rfl rfl (ltb rfl) rfl rfl ?_)
    refine AO.op rfl (AOp.fieldAddr rfl rfl (ltb rfl) rfl fo115_0 ?_)
    refine AO.op rfl (AOp.fieldAddr rfl rfl (ltb rfl) rfl fo93_0 ?_)
    refine AO.op rfl (AOp.fieldAddr rfl rfl (ltb rfl) rfl fo91_3 ?_)
    refine AO.op rfl (AOp.store rfl rfl rfl rfl size3 rfl rfl rfl (leb rfl) ?_)
    refine AO.nil ?_
    change AC _ _ _ _
    refine AC.seq ?_
    refine AC.region ?_
    refine AO.op rfl (AOp.move rfl rfl (ltb rfl) rfl ?_)
    refine AO.op rfl (AOp.assign rfl rfl (ltb rfl) rfl ?_)
    refine AO.nil ?_
    change AC _ _ _ _
    refine AC.ret ?_
    refine inlret (ob' := [.fix 27 [.d (di .i64 a0.Kind), .d (di .i64 a0.Layout), .d (di .i64 a0.SRID), .d (eS1 a0.Flat), .d (eS2 a0.Ends), .d (eS3 a0.Endss), .d (eS0 a0.Kids)], .fix 115 [.d (di .i64 y8.geom1.geom0.layout), .d (di .i64 y8.geom1.geom0.stride), .d (eS1 y8.geom1.geom0.flatCoords), .d (di .i64 a0.SRID)], .dead]) (e' := [(2, .d (.v (.nilIface)))]) (r := .ptr 1 0) rfl rfl rfl ?_
    change AO _ _ _ _ _
    refine AO.op rfl (AOp.makeIfc rfl rfl (ltb rfl) rfl conc67 ?_)
    refine AO.op rfl (AOp.assign rfl rfl (ltb rfl) rfl ?_)
    refine AO.nil ?_
    change AC _ _ _ _
    refine AC.ret ?_
    change RetQ _ _ _ .ret _
    obtain rfl := Option.some.inj h0
    refine retq rfl rfl
  replace h0 := cF h0 q7
  refine AC.seq ?_
  refine AC.region ?_
  refine AO.op rfl (AOp.ieql rfl rfl (ltb rfl) rfl rfl ?_)
  refine AO.op rfl (AOp.assign rfl rfl (ltb rfl) rfl ?_)
  refine AO.nil ?_
  change AC _ _ _ _
  refine AC.cond rfl (fun q11 => ?_) (fun q11 => ?_)
  · replace h0 := cT h0 q11
    refine AC.seq ?_
    refine AC.room ?_
    obtain ⟨y12, q13, h0⟩ := bind_elim h0
    refine AC.drawS [0, 1, 2, 3, 4] [2] [5, 6, 7] (fun L => [.fix 27 [.d (di .i64 a0.Kind), .d (di .i64 a0.Layout), .d (di .i64 a0.SRID), .d (eS1 a0.Flat), .d (eS2 a0.Ends), .d (eS3 a0.Endss), .d (eS0 a0.Kids)], bif L 2 then .fix 116 [.d (di .i64 y12.geom1.geom0.layout), .d (di .i64 y12.geom1.geom0.stride), .d (eS1 y12.geom1.geom0.flatCoords), .d (di .i64 y12.geom1.geom0.srid)] else .dead]) [(2, SV.noO2 1 2)] mixed (by kernel_rfl) (fun L L' h => by simp only [h 2 (by decide)]) rfl ?_
    refine AS.op [3] [] [2] [] rfl rfl rfl (by kernel_rfl) (by kernel_rfl) rfl rfl (fun _ _ _ h => AOp.move rfl rfl (ltb rfl) rfl h) (by kernel_rfl) ?_
    refine AS.op [4] [] [2] [] rfl rfl rfl (by kernel_rfl) (by kernel_rfl) rfl rfl (fun _ _ _ h => AOp.move rfl rfl (ltb rfl) rfl h) (by kernel_rfl) ?_
    refine AS.mid [35, 36] [] [2] [] rfl rfl rfl rfl (by kernel_rfl) (by kernel_rfl) rfl rfl (fun _ _ _ h => AOp.callA rfl rfl (ltb rfl) rfl rfl (wa_NewLinearRingFlat a0.Layout y1 y12 q13) (AO.sink 1 2 rfl rfl rfl (.cons rfl (.cons (noO2_cond rfl rfl) .nil)) rfl h)) (by kernel_rfl) rfl ?_
    refine AS.op [1] [] [] [2] rfl rfl rfl (by kernel_rfl) (by kernel_rfl) rfl rfl (fun _ _ _ h => AOp.fieldAddr rfl rfl (ltb rfl) rfl fo27_2 h) (by kernel_rfl) ?_
    refine AS.op [38] [] [] [2] rfl rfl rfl (by kernel_rfl) (by kernel_rfl) rfl rfl (fun _ _ _ h => AOp.load1 rfl rfl (ltb rfl) rfl agg3 rfl rfl h) (by kernel_rfl) ?_
    refine AS.done ?_
    refine AO.objs (obs' := [.fix 27 [.d (di .i64 a0.Kind), .d (di .i64 a0.Layout), .d (di .i64 a0.SRID), .d (eS1 a0.Flat), .d (eS2 a0.Ends), .d (eS3 a0.Endss), .d (eS0 a0.Kids)], .fix 116 [.d (di .i64 y12.geom1.geom0.layout), .d (di .i64 y12.geom1.geom0.stride), .d (eS1 y12.geom1.geom0.flatCoords), .d (di .i64 y12.geom1.geom0.srid)]]) rfl ?_
    refine AO.op rfl (AOp.inl [2] (by kernel_rfl) Try.func44 rfl Try.ntmps44 rfl rfl (ltb rfl) rfl (leb rfl) rfl ?_)
    intro fr14
    refine AC.seq ?_
    refine AC.region ?_
    refine AO.op rfl (AOp.assign rfl rfl (ltb rfl) rfl ?_)
    refine AO.nil ?_
    change AC _ _ _ _
    refine AC.seq ?_
    refine AC.region ?_
    refine AO.op rfl (AOp.move rfl rfl (ltb rfl) rfl ?_)
    refine AO.op rfl (AOp.move rfl rfl (ltb rfl) rfl ?_)
    refine AO.op rfl (AOp.nilCheck rfl rfl (ltb rfl) rfl rfl ?_)
    refine AO.op rfl (AOp.fieldAddr rfl rfl (ltb rfl) rfl fo116_0 ?_)
    refine AO.op rfl (AOp.fieldAddr rfl rfl (ltb rfl) rfl fo93_0 ?_)
    refine AO.op rfl (AOp.fieldAddr rfl rfl (ltb rfl) rfl fo91_3 ?_)
    refine AO.op rfl (AOp.store rfl rfl rfl rfl size3 rfl rfl rfl (leb rfl) ?_)
    refine AO.nil ?_
    change AC _ _ _ _
    refine AC.seq ?_
    refine AC.region ?_
    refine AO.op rfl (AOp.move rfl rfl (ltb rfl) rfl ?_)
    refine AO.op rfl (AOp.assign rfl rfl (ltb rfl) rfl ?_)
    refine AO.nil ?_
    change AC _ _ _ _
    refine AC.ret ?_
    refine inlret (ob' := [.fix 27 [.d (di .i64 a0.Kind), .d (di .i64 a0.Layout), .d (di .i64 a0.SRID), .d (eS1 a0.Flat), .d (eS2 a0.Ends), .d (eS3 a0.Endss), .d (eS0 a0.Kids)], .fix 116 [.d (di .i64 y12.geom1.geom0.layout), .d (di .i64 y12.geom1.geom0.stride), .d (eS1 y12.geom1.geom0.flatCoords), .d (di .i64 a0.SRID)], .dead]) (e' := [(2, .d (.v (.nilIface)))]) (r := .ptr 1 0) rfl rfl rfl ?_
    change AO _ _ _ _ _
    refine AO.op rfl (AOp.makeIfc rfl rfl (ltb rfl) rfl conc70 ?_)
    refine AO.op rfl (AOp.assign rfl rfl (ltb rfl) rfl ?_)
    refine AO.nil ?_
    change AC _ _ _ _
    refine AC.ret ?_
    change RetQ _ _ _ .ret _
    obtain rfl := Option.some.inj h0
    refine retq rfl rfl
  replace h0 := cF h0 q11
  refine AC.seq ?_
  refine AC.region ?_
  refine AO.op rfl (AOp.ieql rfl rfl (ltb rfl) rfl rfl ?_)
  refine AO.op rfl (AOp.assign rfl rfl (ltb rfl) rfl ?_)
  refine AO.nil ?_
  change AC _ _ _ _
  refine AC.cond rfl (fun q15 => ?_) (fun q15 => ?_)
  · replace h0 := cT h0 q15
    refine AC.seq ?_
    refine AC.room ?_
    obtain ⟨y16, q17, h0⟩ := bind_elim h0
    obtain ⟨y18, q19, h0⟩ := bind_elim h0
    refine AC.drawS [0, 1, 2, 3, 4, 5, 6, 7] [5] [8, 9, 10] (fun L => [.fix 27 [.d (di .i64 a0.Kind), .d (di .i64 a0.Layout), .d (di .i64 a0.SRID), .d (eS1 a0.Flat), .d (eS2 a0.Ends), .d (eS3 a0.Endss), .d (eS0 a0.Kids)], bif L 5 then .fix 97 [.d (di .i64 y18.geom2.geom1.geom0.layout), .d (di .i64 y18.geom2.geom1.geom0.stride), .d (eS1 y18.geom2.geom1.geom0.flatCoords), .d (di .i64 y18.geom2.geom1.geom0.srid), .d (eS2 y18.geom2.ends)] else .dead]) [(5, SV.noO2 1 2)] mixed (by kernel_rfl) (fun L L' h => by simp only [h 5 (by decide)]) rfl ?_
    refine AS.op [3] [] [5] [] rfl rfl rfl (by kernel_rfl) (by kernel_rfl) rfl rfl (fun _ _ _ h => AOp.move rfl rfl (ltb rfl) rfl h) (by kernel_rfl) ?_
    refine AS.op [4] [] [5] [] rfl rfl rfl (by kernel_rfl) (by kernel_rfl) rfl rfl (fun _ _ _ h => AOp.move rfl rfl (ltb rfl) rfl h) (by kernel_rfl) ?_
    refine AS.op [1] [] [5] [] rfl rfl rfl (by kernel_rfl) (by kernel_rfl) rfl rfl (fun _ _ _ h => AOp.fieldAddr rfl rfl (ltb rfl) rfl fo27_4 h) (by kernel_rfl) ?_
    refine AS.op [46] [] [5] [] rfl rfl rfl (by kernel_rfl) (by kernel_rfl) rfl rfl (fun _ _ _ h => AOp.load1 rfl rfl (ltb rfl) rfl agg23 rfl rfl h) (by kernel_rfl) ?_
    refine AS.op [47] [] [5] [] rfl rfl rfl (by kernel_rfl) (by kernel_rfl) rfl rfl (fun _ _ _ h => AOp.callD rfl rfl (ltb rfl) rfl rfl (w_ints a0.Ends y16 q17) (by rintro _ rfl; exact h)) (by kernel_rfl) ?_
    refine AS.mid [44, 45, 48] [] [5] [] rfl rfl rfl rfl (by kernel_rfl) (by kernel_rfl) rfl rfl (fun _ _ _ h => AOp.callA rfl rfl (ltb rfl) rfl rfl (wa_NewPolygonFlat a0.Layout y1 y16 y18 q19) (AO.sink 1 2 rfl rfl rfl (.cons rfl (.cons (noO2_cond rfl rfl) .nil)) rfl h)) (by kernel_rfl) rfl ?_
    refine AS.op [1] [] [] [5] rfl rfl rfl (by kernel_rfl) (by kernel_rfl) rfl rfl (fun _ _ _ h => AOp.fieldAddr rfl rfl (ltb rfl) rfl fo27_2 h) (by kernel_rfl) ?_
    refine AS.op [50] [] [] [5] rfl rfl rfl (by kernel_rfl) (by kernel_rfl) rfl rfl (fun _ _ _ h => AOp.load1 rfl rfl (ltb rfl) rfl agg3 rfl rfl h) (by kernel_rfl) ?_
    refine AS.done ?_
    refine AO.objs (obs' := [.fix 27 [.d (di .i64 a0.Kind), .d (di .i64 a0.Layout), .d (di .i64 a0.SRID), .d (eS1 a0.Flat), .d (eS2 a0.Ends), .d (eS3 a0.Endss), .d (eS0 a0.Kids)], .fix 97 [.d (di .i64 y18.geom2.geom1.geom0.layout), .d (di .i64 y18.geom2.geom1.geom0.stride), .d (eS1 y18.geom2.geom1.geom0.flatCoords), .d (di .i64 y18.geom2.geom1.geom0.srid), .d (eS2 y18.geom2.ends)]]) rfl ?_
    refine AO.op rfl (AOp.inl [2] (by kernel_rfl) Try.func47 rfl Try.ntmps47 rfl rfl (ltb rfl) rfl (leb rfl) rfl ?_)
    intro fr20
    refine AC.seq ?_
    refine AC.region ?_
    refine AO.op rfl (AOp.assign rfl rfl (ltb rfl) rfl ?_)
    refine AO.nil ?_
    change AC _ _ _ _
    refine AC.seq ?_
    refine AC.region ?_
    refine AO.op rfl (AOp.move rfl rfl (ltb rfl) rfl ?_)
    refine AO.op rfl (AOp.move rfl rfl (ltb rfl) rfl ?_)
    refine AO.op rfl (AOp.nilCheck rfl rfl (ltb rfl) rfl rfl ?_)
    refine AO.op rfl (AOp.fieldAddr rfl rfl (ltb rfl) rfl fo97_0 ?_)
    refine AO.op rfl (AOp.fieldAddr rfl rfl (ltb rfl) rfl fo95_0 ?_)
    refine AO.op rfl (AOp.fieldAddr rfl rfl (ltb rfl) rfl fo93_0 ?_)
    refine AO.op rfl (AOp.fieldAddr rfl rfl (ltb rfl) rfl fo91_3 ?_)
    refine AO.op rfl (AOp.store rfl rfl rfl rfl size3 rfl rfl rfl (leb rfl) ?_)
    refine AO.nil ?_
    change AC _ _ _ _
    refine AC.seq ?_
    refine AC.region ?_
    refine AO.op rfl (AOp.move rfl rfl (ltb rfl) rfl ?_)
    refine AO.op rfl (AOp.assign rfl rfl (ltb rfl) rfl ?_)
    refine AO.nil ?_
    change AC _ _ _ _
    refine AC.ret ?_
    refine inlret (ob' := [.fix 27 [.d (di .i64 a0.Kind), .d (di .i64 a0.Layout), .d (di .i64 a0.SRID), .d (eS1 a0.Flat), .d (eS2 a0.Ends), .d (eS3 a0.Endss), .d (eS0 a0.Kids)], .fix 97 [.d (di .i64 y18.geom2.geom1.geom0.layout), .d (di .i64 y18.geom2.geom1.geom0.stride), .d (eS1 y18.geom2.geom1.geom0.flatCoords), .d (di .i64 a0.SRID), .d (eS2 y18.geom2.ends)], .dead]) (e' := [(2, .d (.v (.nilIface)))]) (r := .ptr 1 0) rfl rfl rfl ?_
    change AO _ _ _ _ _
    refine AO.op rfl (AOp.makeIfc rfl rfl (ltb rfl) rfl conc49 ?_)
    refine AO.op rfl (AOp.assign rfl rfl (ltb rfl) rfl ?_)
    refine AO.nil ?_
    change AC _ _ _ _
    refine AC.ret ?_
    change RetQ _ _ _ .ret _
    obtain rfl := Option.some.inj h0
    refine retq rfl rfl
  replace h0 := cF h0 q15
  refine AC.seq ?_
  refine AC.region ?_
  refine AO.op rfl (AOp.ieql rfl rfl (ltb rfl) rfl rfl ?_)
  refine AO.op rfl (AOp.assign rfl rfl (ltb rfl) rfl ?_)
  refine AO.nil ?_
  change AC _ _ _ _
  refine AC.cond rfl (fun q21 => ?_) (fun q21 => ?_)
  · replace h0 := cT h0 q21
    refine AC.seq ?_
    refine AC.room ?_
    obtain ⟨y22, q23, h0⟩ := bind_elim h0
    obtain ⟨y24, q25, h0⟩ := bind_elim h0
    obtain ⟨y26, q27, h0⟩ := bind_elim h0
    refine AC.drawS [0, 1, 2, 3, 4, 5, 6, 7, 8, 9] [7] [10, 11, 12] (fun L => [.fix 27 [.d (di .i64 a0.Kind), .d (di .i64 a0.Layout), .d (di .i64 a0.SRID), .d (eS1 a0.Flat), .d (eS2 a0.Ends), .d (eS3 a0.Endss), .d (eS0 a0.Kids)], bif L 7 then .fix 98 [.d (di .i64 y26.geom2.geom1.geom0.layout), .d (di .i64 y26.geom2.geom1.geom0.stride), .d (eS1 y26.geom2.geom1.geom0.flatCoords), .d (di .i64 y26.geom2.geom1.geom0.srid), .d (eS2 y26.geom2.ends)] else .dead]) [(7, SV.noO2 1 2)] mixed (by kernel_rfl) (fun L L' h => by simp only [h 7 (by decide)]) rfl ?_
    refine AS.op [3] [] [7] [] rfl rfl rfl (by kernel_rfl) (by kernel_rfl) rfl rfl (fun _ _ _ h => AOp.move rfl rfl (ltb rfl) rfl h) (by kernel_rfl) ?_
    refine AS.op [4] [] [7] [] rfl rfl rfl (by kernel_rfl) (by kernel_rfl) rfl rfl (fun _ _ _ h => AOp.move rfl rfl (ltb rfl) rfl h) (by kernel_rfl) ?_
    refine AS.op [1] [] [7] [] rfl rfl rfl (by kernel_rfl) (by kernel_rfl) rfl rfl (fun _ _ _ h => AOp.fieldAddr rfl rfl (ltb rfl) rfl fo27_4 h) (by kernel_rfl) ?_
    refine AS.op [58] [] [7] [] rfl rfl rfl (by kernel_rfl) (by kernel_rfl) rfl rfl (fun _ _ _ h => AOp.load1 rfl rfl (ltb rfl) rfl agg23 rfl rfl h) (by kernel_rfl) ?_
    refine AS.op [59] [] [7] [] rfl rfl rfl (by kernel_rfl) (by kernel_rfl) rfl rfl (fun _ _ _ h => AOp.callD rfl rfl (ltb rfl) rfl rfl (w_ints a0.Ends y22 q23) (by rintro _ rfl; exact h)) (by kernel_rfl) ?_
    refine AS.op [60] [] [7] [] rfl rfl rfl (by kernel_rfl) (by kernel_rfl) rfl rfl (fun _ _ _ h => AOp.callD rfl rfl (ltb rfl) rfl rfl (w_NewMultiPointFlatOptionWithEnds y22 y24 q25) (by rintro _ rfl; exact h)) (by kernel_rfl) ?_
    refine AS.op [61] [] [7] [] rfl rfl rfl (by kernel_rfl) (by kernel_rfl) rfl rfl (fun _ _ _ h => AOp.buildSliceD rfl rfl (ltb rfl) el117 zero78 rfl (leb rfl) rfl rfl rfl rfl h) (by kernel_rfl) ?_
    refine AS.mid [56, 57, 62] [] [7] [] rfl rfl rfl rfl (by kernel_rfl) (by kernel_rfl) rfl rfl (fun _ _ _ h => AOp.callA rfl rfl (ltb rfl) rfl rfl (wa_NewMultiPointFlat F a0.Layout y1 [y24] y26 q27) (AO.sink 1 2 rfl rfl rfl (.cons rfl (.cons (noO2_cond rfl rfl) .nil)) rfl h)) (by kernel_rfl) rfl ?_
    refine AS.op [1] [] [] [7] rfl rfl rfl (by kernel_rfl) (by kernel_rfl) rfl rfl (fun _ _ _ h => AOp.fieldAddr rfl rfl (ltb rfl) rfl fo27_2 h) (by kernel_rfl) ?_
    refine AS.op [64] [] [] [7] rfl rfl rfl (by kernel_rfl) (by kernel_rfl) rfl rfl (fun _ _ _ h => AOp.load1 rfl rfl (ltb rfl) rfl agg3 rfl rfl h) (by kernel_rfl) ?_
    refine AS.done ?_
    refine AO.objs (obs' := [.fix 27 [.d (di .i64 a0.Kind), .d (di .i64 a0.Layout), .d (di .i64 a0.SRID), .d (eS1 a0.Flat), .d (eS2 a0.Ends), .d (eS3 a0.Endss), .d (eS0 a0.Kids)], .fix 98 [.d (di .i64 y26.geom2.geom1.geom0.layout), .d (di .i64 y26.geom2.geom1.geom0.stride), .d (eS1 y26.geom2.geom1.geom0.flatCoords), .d (di .i64 y26.geom2.geom1.geom0.srid), .d (eS2 y26.geom2.ends)]]) rfl ?_
    refine AO.op rfl (AOp.inl [2] (by kernel_rfl) Try.func50 rfl Try.ntmps50 rfl rfl (ltb rfl) rfl (leb rfl) rfl ?_)
    intro fr28
    refine AC.seq ?_
    refine AC.region ?_
    refine AO.op rfl (AOp.assign rfl rfl (ltb rfl) rfl ?_)
    refine AO.nil ?_
    change AC _ _ _ _
    refine AC.seq ?_
    refine AC.region ?_
    refine AO.op rfl (AOp.move rfl rfl (ltb rfl) rfl ?_)
    refine AO.op rfl (AOp.move rfl rfl (ltb rfl) rfl ?_)
    refine AO.op rfl (AOp.nilCheck rfl rfl (ltb rfl) rfl rfl ?_)
    refine AO.op rfl (AOp.fieldAddr rfl rfl (ltb rfl) rfl fo98_0 ?_)
    refine AO.op rfl (AOp.fieldAddr rfl rfl (ltb rfl) rfl fo95_0 ?_)
    refine AO.op rfl (AOp.fieldAddr rfl rfl (ltb rfl) rfl fo93_0 ?_)
    refine AO.op rfl (AOp.fieldAddr rfl rfl (ltb rfl) rfl fo91_3 ?_)
    refine AO.op rfl (AOp.store rfl rfl rfl rfl size3 rfl rfl rfl (leb rfl) ?_)
    refine AO.nil ?_
    change AC _ _ _ _
    refine AC.seq ?_
    refine AC.region ?_
    refine AO.op rfl (AOp.move rfl rfl (ltb rfl) rfl ?_)
    refine AO.op rfl (AOp.assign rfl rfl (ltb rfl) rfl ?_)
    refine AO.nil ?_
    change AC _ _ _ _
    refine AC.ret ?_
    refine inlret (ob' := [.fix 27 [.d (di .i64 a0.Kind), .d (di .i64 a0.Layout), .d (di .i64 a0.SRID), .d (eS1 a0.Flat), .d (eS2 a0.Ends), .d (eS3 a0.Endss), .d (eS0 a0.Kids)], .fix 98 [.d (di .i64 y26.geom2.geom1.geom0.layout), .d (di .i64 y26.geom2.geom1.geom0.stride), .d (eS1 y26.geom2.geom1.geom0.flatCoords), .d (di .i64 a0.SRID), .d (eS2 y26.geom2.ends)], .dead]) (e' := [(2, .d (.v (.nilIface)))]) (r := .ptr 1 0) rfl rfl rfl ?_
    change AO _ _ _ _ _
    refine AO.op rfl (AOp.makeIfc rfl rfl (ltb rfl) rfl conc51 ?_)
    refine AO.op rfl (AOp.assign rfl rfl (ltb rfl) rfl ?_)
    refine AO.nil ?_
    change AC _ _ _ _
    refine AC.ret ?_
    change RetQ _ _ _ .ret _
    obtain rfl := Option.some.inj h0
    refine retq rfl rfl
  replace h0 := cF h0 q21
  refine AC.seq ?_
  refine AC.region ?_
  refine AO.op rfl (AOp.ieql rfl rfl (ltb rfl) rfl rfl ?_)
  refine AO.op rfl (AOp.assign rfl rfl (ltb rfl) rfl ?_)
  refine AO.nil ?_
  change AC _ _ _ _
  refine AC.cond rfl (fun q29 => ?_) (fun q29 => ?_)
  · replace h0 := cT h0 q29
    refine AC.seq ?_
    refine AC.room ?_
    obtain ⟨y30, q31, h0⟩ := bind_elim h0
    obtain ⟨y32, q33, h0⟩ := bind_elim h0
    refine AC.drawS [0, 1, 2, 3, 4, 5, 6, 7] [5] [8, 9, 10] (fun L => [.fix 27 [.d (di .i64 a0.Kind), .d (di .i64 a0.Layout), .d (di .i64 a0.SRID), .d (eS1 a0.Flat), .d (eS2 a0.Ends), .d (eS3 a0.Endss), .d (eS0 a0.Kids)], bif L 5 then .fix 99 [.d (di .i64 y32.geom2.geom1.geom0.layout), .d (di .i64 y32.geom2.geom1.geom0.stride), .d (eS1 y32.geom2.geom1.geom0.flatCoords), .d (di .i64 y32.geom2.geom1.geom0.srid), .d (eS2 y32.geom2.ends)] else .dead]) [(5, SV.noO2 1 2)] mixed (by kernel_rfl) (fun L L' h => by simp only [h 5 (by decide)]) rfl ?_
    refine AS.op [3] [] [5] [] rfl rfl rfl (by kernel_rfl) (by kernel_rfl) rfl rfl (fun _ _ _ h => AOp.move rfl rfl (ltb rfl) rfl h) (by kernel_rfl) ?_
    refine AS.op [4] [] [5] [] rfl rfl rfl (by kernel_rfl) (by kernel_rfl) rfl rfl (fun _ _ _ h => AOp.move rfl rfl (ltb rfl) rfl h) (by kernel_rfl) ?_
    refine AS.op [1] [] [5] [] rfl rfl rfl (by kernel_rfl) (by kernel_rfl) rfl rfl (fun _ _ _ h => AOp.fieldAddr rfl rfl (ltb rfl) rfl fo27_4 h) (by kernel_rfl) ?_
    refine AS.op [72] [] [5] [] rfl rfl rfl (by kernel_rfl) (by kernel_rfl) rfl rfl (fun _ _ _ h => AOp.load1 rfl rfl (ltb rfl) rfl agg23 rfl rfl h) (by kernel_rfl) ?_
    refine AS.op [73] [] [5] [] rfl rfl rfl (by kernel_rfl) (by kernel_rfl) rfl rfl (fun _ _ _ h => AOp.callD rfl rfl (ltb rfl) rfl rfl (w_ints a0.Ends y30 q31) (by rintro _ rfl; exact h)) (by kernel_rfl) ?_
    refine AS.mid [70, 71, 74] [] [5] [] rfl rfl rfl rfl (by kernel_rfl) (by kernel_rfl) rfl rfl (fun _ _ _ h => AOp.callA rfl rfl (ltb rfl) rfl rfl (wa_NewMultiLineStringFlat a0.Layout y1 y30 y32 q33) (AO.sink 1 2 rfl rfl rfl (.cons rfl (.cons (noO2_cond rfl rfl) .nil)) rfl h)) (by kernel_rfl) rfl ?_
    refine AS.op [1] [] [] [5] rfl rfl rfl (by kernel_rfl) (by kernel_rfl) rfl rfl (fun _ _ _ h => AOp.fieldAddr rfl rfl (ltb rfl) rfl fo27_2 h) (by kernel_rfl) ?_
    refine AS.op [76] [] [] [5] rfl rfl rfl (by kernel_rfl) (by kernel_rfl) rfl rfl (fun _ _ _ h => AOp.load1 rfl rfl (ltb rfl) rfl agg3 rfl rfl h) (by kernel_rfl) ?_
    refine AS.done ?_
    refine AO.objs (obs' := [.fix 27 [.d (di .i64 a0.Kind), .d (di .i64 a0.Layout), .d (di .i64 a0.SRID), .d (eS1 a0.Flat), .d (eS2 a0.Ends), .d (eS3 a0.Endss), .d (eS0 a0.Kids)], .fix 99 [.d (di .i64 y32.geom2.geom1.geom0.layout), .d (di .i64 y32.geom2.geom1.geom0.stride), .d (eS1 y32.geom2.geom1.geom0.flatCoords), .d (di .i64 y32.geom2.geom1.geom0.srid), .d (eS2 y32.geom2.ends)]]) rfl ?_
    refine AO.op rfl (AOp.inl [2] (by kernel_rfl) Try.func52 rfl Try.ntmps52 rfl rfl (ltb rfl) rfl (leb rfl) rfl ?_)
    intro fr34
    refine AC.seq ?_
    refine AC.region ?_
    refine AO.op rfl (AOp.assign rfl rfl (ltb rfl) rfl ?_)
    refine AO.nil ?_
    change AC _ _ _ _
    refine AC.seq ?_
    refine AC.region ?_
    refine AO.op rfl (AOp.move rfl rfl (ltb rfl) rfl ?_)
    refine AO.op rfl (AOp.move rfl rfl (ltb rfl) rfl ?_)
    refine AO.op rfl (AOp.nilCheck rfl rfl (ltb rfl) rfl rfl ?_)
    refine AO.op rfl (AOp.fieldAddr rfl rfl (ltb rfl) rfl fo99_0 ?_)
    refine AO.op rfl (AOp.fieldAddr rfl rfl (ltb rfl) rfl fo95_0 ?_)
    refine AO.op rfl (AOp.fieldAddr rfl rfl (ltb rfl) rfl fo93_0 ?_)
    refine AO.op rfl (AOp.fieldAddr rfl rfl (ltb rfl) rfl fo91_3 ?_)
    refine AO.op rfl (AOp.store rfl rfl rfl rfl size3 rfl rfl rfl (leb rfl) ?_)
    refine AO.nil ?_
    change AC _ _ _ _
    refine AC.seq ?_
    refine AC.region ?_
    refine AO.op rfl (AOp.move rfl rfl (ltb rfl) rfl ?_)
    refine AO.op rfl (AOp.assign rfl rfl (ltb rfl) rfl ?_)
    refine AO.nil ?_
    change AC _ _ _ _
    refine AC.ret ?_
    refine inlret (ob' := [.fix 27 [.d (di .i64 a0.Kind), .d (di .i64 a0.Layout), .d (di .i64 a0.SRID), .d (eS1 a0.Flat), .d (eS2 a0.Ends), .d (eS3 a0.Endss), .d (eS0 a0.Kids)], .fix 99 [.d (di .i64 y32.geom2.geom1.geom0.layout), .d (di .i64 y32.geom2.geom1.geom0.stride), .d (eS1 y32.geom2.geom1.geom0.flatCoords), .d (di .i64 a0.SRID), .d (eS2 y32.geom2.ends)], .dead]) (e' := [(2, .d (.v (.nilIface)))]) (r := .ptr 1 0) rfl rfl rfl ?_
    change AO _ _ _ _ _
    refine AO.op rfl (AOp.makeIfc rfl rfl (ltb rfl) rfl conc52 ?_)
    refine AO.op rfl (AOp.assign rfl rfl (ltb rfl) rfl ?_)
    refine AO.nil ?_
    change AC _ _ _ _
    refine AC.ret ?_
    change RetQ _ _ _ .ret _
    obtain rfl := Option.some.inj h0
    refine retq rfl rfl
  replace h0 := cF h0 q29
  refine AC.seq ?_
  refine AC.region ?_
  refine AO.op rfl (AOp.ieql rfl rfl (ltb rfl) rfl rfl ?_)
  refine AO.op rfl (AOp.assign rfl rfl (ltb rfl) rfl ?_)
  refine AO.nil ?_
  change AC _ _ _ _
  refine AC.cond rfl (fun q35 => ?_) (fun q35 => ?_)
  · replace h0 := cT h0 q35
    refine AC.seq ?_
    refine AC.room ?_
    obtain ⟨y36, q37, h0⟩ := bind_elim h0
    obtain ⟨y38, q39, h0⟩ := bind_elim h0
    refine AC.drawS [0, 1, 2, 3, 4, 5, 6, 7] [5] [8, 9, 10] (fun L => [.fix 27 [.d (di .i64 a0.Kind), .d (di .i64 a0.Layout), .d (di .i64 a0.SRID), .d (eS1 a0.Flat), .d (eS2 a0.Ends), .d (eS3 a0.Endss), .d (eS0 a0.Kids)], bif L 5 then .fix 103 [.d (di .i64 y38.geom3.geom1.geom0.layout), .d (di .i64 y38.geom3.geom1.geom0.stride), .d (eS1 y38.geom3.geom1.geom0.flatCoords), .d (di .i64 y38.geom3.geom1.geom0.srid), .d (eS3 y38.geom3.endss)] else .dead]) [(5, SV.noO2 1 2)] mixed (by kernel_rfl) (fun L L' h => by simp only [h 5 (by decide)]) rfl ?_
    refine AS.op [3] [] [5] [] rfl rfl rfl (by kernel_rfl) (by kernel_rfl) rfl rfl (fun _ _ _ h => AOp.move rfl rfl (ltb rfl) rfl h) (by kernel_rfl) ?_
    refine AS.op [4] [] [5] [] rfl rfl rfl (by kernel_rfl) (by kernel_rfl) rfl rfl (fun _ _ _ h => AOp.move rfl rfl (ltb rfl) rfl h) (by kernel_rfl) ?_
    refine AS.op [1] [] [5] [] rfl rfl rfl (by kernel_rfl) (by kernel_rfl) rfl rfl (fun _ _ _ h => AOp.fieldAddr rfl rfl (ltb rfl) rfl fo27_5 h) (by kernel_rfl) ?_
    refine AS.op [84] [] [5] [] rfl rfl rfl (by kernel_rfl) (by kernel_rfl) rfl rfl (fun _ _ _ h => AOp.load1 rfl rfl (ltb rfl) rfl agg24 rfl rfl h) (by kernel_rfl) ?_
    refine AS.op [85] [] [5] [] rfl rfl rfl (by kernel_rfl) (by kernel_rfl) rfl rfl (fun _ _ _ h => AOp.callD rfl rfl (ltb rfl) rfl rfl (w_intss F a0.Endss y36 q37) (by rintro _ rfl; exact h)) (by kernel_rfl) ?_
    refine AS.mid [82, 83, 86] [] [5] [] rfl rfl rfl rfl (by kernel_rfl) (by kernel_rfl) rfl rfl (fun _ _ _ h => AOp.callA rfl rfl (ltb rfl) rfl rfl (wa_NewMultiPolygonFlat a0.Layout y1 y36 y38 q39) (AO.sink 1 2 rfl rfl rfl (.cons rfl (.cons (noO2_cond rfl rfl) .nil)) rfl h)) (by kernel_rfl) rfl ?_
    refine AS.op [1] [] [] [5] rfl rfl rfl (by kernel_rfl) (by kernel_rfl) rfl rfl (fun _ _ _ h => AOp.fieldAddr rfl rfl (ltb rfl) rfl fo27_2 h) (by kernel_rfl) ?_
    refine AS.op [88] [] [] [5] rfl rfl rfl (by kernel_rfl) (by kernel_rfl) rfl rfl (fun _ _ _ h => AOp.load1 rfl rfl (ltb rfl) rfl agg3 rfl rfl h) (by kernel_rfl) ?_
    refine AS.done ?_
    refine AO.objs (obs' := [.fix 27 [.d (di .i64 a0.Kind), .d (di .i64 a0.Layout), .d (di .i64 a0.SRID), .d (eS1 a0.Flat), .d (eS2 a0.Ends), .d (eS3 a0.Endss), .d (eS0 a0.Kids)], .fix 103 [.d (di .i64 y38.geom3.geom1.geom0.layout), .d (di .i64 y38.geom3.geom1.geom0.stride), .d (eS1 y38.geom3.geom1.geom0.flatCoords), .d (di .i64 y38.geom3.geom1.geom0.srid), .d (eS3 y38.geom3.endss)]]) rfl ?_
    refine AO.op rfl (AOp.inl [2] (by kernel_rfl) Try.func55 rfl Try.ntmps55 rfl rfl (ltb rfl) rfl (leb rfl) rfl ?_)
    intro fr40
    refine AC.seq ?_
    refine AC.region ?_
    refine AO.op rfl (AOp.assign rfl rfl (ltb rfl) rfl ?_)
    refine AO.nil ?_
    change AC _ _ _ _
    refine AC.seq ?_
    refine AC.region ?_
    refine AO.op rfl (AOp.move rfl rfl (ltb rfl) rfl ?_)
    refine AO.op rfl (AOp.move rfl rfl (ltb rfl) rfl ?_)
    refine AO.op rfl (AOp.nilCheck rfl rfl (ltb rfl) rfl rfl ?_)
    refine AO.op rfl (AOp.fieldAddr rfl rfl (ltb rfl) rfl fo103_0 ?_)
    refine AO.op rfl (AOp.fieldAddr rfl rfl (ltb rfl) rfl fo101_0 ?_)
    refine AO.op rfl (AOp.fieldAddr rfl rfl (ltb rfl) rfl fo93_0 ?_)
    refine AO.op rfl (AOp.fieldAddr rfl rfl (ltb rfl) rfl fo91_3 ?_)
    refine AO.op rfl (AOp.store rfl rfl rfl rfl size3 rfl rfl rfl (leb rfl) ?_)
    refine AO.nil ?_
    change AC _ _ _ _
    refine AC.seq ?_
    refine AC.region ?_
    refine AO.op rfl (AOp.move rfl rfl (ltb rfl) rfl ?_)
    refine AO.op rfl (AOp.assign rfl rfl (ltb rfl) rfl ?_)
    refine AO.nil ?_
    change AC _ _ _ _
    refine AC.ret ?_
    refine inlret (ob' := [.fix 27 [.d (di .i64 a0.Kind), .d (di .i64 a0.Layout), .d (di .i64 a0.SRID), .d (eS1 a0.Flat), .d (eS2 a0.Ends), .d (eS3 a0.Endss), .d (eS0 a0.Kids)], .fix 103 [.d (di .i64 y38.geom3.geom1.geom0.layout), .d (di .i64 y38.geom3.geom1.geom0.stride), .d (eS1 y38.geom3.geom1.geom0.flatCoords), .d (di .i64 a0.SRID), .d (eS3 y38.geom3.endss)], .dead]) (e' := [(2, .d (.v (.nilIface)))]) (r := .ptr 1 0) rfl rfl rfl ?_
    change AO _ _ _ _ _
    refine AO.op rfl (AOp.makeIfc rfl rfl (ltb rfl) rfl conc53 ?_)
    refine AO.op rfl (AOp.assign rfl rfl (ltb rfl) rfl ?_)
    refine AO.nil ?_
    change AC _ _ _ _
    refine AC.ret ?_
    change RetQ _ _ _ .ret _
    obtain rfl := Option.some.inj h0
    refine retq rfl rfl
  replace h0 := cF h0 q35
  refine AC.seq ?_
  refine AC.region ?_
  refine AO.op rfl (AOp.ieql rfl rfl (ltb rfl) rfl rfl ?_)
  refine AO.op rfl (AOp.assign rfl rfl (ltb rfl) rfl ?_)
  refine AO.nil ?_
  change AC _ _ _ _
  refine AC.cond rfl (fun q41 => ?_) (fun q41 => ?_)
  · replace h0 := cT h0 q41
    refine AC.seq ?_
    refine AC.room ?_
    obtain ⟨y42, q43, h0⟩ := bind_elim h0
    refine AC.drawS [0, 1, 2] [0] [3, 4] (fun L => [.fix 27 [.d (di .i64 a0.Kind), .d (di .i64 a0.Layout), .d (di .i64 a0.SRID), .d (eS1 a0.Flat), .d (eS2 a0.Ends), .d (eS3 a0.Endss), .d (eS0 a0.Kids)], bif L 0 then .fix 106 [.d (di .i64 (0 : Int)), .d (.v (.slice none 0 0)), .d (di .i64 (0 : Int))] else .dead]) [(0, SV.noO2 1 2)] mixed (by kernel_rfl) (fun L L' h => by simp only [h 0 (by decide)]) rfl ?_
    refine AS.mid [] [] [0] [] rfl rfl rfl rfl (by kernel_rfl) (by kernel_rfl) rfl rfl (fun _ _ _ h => AOp.callA rfl rfl (ltb rfl) rfl rfl (wa_NewGeometryCollection  y42 q43) (AO.sink 1 2 rfl rfl rfl (.cons rfl (.cons (noO2_cond rfl rfl) .nil)) rfl h)) (by kernel_rfl) rfl ?_
    refine AS.op [1] [] [] [0] rfl rfl rfl (by kernel_rfl) (by kernel_rfl) rfl rfl (fun _ _ _ h => AOp.fieldAddr rfl rfl (ltb rfl) rfl fo27_2 h) (by kernel_rfl) ?_
    refine AS.op [95] [] [] [0] rfl rfl rfl (by kernel_rfl) (by kernel_rfl) rfl rfl (fun _ _ _ h => AOp.load1 rfl rfl (ltb rfl) rfl agg3 rfl rfl h) (by kernel_rfl) ?_
    refine AS.done ?_
    refine AO.objs (obs' := [.fix 27 [.d (di .i64 a0.Kind), .d (di .i64 a0.Layout), .d (di .i64 a0.SRID), .d (eS1 a0.Flat), .d (eS2 a0.Ends), .d (eS3 a0.Endss), .d (eS0 a0.Kids)], .fix 106 [.d (di .i64 (0 : Int)), .d (.v (.slice none 0 0)), .d (di .i64 (0 : Int))]]) rfl ?_
    refine AO.op rfl (AOp.inl [1, 3] (by kernel_rfl) Try.func57 rfl Try.ntmps57 rfl rfl (ltb rfl) rfl (leb rfl) rfl ?_)
    intro fr44
    refine AC.seq ?_
    refine AC.region ?_
    refine AO.op rfl (AOp.assign rfl rfl (ltb rfl) rfl ?_)
    refine AO.nil ?_
    change AC _ _ _ _
    refine AC.seq ?_
    refine AC.region ?_
    refine AO.op rfl (AOp.move rfl rfl (ltb rfl) rfl ?_)
    refine AO.op rfl (AOp.move rfl rfl (ltb rfl) rfl ?_)
    refine AO.op rfl (AOp.nilCheck rfl rfl (ltb rfl) rfl rfl ?_)
    refine AO.op rfl (AOp.fieldAddr rfl rfl (ltb rfl) rfl fo106_2 ?_)
    refine AO.op rfl (AOp.store rfl rfl rfl rfl size3 rfl rfl rfl (leb rfl) ?_)
    refine AO.nil ?_
    change AC _ _ _ _
    refine AC.seq ?_
    refine AC.region ?_
    refine AO.op rfl (AOp.move rfl rfl (ltb rfl) rfl ?_)
    refine AO.op rfl (AOp.assign rfl rfl (ltb rfl) rfl ?_)
    refine AO.nil ?_
    change AC _ _ _ _
    refine AC.ret ?_
    refine inlret (ob' := [.fix 27 [.d (di .i64 a0.Kind), .d (di .i64 a0.Layout), .d (di .i64 a0.SRID), .d (eS1 a0.Flat), .d (eS2 a0.Ends), .d (eS3 a0.Endss), .d (eS0 a0.Kids)], .fix 106 [.d (di .i64 (0 : Int)), .d (.v (.slice none 0 0)), .d (di .i64 a0.SRID)], .dead]) (e' := [(1, .ptr 0 0), (3, .d (di .i64 a0.Layout))]) (r := .ptr 1 0) rfl rfl rfl ?_
    change AO _ _ _ _ _
    refine AO.op rfl (AOp.assign rfl rfl (ltb rfl) rfl ?_)
    refine AO.nil ?_
    change AC _ _ _ _
    refine AC.seq ?_
    refine AC.seq ?_
    refine AC.region ?_
    refine AO.op rfl (AOp.fieldAddr rfl rfl (ltb rfl) rfl fo27_6 ?_)
    refine AO.op rfl (AOp.load1 rfl rfl (ltb rfl) rfl agg25 rfl rfl ?_)
    refine AO.op rfl (AOp.lenDs (n := a0.Kids.length) (cells := (List.flatMap c0_TImpl_Geom a0.Kids)) rfl rfl (ltb rfl) rfl el25 (by decide) (lenN _ 7 c0_TImpl_Geom_len _) ?_)
    refine AO.op rfl (AOp.move rfl rfl (ltb rfl) rfl ?_)
    refine AO.nil ?_
    change AC _ _ _ _
    refine AC.adoptO 1 1 44 1 rfl rfl ?_
    obtain ⟨o45, l46, h0⟩ := bind_elim h0
    refine AC.joinE (V := (List IfcV)) [3, 5] [] 4 (fun g47 => []) (fun g47 => [.fix 27 [.d (di .i64 a0.Kind), .d (di .i64 a0.Layout), .d (di .i64 a0.SRID), .d (eS1 a0.Flat), .d (eS2 a0.Ends), .d (eS3 a0.Endss), .d (eS0 a0.Kids)], .fix 106 [.d (di .i64 (0 : Int)), .own 3, .d (di .i64 a0.SRID)], .dead, .grow 44 1 (List.map keS5 g47)]) (fun g47 => (p_geometry_k1 a0 F) g47 = some r0) rfl ?_ ?_
    · refine AC.block ?_
      refine AC.loopP (V := (Int × (List IfcV))) (p_geometry_l5 a0 Rec_) o45 [3, 5, 99, 100] [101] 4 (fun g112 => [(101, .d (di .i64 g112.1))]) (fun g112 => [.fix 27 [.d (di .i64 a0.Kind), .d (di .i64 a0.Layout), .d (di .i64 a0.SRID), .d (eS1 a0.Flat), .d (eS2 a0.Ends), .d (eS3 a0.Endss), .d (eS0 a0.Kids)], .fix 106 [.d (di .i64 (0 : Int)), .own 3, .d (di .i64 a0.SRID)], .dead, .grow 44 1 (List.map keS5 g112.2)]) F ((0 : Int), []) l46 rfl rfl (LeL.refl _) rfl rfl ?_
      intro n114 g112 h1
      unfold p_geometry_l5 at h1
      refine AC.seq ?_
      refine AC.region ?_
      refine AO.op rfl (AOp.ilss rfl rfl (ltb rfl) rfl rfl ?_)
      refine AO.nil ?_
      change AC _ _ _ _
      refine AC.seq ?_
      refine AC.cond rfl (fun q115 => ?_) (fun q115 => ?_)
      · replace h1 := cT h1 q115
        refine AC.skip ?_
        change AC _ _ _ _
        refine AC.seq ?_
        refine AC.block ?_
        refine AC.seq ?_
        refine AC.region ?_
        obtain ⟨x116, q117, h1⟩ := idx_elim h1
        refine AO.op rfl (AOp.indexDs (cells := (List.flatMap c0_TImpl_Geom a0.Kids)) rfl rfl (ltb rfl) rfl rfl el25 (by decide) q117.1 (ltN 7 c0_TImpl_Geom_len (by decide) q117.2) ?_)
        refine AO.op rfl (AOp.loadEpN rfl rfl (ltb rfl) rfl agg27 size27 (leN 7 c0_TImpl_Geom_len q117.2) ((atN 7 c0_TImpl_Geom_len q117.2).trans (c0_TImpl_Geom_eq x116)) ?_)
        refine AO.op rfl (AOp.alloc rfl rfl (ltb rfl) zero27 rfl ?_)
        refine AO.op rfl (AOp.store rfl rfl rfl rfl size27 rfl rfl rfl (leb rfl) ?_)
        refine AO.nil ?_
        change AC _ _ _ _
        refine AC.region ?_
        refine AO.op rfl (AOp.move rfl rfl (ltb rfl) rfl ?_)
        refine AO.op rfl (AOp.loadN rfl rfl (ltb rfl) rfl agg27 size27 rfl (leb rfl) rfl ?_)
        obtain ⟨y118, q119, h1⟩ := bind_elim h1
        refine AO.op rfl (AOp.callD rfl rfl (ltb rfl) rfl rfl (hR x116 y118 q119) ?_)
        rintro _ rfl
        refine AO.op rfl (AOp.buildSliceD rfl rfl (ltb rfl) el104 zero44 rfl (leb rfl) rfl rfl rfl rfl ?_)
        refine AO.op rfl (AOp.inl [3, 5, 99, 100, 101] (by kernel_rfl) Try.func58 rfl Try.ntmps58 rfl rfl (ltb rfl) rfl (leb rfl) rfl ?_)
        intro fr120
        refine AC.seq ?_
        refine AC.region ?_
        refine AO.op rfl (AOp.assign rfl rfl (ltb rfl) rfl ?_)
        refine AO.objs (obs' := [.fix 27 [.d (di .i64 a0.Kind), .d (di .i64 a0.Layout), .d (di .i64 a0.SRID), .d (eS1 a0.Flat), .d (eS2 a0.Ends), .d (eS3 a0.Endss), .d (eS0 a0.Kids)], .fix 106 [.d (di .i64 (0 : Int)), .own 3, .d (di .i64 a0.SRID)], .dead, .grow 44 1 (List.map keS5 g112.2), .fix 27 [.d (di .i64 x116.Kind), .d (di .i64 x116.Layout), .d (di .i64 x116.SRID), .d (eS1 x116.Flat), .d (eS2 x116.Ends), .d (eS3 x116.Endss), .d (eS0 x116.Kids)], .frame fr120 [(3, .d (di .i64 a0.Layout)), (5, .ptr 1 0), (99, .d (eS0 a0.Kids)), (100, .d (di .i64 ((a0.Kids.length : Nat) : Int))), (101, .d (di .i64 g112.1))]]) rfl ?_
        refine AO.nil ?_
        change AC _ _ _ _
        refine AC.seq ?_
        refine AC.seq ?_
        refine AC.region ?_
        refine AO.op rfl (AOp.move rfl rfl (ltb rfl) rfl ?_)
        refine AO.op rfl (AOp.move rfl rfl (ltb rfl) rfl ?_)
        refine AO.op rfl (AOp.inl [0] (by kernel_rfl) Try.func65 rfl Try.ntmps65 rfl rfl (ltb rfl) rfl (leb rfl) rfl ?_)
        intro fr121
        refine AC.seq ?_
        refine AC.region ?_
        refine AO.op rfl (AOp.assign rfl rfl (ltb rfl) rfl ?_)
        refine AO.objs (obs' := [.fix 27 [.d (di .i64 a0.Kind), .d (di .i64 a0.Layout), .d (di .i64 a0.SRID), .d (eS1 a0.Flat), .d (eS2 a0.Ends), .d (eS3 a0.Endss), .d (eS0 a0.Kids)], .fix 106 [.d (di .i64 (0 : Int)), .own 3, .d (di .i64 a0.SRID)], .dead, .grow 44 1 (List.map keS5 g112.2), .fix 27 [.d (di .i64 x116.Kind), .d (di .i64 x116.Layout), .d (di .i64 x116.SRID), .d (eS1 x116.Flat), .d (eS2 x116.Ends), .d (eS3 x116.Endss), .d (eS0 x116.Kids)], .frame fr120 [(3, .d (di .i64 a0.Layout)), (5, .ptr 1 0), (99, .d (eS0 a0.Kids)), (100, .d (di .i64 ((a0.Kids.length : Nat) : Int))), (101, .d (di .i64 g112.1))], .frame fr121 [(0, .ptr 1 0)]]) rfl ?_
        refine AO.nil ?_
        change AC _ _ _ _
        refine AC.seq ?_
        refine AC.seq ?_
        refine AC.region ?_
        refine AO.op rfl (AOp.move rfl rfl (ltb rfl) rfl ?_)
        refine AO.op rfl (AOp.nilCheck rfl rfl (ltb rfl) rfl rfl ?_)
        refine AO.op rfl (AOp.fieldAddr rfl rfl (ltb rfl) rfl fo106_0 ?_)
        refine AO.op rfl (AOp.load1 rfl rfl (ltb rfl) rfl agg63 rfl rfl ?_)
        refine AO.op rfl (AOp.ineq rfl rfl (ltb rfl) rfl rfl ?_)
        refine AO.nil ?_
        change AC _ _ _ _
        refine AC.cond rfl (fun q122 => ?_) (fun q122 => ?_)
        · replace h1 := cT h1 q122
          cases h1
        replace h1 := cF h1 q122
        refine AC.skip ?_
        change AC _ _ _ _
        refine AC.seq ?_
        refine AC.region ?_
        refine AO.op rfl (AOp.move rfl rfl (ltb rfl) rfl ?_)
        refine AO.op rfl (AOp.move rfl rfl (ltb rfl) rfl ?_)
        refine AO.op rfl (AOp.nilCheck rfl rfl (ltb rfl) rfl rfl ?_)
        refine AO.op rfl (AOp.fieldAddr rfl rfl (ltb rfl) rfl fo106_1 ?_)
        refine AO.op rfl (AOp.load1 rfl rfl (ltb rfl) rfl agg104 rfl rfl ?_)
        refine AO.op rfl (AOp.move rfl rfl (ltb rfl) rfl ?_)
        refine AO.subO 1 rfl (.cons (SVLe.refl _) (.cons (SVLe.any _) (.cons (SVLe.refl _) .nil))) ?_
        obtain ⟨q123, h1⟩ := need_elim h1
        refine AO.op rfl (AOp.appendOwn' (p := 3) (n := g112.2.length) (m := [y118].length) (news := (List.map keS5 [y118])) rfl rfl (ltb rfl) rfl rfl el104 info44 rfl (by decide) rfl (len1 _ _) (len1 _ _) (one1 _ (fun _ => rfl) _) q123 (by decide) rfl rfl (cat1 _ _ _) ?_)
        refine AO.op rfl (AOp.nilCheck rfl rfl (ltb rfl) rfl rfl ?_)
        refine AO.op rfl (AOp.fieldAddr rfl rfl (ltb rfl) rfl fo106_1 ?_)
        refine AO.op rfl (AOp.storeOwn rfl rfl rfl rfl rfl rfl size104 rfl rfl (leb rfl) ?_)
        refine AO.nil ?_
        change AC _ _ _ _
        refine AC.seq ?_
        refine AC.region ?_
        refine AO.op rfl (AOp.assign rfl rfl (ltb rfl) rfl ?_)
        refine AO.nil ?_
        change AC _ _ _ _
        refine AC.ret ?_
        refine inlret (ob' := [.fix 27 [.d (di .i64 a0.Kind), .d (di .i64 a0.Layout), .d (di .i64 a0.SRID), .d (eS1 a0.Flat), .d (eS2 a0.Ends), .d (eS3 a0.Endss), .d (eS0 a0.Kids)], .fix 106 [.d (di .i64 (0 : Int)), .own 3, .d (di .i64 a0.SRID)], .dead, .grow 44 1 (List.map keS5 (g112.2 ++ [y118])), .fix 27 [.d (di .i64 x116.Kind), .d (di .i64 x116.Layout), .d (di .i64 x116.SRID), .d (eS1 x116.Flat), .d (eS2 x116.Ends), .d (eS3 x116.Endss), .d (eS0 x116.Kids)], .frame fr120 [(3, .d (di .i64 a0.Layout)), (5, .ptr 1 0), (99, .d (eS0 a0.Kids)), (100, .d (di .i64 ((a0.Kids.length : Nat) : Int))), (101, .d (di .i64 g112.1))], .dead]) (e' := [(0, .ptr 1 0)]) (r := .d (.v (.nilIface))) rfl rfl rfl ?_
        change AO _ _ _ _ _
        refine AO.op rfl (AOp.assign rfl rfl (ltb rfl) rfl ?_)
        refine AO.objs (obs' := [.fix 27 [.d (di .i64 a0.Kind), .d (di .i64 a0.Layout), .d (di .i64 a0.SRID), .d (eS1 a0.Flat), .d (eS2 a0.Ends), .d (eS3 a0.Endss), .d (eS0 a0.Kids)], .fix 106 [.d (di .i64 (0 : Int)), .own 3, .d (di .i64 a0.SRID)], .dead, .grow 44 1 (List.map keS5 (g112.2 ++ [y118])), .fix 27 [.d (di .i64 x116.Kind), .d (di .i64 x116.Layout), .d (di .i64 x116.SRID), .d (eS1 x116.Flat), .d (eS2 x116.Ends), .d (eS3 x116.Endss), .d (eS0 x116.Kids)], .frame fr120 [(3, .d (di .i64 a0.Layout)), (5, .ptr 1 0), (99, .d (eS0 a0.Kids)), (100, .d (di .i64 ((a0.Kids.length : Nat) : Int))), (101, .d (di .i64 g112.1))], .dead]) rfl ?_
        refine AO.nil ?_
        change AC _ _ _ _
        refine AC.seq ?_
        refine AC.region ?_
        refine AO.op rfl (AOp.move rfl rfl (ltb rfl) rfl ?_)
        refine AO.op rfl (AOp.nilNeq rfl rfl (ltb rfl) rfl imeth119 ?_)
        refine AO.nil ?_
        change AC _ _ _ _
        refine AC.condF rfl rfl ?_
        refine AC.skip ?_
        change AC _ _ _ _
        refine AC.seq ?_
        refine AC.region ?_
        refine AO.op rfl (AOp.move rfl rfl (ltb rfl) rfl ?_)
        refine AO.op rfl (AOp.assign rfl rfl (ltb rfl) rfl ?_)
        refine AO.nil ?_
        change AC _ _ _ _
        refine AC.ret ?_
        refine inlret (ob' := [.fix 27 [.d (di .i64 a0.Kind), .d (di .i64 a0.Layout), .d (di .i64 a0.SRID), .d (eS1 a0.Flat), .d (eS2 a0.Ends), .d (eS3 a0.Endss), .d (eS0 a0.Kids)], .fix 106 [.d (di .i64 (0 : Int)), .own 3, .d (di .i64 a0.SRID)], .dead, .grow 44 1 (List.map keS5 (g112.2 ++ [y118])), .fix 27 [.d (di .i64 x116.Kind), .d (di .i64 x116.Layout), .d (di .i64 x116.SRID), .d (eS1 x116.Flat), .d (eS2 x116.Ends), .d (eS3 x116.Endss), .d (eS0 x116.Kids)], .dead, .dead]) (e' := [(3, .d (di .i64 a0.Layout)), (5, .ptr 1 0), (99, .d (eS0 a0.Kids)), (100, .d (di .i64 ((a0.Kids.length : Nat) : Int))), (101, .d (di .i64 g112.1))]) (r := .ptr 1 0) rfl rfl rfl ?_
        change AO _ _ _ _ _
        refine AO.objs (obs' := [.fix 27 [.d (di .i64 a0.Kind), .d (di .i64 a0.Layout), .d (di .i64 a0.SRID), .d (eS1 a0.Flat), .d (eS2 a0.Ends), .d (eS3 a0.Endss), .d (eS0 a0.Kids)], .fix 106 [.d (di .i64 (0 : Int)), .own 3, .d (di .i64 a0.SRID)], .dead, .grow 44 1 (List.map keS5 (g112.2 ++ [y118])), .fix 27 [.d (di .i64 x116.Kind), .d (di .i64 x116.Layout), .d (di .i64 x116.SRID), .d (eS1 x116.Flat), .d (eS2 x116.Ends), .d (eS3 x116.Endss), .d (eS0 x116.Kids)], .dead, .dead]) rfl ?_
        refine AO.nil ?_
        change AC _ _ _ _
        refine AC.region ?_
        obtain ⟨q124, h1⟩ := need_elim h1
        refine AO.op rfl (AOp.iadd rfl rfl (ltb rfl) rfl rfl rfl q124.1 q124.2 ?_)
        refine AO.op rfl (AOp.move rfl rfl (ltb rfl) rfl ?_)
        refine AO.nil ?_
        exact ⟨((g112.1 + (1 : Int)), (g112.2 ++ [y118])), _, rfl, (LeL.refl _), rfl, rfl, h1⟩
      replace h1 := cF h1 q115
      refine AC.exit ?_
      obtain rfl := Option.some.inj h1
      exact ⟨g112.2, _, rfl, (LeL.refl _), rfl, rfl, aftL h0⟩
    intro g47 h0
    unfold p_geometry_k1 at h0
    change AC _ _ _ _
    refine AC.seq ?_
    refine AC.region ?_
    refine AO.op rfl (AOp.move rfl rfl (ltb rfl) rfl ?_)
    refine AO.op rfl (AOp.move rfl rfl (ltb rfl) rfl ?_)
    refine AO.op rfl (AOp.inl [] (by kernel_rfl) Try.func59 rfl Try.ntmps59 rfl rfl (ltb rfl) rfl (leb rfl) rfl ?_)
    intro fr48
    refine AC.seq ?_
    refine AC.region ?_
    refine AO.op rfl (AOp.assign rfl rfl (ltb rfl) rfl ?_)
    refine AO.nil ?_
    change AC _ _ _ _
    refine AC.seq ?_
    refine AC.seq ?_
    refine AC.region ?_
    refine AO.op rfl (AOp.move rfl rfl (ltb rfl) rfl ?_)
    refine AO.op rfl (AOp.move rfl rfl (ltb rfl) rfl ?_)
    refine AO.op rfl (AOp.inl [0] (by kernel_rfl) Try.func66 rfl Try.ntmps66 rfl rfl (ltb rfl) rfl (leb rfl) rfl ?_)
    intro fr49
    refine AC.seq ?_
    refine AC.region ?_
    refine AO.op rfl (AOp.assign rfl rfl (ltb rfl) rfl ?_)
    refine AO.objs (obs' := [.fix 27 [.d (di .i64 a0.Kind), .d (di .i64 a0.Layout), .d (di .i64 a0.SRID), .d (eS1 a0.Flat), .d (eS2 a0.Ends), .d (eS3 a0.Endss), .d (eS0 a0.Kids)], .fix 106 [.d (di .i64 (0 : Int)), .own 3, .d (di .i64 a0.SRID)], .dead, .grow 44 1 (List.map keS5 g47), .frame fr48 [], .frame fr49 [(0, .ptr 1 0)]]) rfl ?_
    refine AO.nil ?_
    change AC _ _ _ _
    refine AC.seq ?_
    refine AC.seq ?_
    refine AC.region ?_
    refine AO.op rfl (AOp.move rfl rfl (ltb rfl) rfl ?_)
    refine AO.op rfl (AOp.move rfl rfl (ltb rfl) rfl ?_)
    refine AO.op rfl (AOp.inl [0, 1] (by kernel_rfl) Try.func67 rfl Try.ntmps67 rfl rfl (ltb rfl) rfl (leb rfl) rfl ?_)
    intro fr50
    refine AC.seq ?_
    refine AC.region ?_
    refine AO.op rfl (AOp.assign rfl rfl (ltb rfl) rfl ?_)
    refine AO.objs (obs' := [.fix 27 [.d (di .i64 a0.Kind), .d (di .i64 a0.Layout), .d (di .i64 a0.SRID), .d (eS1 a0.Flat), .d (eS2 a0.Ends), .d (eS3 a0.Endss), .d (eS0 a0.Kids)], .fix 106 [.d (di .i64 (0 : Int)), .own 3, .d (di .i64 a0.SRID)], .dead, .grow 44 1 (List.map keS5 g47), .frame fr48 [], .frame fr49 [(0, .ptr 1 0)], .frame fr50 [(0, .ptr 1 0), (1, .d (di .i64 a0.Layout))]]) rfl ?_
    refine AO.nil ?_
    change AC _ _ _ _
    refine AC.joinP (V := Unit) [] [] 7 (fun g51 => []) (fun g51 => [.fix 27 [.d (di .i64 a0.Kind), .d (di .i64 a0.Layout), .d (di .i64 a0.SRID), .d (eS1 a0.Flat), .d (eS2 a0.Ends), .d (eS3 a0.Endss), .d (eS0 a0.Kids)], .fix 106 [.d (di .i64 (0 : Int)), .own 3, .d (di .i64 a0.SRID)], .dead, .grow 44 1 (List.map keS5 g47), .frame fr48 [], .frame fr49 [(0, .ptr 1 0)], .frame fr50 [(0, .ptr 1 0), (1, .d (di .i64 a0.Layout))]]) (fun g51 => (p_geometry_k2 a0 g47) g51 = some r0) rfl ?_ ?_
    · refine AC.seq ?_
      refine AC.region ?_
      refine AO.op rfl (AOp.move rfl rfl (ltb rfl) rfl ?_)
      refine AO.op rfl (AOp.ineq rfl rfl (ltb rfl) rfl rfl ?_)
      refine AO.nil ?_
      change AC _ _ _ _
      refine AC.cond rfl (fun q52 => ?_) (fun q52 => ?_)
      · replace h0 := cT h0 q52
        refine AC.seq ?_
        refine AC.region ?_
        refine AO.op rfl (AOp.move rfl rfl (ltb rfl) rfl ?_)
        refine AO.op rfl (AOp.nilCheck rfl rfl (ltb rfl) rfl rfl ?_)
        refine AO.op rfl (AOp.fieldAddr rfl rfl (ltb rfl) rfl fo106_1 ?_)
        refine AO.op rfl (AOp.load1 rfl rfl (ltb rfl) rfl agg104 rfl rfl ?_)
        refine AO.op rfl (AOp.lenOwn (cells := (List.map keS5 g47)) (n := g47.length) rfl rfl (ltb rfl) rfl el104 rfl (by decide) (len1 _ _) ?_)
        refine AO.op rfl (AOp.move rfl rfl (ltb rfl) rfl ?_)
        refine AO.nil ?_
        change AC _ _ _ _
        obtain ⟨o53, l54, h0⟩ := bind_elim h0
        refine AC.joinE (V := Unit) [] [] 7 (fun g55 => []) (fun g55 => [.fix 27 [.d (di .i64 a0.Kind), .d (di .i64 a0.Layout), .d (di .i64 a0.SRID), .d (eS1 a0.Flat), .d (eS2 a0.Ends), .d (eS3 a0.Endss), .d (eS0 a0.Kids)], .fix 106 [.d (di .i64 (0 : Int)), .own 3, .d (di .i64 a0.SRID)], .dead, .grow 44 1 (List.map keS5 g47), .frame fr48 [], .frame fr49 [(0, .ptr 1 0)], .frame fr50 [(0, .ptr 1 0), (1, .d (di .i64 a0.Layout))]]) (fun g55 => (p_geometry_k3 a0 g47) g55 = some r0) rfl ?_ ?_
        · refine AC.block ?_
          refine AC.loopP (V := Int) (p_geometry_l4 a0 F g47) o53 [1, 13, 14] [15] 7 (fun g56 => [(15, .d (di .i64 g56))]) (fun g56 => [.fix 27 [.d (di .i64 a0.Kind), .d (di .i64 a0.Layout), .d (di .i64 a0.SRID), .d (eS1 a0.Flat), .d (eS2 a0.Ends), .d (eS3 a0.Endss), .d (eS0 a0.Kids)], .fix 106 [.d (di .i64 (0 : Int)), .own 3, .d (di .i64 a0.SRID)], .dead, .grow 44 1 (List.map keS5 g47), .frame fr48 [], .frame fr49 [(0, .ptr 1 0)], .frame fr50 [(0, .ptr 1 0), (1, .d (di .i64 a0.Layout))]]) F (0 : Int) l54 rfl rfl (LeL.refl _) rfl rfl ?_
          intro n58 g56 h1
          unfold p_geometry_l4 at h1
          refine AC.seq ?_
          refine AC.region ?_
          refine AO.op rfl (AOp.ilss rfl rfl (ltb rfl) rfl rfl ?_)
          refine AO.nil ?_
          change AC _ _ _ _
          refine AC.seq ?_
          refine AC.cond rfl (fun q59 => ?_) (fun q59 => ?_)
          · replace h1 := cT h1 q59
            refine AC.skip ?_
            change AC _ _ _ _
            refine AC.seq ?_
            refine AC.block ?_
            refine AC.seq ?_
            refine AC.region ?_
            obtain ⟨q60, h1⟩ := need_elim h1
            refine AO.op rfl (AOp.indexOwn (cells := (List.map keS5 g47)) (n := g47.length) rfl rfl (ltb rfl) rfl rfl el104 rfl (by decide) (len1 _ _) q60.1 q60.2 ?_)
            obtain ⟨x61, q62, h1⟩ := idx_elim h1
            refine AO.op rfl (AOp.loadO1 rfl rfl (ltb rfl) rfl agg44 rfl (at1 q62.2) ?_)
            refine AO.op rfl (AOp.assign rfl rfl (ltb rfl) rfl ?_)
            refine AO.nil ?_
            change AC _ _ _ _
            refine AC.seq ?_
            refine AC.region ?_
            refine AO.op rfl (AOp.move rfl rfl (ltb rfl) rfl ?_)
            refine AO.dec (decide (x61.dt = 49)) (fun q63 => ?_) (fun q63 => ?_)
            · replace h1 := cT h1 q63
              obtain ⟨y64, q65, h1⟩ := bind_elim h1
              refine AO.sub 19 rfl (eIfc_le q63 q65) ?_
              refine AO.op rfl (AOp.inlE [1, 13, 14, 15] (EntersS.meth (by kernel_rfl) rfl rfl rfl meth49_Layout rfl rfl) Try.func88 rfl Try.ntmps88 rfl (ltb rfl) (leb rfl) rfl ?_)
              intro fr66
              refine AC.seq ?_
              refine AC.region ?_
              refine AO.op rfl (AOp.assign rfl rfl (ltb rfl) rfl ?_)
              refine AO.objs (obs' := [.fix 27 [.d (di .i64 a0.Kind), .d (di .i64 a0.Layout), .d (di .i64 a0.SRID), .d (eS1 a0.Flat), .d (eS2 a0.Ends), .d (eS3 a0.Endss), .d (eS0 a0.Kids)], .fix 106 [.d (di .i64 (0 : Int)), .own 3, .d (di .i64 a0.SRID)], .dead, .grow 44 1 (List.map keS5 g47), .frame fr48 [], .frame fr49 [(0, .ptr 1 0)], .frame fr50 [(0, .ptr 1 0), (1, .d (di .i64 a0.Layout))], .frame fr66 [(1, .d (di .i64 a0.Layout)), (13, .own 3), (14, .d (di .i64 ((g47.length : Nat) : Int))), (15, .d (di .i64 g56))]]) rfl ?_
              refine AO.nil ?_
              change AC _ _ _ _
              refine AC.seq ?_
              refine AC.region ?_
              refine AO.op rfl (AOp.move rfl rfl (ltb rfl) rfl ?_)
              refine AO.op rfl (AOp.nilCheck rfl rfl (ltb rfl) rfl rfl ?_)
              refine AO.op rfl (AOp.fieldAddrEp rfl rfl (ltb rfl) rfl fo91_0 ?_)
              refine AO.op rfl (AOp.loadEp rfl rfl (ltb rfl) rfl agg63 rfl ?_)
              refine AO.op rfl (AOp.assign rfl rfl (ltb rfl) rfl ?_)
              refine AO.nil ?_
              change AC _ _ _ _
              refine AC.ret ?_
              refine inlret (ob' := [.fix 27 [.d (di .i64 a0.Kind), .d (di .i64 a0.Layout), .d (di .i64 a0.SRID), .d (eS1 a0.Flat), .d (eS2 a0.Ends), .d (eS3 a0.Endss), .d (eS0 a0.Kids)], .fix 106 [.d (di .i64 (0 : Int)), .own 3, .d (di .i64 a0.SRID)], .dead, .grow 44 1 (List.map keS5 g47), .frame fr48 [], .frame fr49 [(0, .ptr 1 0)], .frame fr50 [(0, .ptr 1 0), (1, .d (di .i64 a0.Layout))], .dead]) (e' := [(1, .d (di .i64 a0.Layout)), (13, .own 3), (14, .d (di .i64 ((g47.length : Nat) : Int))), (15, .d (di .i64 g56))]) (r := .d (di .i64 y64.geom2.geom1.geom0.layout)) rfl rfl rfl ?_
              change AO _ _ _ _ _
              refine AO.op rfl (AOp.assign rfl rfl (ltb rfl) rfl ?_)
              refine AO.objs (obs' := [.fix 27 [.d (di .i64 a0.Kind), .d (di .i64 a0.Layout), .d (di .i64 a0.SRID), .d (eS1 a0.Flat), .d (eS2 a0.Ends), .d (eS3 a0.Endss), .d (eS0 a0.Kids)], .fix 106 [.d (di .i64 (0 : Int)), .own 3, .d (di .i64 a0.SRID)], .dead, .grow 44 1 (List.map keS5 g47), .frame fr48 [], .frame fr49 [(0, .ptr 1 0)], .frame fr50 [(0, .ptr 1 0), (1, .d (di .i64 a0.Layout))], .dead]) rfl ?_
              refine AO.nil ?_
              change AC _ _ _ _
              refine AC.seq ?_
              refine AC.region ?_
              refine AO.op rfl (AOp.move rfl rfl (ltb rfl) rfl ?_)
              refine AO.op rfl (AOp.move rfl rfl (ltb rfl) rfl ?_)
              refine AO.op rfl (AOp.ineq rfl rfl (ltb rfl) rfl rfl ?_)
              refine AO.nil ?_
              change AC _ _ _ _
              refine AC.cond rfl (fun q67 => ?_) (fun q67 => ?_)
              · replace h1 := cT h1 q67
                cases h1
              replace h1 := cF h1 q67
              refine AC.skip ?_
              change AC _ _ _ _
              refine AC.region ?_
              obtain ⟨q68, h1⟩ := need_elim h1
              refine AO.op rfl (AOp.iadd rfl rfl (ltb rfl) rfl rfl rfl q68.1 q68.2 ?_)
              refine AO.op rfl (AOp.move rfl rfl (ltb rfl) rfl ?_)
              refine AO.nil ?_
              exact ⟨(g56 + (1 : Int)), _, rfl, (LeL.refl _), rfl, rfl, h1⟩
            replace h1 := cF h1 q63
            refine AO.dec (decide (x61.dt = 51)) (fun q69 => ?_) (fun q69 => ?_)
            · replace h1 := cT h1 q69
              obtain ⟨y70, q71, h1⟩ := bind_elim h1
              refine AO.sub 19 rfl (eIfc_le q69 q71) ?_
              refine AO.op rfl (AOp.inlE [1, 13, 14, 15] (EntersS.meth (by kernel_rfl) rfl rfl rfl meth51_Layout rfl rfl) Try.func88 rfl Try.ntmps88 rfl (ltb rfl) (leb rfl) rfl ?_)
              intro fr72
              refine AC.seq ?_
              refine AC.region ?_
              refine AO.op rfl (AOp.assign rfl rfl (ltb rfl) rfl ?_)
              refine AO.objs (obs' := [.fix 27 [.d (di .i64 a0.Kind), .d (di .i64 a0.Layout), .d (di .i64 a0.SRID), .d (eS1 a0.Flat), .d (eS2 a0.Ends), .d (eS3 a0.Endss), .d (eS0 a0.Kids)], .fix 106 [.d (di .i64 (0 : Int)), .own 3, .d (di .i64 a0.SRID)], .dead, .grow 44 1 (List.map keS5 g47), .frame fr48 [], .frame fr49 [(0, .ptr 1 0)], .frame fr50 [(0, .ptr 1 0), (1, .d (di .i64 a0.Layout))], .frame fr72 [(1, .d (di .i64 a0.Layout)), (13, .own 3), (14, .d (di .i64 ((g47.length : Nat) : Int))), (15, .d (di .i64 g56))]]) rfl ?_
              refine AO.nil ?_
              change AC _ _ _ _
              refine AC.seq ?_
              refine AC.region ?_
              refine AO.op rfl (AOp.move rfl rfl (ltb rfl) rfl ?_)
              refine AO.op rfl (AOp.nilCheck rfl rfl (ltb rfl) rfl rfl ?_)
              refine AO.op rfl (AOp.fieldAddrEp rfl rfl (ltb rfl) rfl fo91_0 ?_)
              refine AO.op rfl (AOp.loadEp rfl rfl (ltb rfl) rfl agg63 rfl ?_)
              refine AO.op rfl (AOp.assign rfl rfl (ltb rfl) rfl ?_)
              refine AO.nil ?_
              change AC _ _ _ _
              refine AC.ret ?_
              refine inlret (ob' := [.fix 27 [.d (di .i64 a0.Kind), .d (di .i64 a0.Layout), .d (di .i64 a0.SRID), .d (eS1 a0.Flat), .d (eS2 a0.Ends), .d (eS3 a0.Endss), .d (eS0 a0.Kids)], .fix 106 [.d (di .i64 (0 : Int)), .own 3, .d (di .i64 a0.SRID)], .dead, .grow 44 1 (List.map keS5 g47), .frame fr48 [], .frame fr49 [(0, .ptr 1 0)], .frame fr50 [(0, .ptr 1 0), (1, .d (di .i64 a0.Layout))], .dead]) (e' := [(1, .d (di .i64 a0.Layout)), (13, .own 3), (14, .d (di .i64 ((g47.length : Nat) : Int))), (15, .d (di .i64 g56))]) (r := .d (di .i64 y70.geom2.geom1.geom0.layout)) rfl rfl rfl ?_
              change AO _ _ _ _ _
              refine AO.op rfl (AOp.assign rfl rfl (ltb rfl) rfl ?_)
              refine AO.objs (obs' := [.fix 27 [.d (di .i64 a0.Kind), .d (di .i64 a0.Layout), .d (di .i64 a0.SRID), .d (eS1 a0.Flat), .d (eS2 a0.Ends), .d (eS3 a0.Endss), .d (eS0 a0.Kids)], .fix 106 [.d (di .i64 (0 : Int)), .own 3, .d (di .i64 a0.SRID)], .dead, .grow 44 1 (List.map keS5 g47), .frame fr48 [], .frame fr49 [(0, .ptr 1 0)], .frame fr50 [(0, .ptr 1 0), (1, .d (di .i64 a0.Layout))], .dead]) rfl ?_
              refine AO.nil ?_
              change AC _ _ _ _
              refine AC.seq ?_
              refine AC.region ?_
              refine AO.op rfl (AOp.move rfl rfl (ltb rfl) rfl ?_)
              refine AO.op rfl (AOp.move rfl rfl (ltb rfl) rfl ?_)
              refine AO.op rfl (AOp.ineq rfl rfl (ltb rfl) rfl rfl ?_)
              refine AO.nil ?_
              change AC _ _ _ _
              refine AC.cond rfl (fun q73 => ?_) (fun q73 => ?_)
              · replace h1 := cT h1 q73
                cases h1
              replace h1 := cF h1 q73
              refine AC.skip ?_
              change AC _ _ _ _
              refine AC.region ?_
              obtain ⟨q74, h1⟩ := need_elim h1
              refine AO.op rfl (AOp.iadd rfl rfl (ltb rfl) rfl rfl rfl q74.1 q74.2 ?_)
              refine AO.op rfl (AOp.move rfl rfl (ltb rfl) rfl ?_)
              refine AO.nil ?_
              exact ⟨(g56 + (1 : Int)), _, rfl, (LeL.refl _), rfl, rfl, h1⟩
            replace h1 := cF h1 q69
            refine AO.dec (decide (x61.dt = 52)) (fun q75 => ?_) (fun q75 => ?_)
            · replace h1 := cT h1 q75
              obtain ⟨y76, q77, h1⟩ := bind_elim h1
              refine AO.sub 19 rfl (eIfc_le q75 q77) ?_
              refine AO.op rfl (AOp.inlE [1, 13, 14, 15] (EntersS.meth (by kernel_rfl) rfl rfl rfl meth52_Layout rfl rfl) Try.func88 rfl Try.ntmps88 rfl (ltb rfl) (leb rfl) rfl ?_)
              intro fr78
              refine AC.seq ?_
              refine AC.region ?_
              refine AO.op rfl (AOp.assign rfl rfl (ltb rfl) rfl ?_)
              refine AO.objs (obs' := [.fix 27 [.d (di .i64 a0.Kind), .d (di .i64 a0.Layout), .d (di .i64 a0.SRID), .d (eS1 a0.Flat), .d (eS2 a0.Ends), .d (eS3 a0.Endss), .d (eS0 a0.Kids)], .fix 106 [.d (di .i64 (0 : Int)), .own 3, .d (di .i64 a0.SRID)], .dead, .grow 44 1 (List.map keS5 g47), .frame fr48 [], .frame fr49 [(0, .ptr 1 0)], .frame fr50 [(0, .ptr 1 0), (1, .d (di .i64 a0.Layout))], .frame fr78 [(1, .d (di .i64 a0.Layout)), (13, .own 3), (14, .d (di .i64 ((g47.length : Nat) : Int))), (15, .d (di .i64 g56))]]) rfl ?_
              refine AO.nil ?_
              change AC _ _ _ _
              refine AC.seq ?_
              refine AC.region ?_
              refine AO.op rfl (AOp.move rfl rfl (ltb rfl) rfl ?_)
              refine AO.op rfl (AOp.nilCheck rfl rfl (ltb rfl) rfl rfl ?_)
              refine AO.op rfl (AOp.fieldAddrEp rfl rfl (ltb rfl) rfl fo91_0 ?_)
              refine AO.op rfl (AOp.loadEp rfl rfl (ltb rfl) rfl agg63 rfl ?_)
              refine AO.op rfl (AOp.assign rfl rfl (ltb rfl) rfl ?_)
              refine AO.nil ?_
              change AC _ _ _ _
              refine AC.ret ?_
              refine inlret (ob' := [.fix 27 [.d (di .i64 a0.Kind), .d (di .i64 a0.Layout), .d (di .i64 a0.SRID), .d (eS1 a0.Flat), .d (eS2 a0.Ends), .d (eS3 a0.Endss), .d (eS0 a0.Kids)], .fix 106 [.d (di .i64 (0 : Int)), .own 3, .d (di .i64 a0.SRID)], .dead, .grow 44 1 (List.map keS5 g47), .frame fr48 [], .frame fr49 [(0, .ptr 1 0)], .frame fr50 [(0, .ptr 1 0), (1, .d (di .i64 a0.Layout))], .dead]) (e' := [(1, .d (di .i64 a0.Layout)), (13, .own 3), (14, .d (di .i64 ((g47.length : Nat) : Int))), (15, .d (di .i64 g56))]) (r := .d (di .i64 y76.geom2.geom1.geom0.layout)) rfl rfl rfl ?_
              change AO _ _ _ _ _
              refine AO.op rfl (AOp.assign rfl rfl (ltb rfl) rfl ?_)
              refine AO.objs (obs' := [.fix 27 [.d (di .i64 a0.Kind), .d (di .i64 a0.Layout), .d (di .i64 a0.SRID), .d (eS1 a0.Flat), .d (eS2 a0.Ends), .d (eS3 a0.Endss), .d (eS0 a0.Kids)], .fix 106 [.d (di .i64 (0 : Int)), .own 3, .d (di .i64 a0.SRID)], .dead, .grow 44 1 (List.map keS5 g47), .frame fr48 [], .frame fr49 [(0, .ptr 1 0)], .frame fr50 [(0, .ptr 1 0), (1, .d (di .i64 a0.Layout))], .dead]) rfl ?_
              refine AO.nil ?_
              change AC _ _ _ _
              refine AC.seq ?_
              refine AC.region ?_
              refine AO.op rfl (AOp.move rfl rfl (ltb rfl) rfl ?_)
              refine AO.op rfl (AOp.move rfl rfl (ltb rfl) rfl ?_)
              refine AO.op rfl (AOp.ineq rfl rfl (ltb rfl) rfl rfl ?_)
              refine AO.nil ?_
              change AC _ _ _ _
              refine AC.cond rfl (fun q79 => ?_) (fun q79 => ?_)
              · replace h1 := cT h1 q79
                cases h1
              replace h1 := cF h1 q79
              refine AC.skip ?_
              change AC _ _ _ _
              refine AC.region ?_
              obtain ⟨q80, h1⟩ := need_elim h1
              refine AO.op rfl (AOp.iadd rfl rfl (ltb rfl) rfl rfl rfl q80.1 q80.2 ?_)
              refine AO.op rfl (AOp.move rfl rfl (ltb rfl) rfl ?_)
              refine AO.nil ?_
              exact ⟨(g56 + (1 : Int)), _, rfl, (LeL.refl _), rfl, rfl, h1⟩
            replace h1 := cF h1 q75
            refine AO.dec (decide (x61.dt = 53)) (fun q81 => ?_) (fun q81 => ?_)
            · replace h1 := cT h1 q81
              obtain ⟨y82, q83, h1⟩ := bind_elim h1
              refine AO.sub 19 rfl (eIfc_le q81 q83) ?_
              refine AO.op rfl (AOp.inlE [1, 13, 14, 15] (EntersS.meth (by kernel_rfl) rfl rfl rfl meth53_Layout rfl rfl) Try.func88 rfl Try.ntmps88 rfl (ltb rfl) (leb rfl) rfl ?_)
              intro fr84
              refine AC.seq ?_
              refine AC.region ?_
              refine AO.op rfl (AOp.assign rfl rfl (ltb rfl) rfl ?_)
              refine AO.objs (obs' := [.fix 27 [.d (di .i64 a0.Kind), .d (di .i64 a0.Layout), .d (di .i64 a0.SRID), .d (eS1 a0.Flat), .d (eS2 a0.Ends), .d (eS3 a0.Endss), .d (eS0 a0.Kids)], .fix 106 [.d (di .i64 (0 : Int)), .own 3, .d (di .i64 a0.SRID)], .dead, .grow 44 1 (List.map keS5 g47), .frame fr48 [], .frame fr49 [(0, .ptr 1 0)], .frame fr50 [(0, .ptr 1 0), (1, .d (di .i64 a0.Layout))], .frame fr84 [(1, .d (di .i64 a0.Layout)), (13, .own 3), (14, .d (di .i64 ((g47.length : Nat) : Int))), (15, .d (di .i64 g56))]]) rfl ?_
              refine AO.nil ?_
              change AC _ _ _ _
              refine AC.seq ?_
              refine AC.region ?_
              refine AO.op rfl (AOp.move rfl rfl (ltb rfl) rfl ?_)
              refine AO.op rfl (AOp.nilCheck rfl rfl (ltb rfl) rfl rfl ?_)
              refine AO.op rfl (AOp.fieldAddrEp rfl rfl (ltb rfl) rfl fo91_0 ?_)
              refine AO.op rfl (AOp.loadEp rfl rfl (ltb rfl) rfl agg63 rfl ?_)
              refine AO.op rfl (AOp.assign rfl rfl (ltb rfl) rfl ?_)
              refine AO.nil ?_
              change AC _ _ _ _
              refine AC.ret ?_
              refine inlret (ob' := [.fix 27 [.d (di .i64 a0.Kind), .d (di .i64 a0.Layout), .d (di .i64 a0.SRID), .d (eS1 a0.Flat), .d (eS2 a0.Ends), .d (eS3 a0.Endss), .d (eS0 a0.Kids)], .fix 106 [.d (di .i64 (0 : Int)), .own 3, .d (di .i64 a0.SRID)], .dead, .grow 44 1 (List.map keS5 g47), .frame fr48 [], .frame fr49 [(0, .ptr 1 0)], .frame fr50 [(0, .ptr 1 0), (1, .d (di .i64 a0.Layout))], .dead]) (e' := [(1, .d (di .i64 a0.Layout)), (13, .own 3), (14, .d (di .i64 ((g47.length : Nat) : Int))), (15, .d (di .i64 g56))]) (r := .d (di .i64 y82.geom3.geom1.geom0.layout)) rfl rfl rfl ?_
              change AO _ _ _ _ _
              refine AO.op rfl (AOp.assign rfl rfl (ltb rfl) rfl ?_)
              refine AO.objs (obs' := [.fix 27 [.d (di .i64 a0.Kind), .d (di .i64 a0.Layout), .d (di .i64 a0.SRID), .d (eS1 a0.Flat), .d (eS2 a0.Ends), .d (eS3 a0.Endss), .d (eS0 a0.Kids)], .fix 106 [.d (di .i64 (0 : Int)), .own 3, .d (di .i64 a0.SRID)], .dead, .grow 44 1 (List.map keS5 g47), .frame fr48 [], .frame fr49 [(0, .ptr 1 0)], .frame fr50 [(0, .ptr 1 0), (1, .d (di .i64 a0.Layout))], .dead]) rfl ?_
              refine AO.nil ?_
              change AC _ _ _ _
              refine AC.seq ?_
              refine AC.region ?_
              refine AO.op rfl (AOp.move rfl rfl (ltb rfl) rfl ?_)
              refine AO.op rfl (AOp.move rfl rfl (ltb rfl) rfl ?_)
              refine AO.op rfl (AOp.ineq rfl rfl (ltb rfl) rfl rfl ?_)
              refine AO.nil ?_
              change AC _ _ _ _
              refine AC.cond rfl (fun q85 => ?_) (fun q85 => ?_)
              · replace h1 := cT h1 q85
                cases h1
              replace h1 := cF h1 q85
              refine AC.skip ?_
              change AC _ _ _ _
              refine AC.region ?_
              obtain ⟨q86, h1⟩ := need_elim h1
              refine AO.op rfl (AOp.iadd rfl rfl (ltb rfl) rfl rfl rfl q86.1 q86.2 ?_)
              refine AO.op rfl (AOp.move rfl rfl (ltb rfl) rfl ?_)
              refine AO.nil ?_
              exact ⟨(g56 + (1 : Int)), _, rfl, (LeL.refl _), rfl, rfl, h1⟩
            replace h1 := cF h1 q81
            refine AO.dec (decide (x61.dt = 54)) (fun q87 => ?_) (fun q87 => ?_)
            · replace h1 := cT h1 q87
              obtain ⟨y88, q89, h1⟩ := bind_elim h1
              refine AO.sub 19 rfl (eIfc_le q87 q89) ?_
              obtain ⟨y90, q91, h1⟩ := bind_elim h1
              refine AO.op rfl (AOp.callE (EntersS.meth (by kernel_rfl) rfl rfl rfl meth54_Layout rfl rfl) rfl (ltb rfl) rfl rfl (w_GeometryCollection_Layout F y88 y90 q91) ?_)
              rintro _ rfl
              refine AO.op rfl (AOp.assign rfl rfl (ltb rfl) rfl ?_)
              refine AO.nil ?_
              change AC _ _ _ _
              refine AC.seq ?_
              refine AC.region ?_
              refine AO.op rfl (AOp.move rfl rfl (ltb rfl) rfl ?_)
              refine AO.op rfl (AOp.move rfl rfl (ltb rfl) rfl ?_)
              refine AO.op rfl (AOp.ineq rfl rfl (ltb rfl) rfl rfl ?_)
              refine AO.nil ?_
              change AC _ _ _ _
              refine AC.cond rfl (fun q92 => ?_) (fun q92 => ?_)
              · replace h1 := cT h1 q92
                cases h1
              replace h1 := cF h1 q92
              refine AC.skip ?_
              change AC _ _ _ _
              refine AC.region ?_
              obtain ⟨q93, h1⟩ := need_elim h1
              refine AO.op rfl (AOp.iadd rfl rfl (ltb rfl) rfl rfl rfl q93.1 q93.2 ?_)
              refine AO.op rfl (AOp.move rfl rfl (ltb rfl) rfl ?_)
              refine AO.nil ?_
              exact ⟨(g56 + (1 : Int)), _, rfl, (LeL.refl _), rfl, rfl, h1⟩
            replace h1 := cF h1 q87
            refine AO.dec (decide (x61.dt = 64)) (fun q94 => ?_) (fun q94 => ?_)
            · replace h1 := cT h1 q94
              obtain ⟨y95, q96, h1⟩ := bind_elim h1
              refine AO.sub 19 rfl (eIfc_le q94 q96) ?_
              refine AO.op rfl (AOp.inlE [1, 13, 14, 15] (EntersS.meth (by kernel_rfl) rfl rfl rfl meth64_Layout rfl rfl) Try.func88 rfl Try.ntmps88 rfl (ltb rfl) (leb rfl) rfl ?_)
              intro fr97
              refine AC.seq ?_
              refine AC.region ?_
              refine AO.op rfl (AOp.assign rfl rfl (ltb rfl) rfl ?_)
              refine AO.objs (obs' := [.fix 27 [.d (di .i64 a0.Kind), .d (di .i64 a0.Layout), .d (di .i64 a0.SRID), .d (eS1 a0.Flat), .d (eS2 a0.Ends), .d (eS3 a0.Endss), .d (eS0 a0.Kids)], .fix 106 [.d (di .i64 (0 : Int)), .own 3, .d (di .i64 a0.SRID)], .dead, .grow 44 1 (List.map keS5 g47), .frame fr48 [], .frame fr49 [(0, .ptr 1 0)], .frame fr50 [(0, .ptr 1 0), (1, .d (di .i64 a0.Layout))], .frame fr97 [(1, .d (di .i64 a0.Layout)), (13, .own 3), (14, .d (di .i64 ((g47.length : Nat) : Int))), (15, .d (di .i64 g56))]]) rfl ?_
              refine AO.nil ?_
              change AC _ _ _ _
              refine AC.seq ?_
              refine AC.region ?_
              refine AO.op rfl (AOp.move rfl rfl (ltb rfl) rfl ?_)
              refine AO.op rfl (AOp.nilCheck rfl rfl (ltb rfl) rfl rfl ?_)
              refine AO.op rfl (AOp.fieldAddrEp rfl rfl (ltb rfl) rfl fo91_0 ?_)
              refine AO.op rfl (AOp.loadEp rfl rfl (ltb rfl) rfl agg63 rfl ?_)
              refine AO.op rfl (AOp.assign rfl rfl (ltb rfl) rfl ?_)
              refine AO.nil ?_
              change AC _ _ _ _
              refine AC.ret ?_
              refine inlret (ob' := [.fix 27 [.d (di .i64 a0.Kind), .d (di .i64 a0.Layout), .d (di .i64 a0.SRID), .d (eS1 a0.Flat), .d (eS2 a0.Ends), .d (eS3 a0.Endss), .d (eS0 a0.Kids)], .fix 106 [.d (di .i64 (0 : Int)), .own 3, .d (di .i64 a0.SRID)], .dead, .grow 44 1 (List.map keS5 g47), .frame fr48 [], .frame fr49 [(0, .ptr 1 0)], .frame fr50 [(0, .ptr 1 0), (1, .d (di .i64 a0.Layout))], .dead]) (e' := [(1, .d (di .i64 a0.Layout)), (13, .own 3), (14, .d (di .i64 ((g47.length : Nat) : Int))), (15, .d (di .i64 g56))]) (r := .d (di .i64 y95.geom0.layout)) rfl rfl rfl ?_
              change AO _ _ _ _ _
              refine AO.op rfl (AOp.assign rfl rfl (ltb rfl) rfl ?_)
              refine AO.objs (obs' := [.fix 27 [.d (di .i64 a0.Kind), .d (di .i64 a0.Layout), .d (di .i64 a0.SRID), .d (eS1 a0.Flat), .d (eS2 a0.Ends), .d (eS3 a0.Endss), .d (eS0 a0.Kids)], .fix 106 [.d (di .i64 (0 : Int)), .own 3, .d (di .i64 a0.SRID)], .dead, .grow 44 1 (List.map keS5 g47), .frame fr48 [], .frame fr49 [(0, .ptr 1 0)], .frame fr50 [(0, .ptr 1 0), (1, .d (di .i64 a0.Layout))], .dead]) rfl ?_
              refine AO.nil ?_
              change AC _ _ _ _
              refine AC.seq ?_
              refine AC.region ?_
              refine AO.op rfl (AOp.move rfl rfl (ltb rfl) rfl ?_)
              refine AO.op rfl (AOp.move rfl rfl (ltb rfl) rfl ?_)
              refine AO.op rfl (AOp.ineq rfl rfl (ltb rfl) rfl rfl ?_)
              refine AO.nil ?_
              change AC _ _ _ _
              refine AC.cond rfl (fun q98 => ?_) (fun q98 => ?_)
              · replace h1 := cT h1 q98
                cases h1
              replace h1 := cF h1 q98
              refine AC.skip ?_
              change AC _ _ _ _
              refine AC.region ?_
              obtain ⟨q99, h1⟩ := need_elim h1
              refine AO.op rfl (AOp.iadd rfl rfl (ltb rfl) rfl rfl rfl q99.1 q99.2 ?_)
              refine AO.op rfl (AOp.move rfl rfl (ltb rfl) rfl ?_)
              refine AO.nil ?_
              exact ⟨(g56 + (1 : Int)), _, rfl, (LeL.refl _), rfl, rfl, h1⟩
            replace h1 := cF h1 q94
            refine AO.dec (decide (x61.dt = 67)) (fun q100 => ?_) (fun q100 => ?_)
            · replace h1 := cT h1 q100
              obtain ⟨y101, q102, h1⟩ := bind_elim h1
              refine AO.sub 19 rfl (eIfc_le q100 q102) ?_
              refine AO.op rfl (AOp.inlE [1, 13, 14, 15] (EntersS.meth (by kernel_rfl) rfl rfl rfl meth67_Layout rfl rfl) Try.func88 rfl Try.ntmps88 rfl (ltb rfl) (leb rfl) rfl ?_)
              intro fr103
              refine AC.seq ?_
              refine AC.region ?_
              refine AO.op rfl (AOp.assign rfl rfl (ltb rfl) rfl ?_)
              refine AO.objs (obs' := [.fix 27 [.d (di .i64 a0.Kind), .d (di .i64 a0.Layout), .d (di .i64 a0.SRID), .d (eS1 a0.Flat), .d (eS2 a0.Ends), .d (eS3 a0.Endss), .d (eS0 a0.Kids)], .fix 106 [.d (di .i64 (0 : Int)), .own 3, .d (di .i64 a0.SRID)], .dead, .grow 44 1 (List.map keS5 g47), .frame fr48 [], .frame fr49 [(0, .ptr 1 0)], .frame fr50 [(0, .ptr 1 0), (1, .d (di .i64 a0.Layout))], .frame fr103 [(1, .d (di .i64 a0.Layout)), (13, .own 3), (14, .d (di .i64 ((g47.length : Nat) : Int))), (15, .d (di .i64 g56))]]) rfl ?_
              refine AO.nil ?_
              change AC _ _ _ _
              refine AC.seq ?_
              refine AC.region ?_
              refine AO.op rfl (AOp.move rfl rfl (ltb rfl) rfl ?_)
              refine AO.op rfl (AOp.nilCheck rfl rfl (ltb rfl) rfl rfl ?_)
              refine AO.op rfl (AOp.fieldAddrEp rfl rfl (ltb rfl) rfl fo91_0 ?_)
              refine AO.op rfl (AOp.loadEp rfl rfl (ltb rfl) rfl agg63 rfl ?_)
              refine AO.op rfl (AOp.assign rfl rfl (ltb rfl) rfl ?_)
              refine AO.nil ?_
              change AC _ _ _ _
              refine AC.ret ?_
              refine inlret (ob' := [.fix 27 [.d (di .i64 a0.Kind), .d (di .i64 a0.Layout), .d (di .i64 a0.SRID), .d (eS1 a0.Flat), .d (eS2 a0.Ends), .d (eS3 a0.Endss), .d (eS0 a0.Kids)], .fix 106 [.d (di .i64 (0 : Int)), .own 3, .d (di .i64 a0.SRID)], .dead, .grow 44 1 (List.map keS5 g47), .frame fr48 [], .frame fr49 [(0, .ptr 1 0)], .frame fr50 [(0, .ptr 1 0), (1, .d (di .i64 a0.Layout))], .dead]) (e' := [(1, .d (di .i64 a0.Layout)), (13, .own 3), (14, .d (di .i64 ((g47.length : Nat) : Int))), (15, .d (di .i64 g56))]) (r := .d (di .i64 y101.geom1.geom0.layout)) rfl rfl rfl ?_
              change AO _ _ _ _ _
              refine AO.op rfl (AOp.assign rfl rfl (ltb rfl) rfl ?_)
              refine AO.objs (obs' := [.fix 27 [.d (di .i64 a0.Kind), .d (di .i64 a0.Layout), .d (di .i64 a0.SRID), .d (eS1 a0.Flat), .d (eS2 a0.Ends), .d (eS3 a0.Endss), .d (eS0 a0.Kids)], .fix 106 [.d (di .i64 (0 : Int)), .own 3, .d (di .i64 a0.SRID)], .dead, .grow 44 1 (List.map keS5 g47), .frame fr48 [], .frame fr49 [(0, .ptr 1 0)], .frame fr50 [(0, .ptr 1 0), (1, .d (di .i64 a0.Layout))], .dead]) rfl ?_
              refine AO.nil ?_
              change AC _ _ _ _
              refine AC.seq ?_
              refine AC.region ?_
              refine AO.op rfl (AOp.move rfl rfl (ltb rfl) rfl ?_)
              refine AO.op rfl (AOp.move rfl rfl (ltb rfl) rfl ?_)
              refine AO.op rfl (AOp.ineq rfl rfl (ltb rfl) rfl rfl ?_)
              refine AO.nil ?_
              change AC _ _ _ _
              refine AC.cond rfl (fun q104 => ?_) (fun q104 => ?_)
              · replace h1 := cT h1 q104
                cases h1
              replace h1 := cF h1 q104
              refine AC.skip ?_
              change AC _ _ _ _
              refine AC.region ?_
              obtain ⟨q105, h1⟩ := need_elim h1
              refine AO.op rfl (AOp.iadd rfl rfl (ltb rfl) rfl rfl rfl q105.1 q105.2 ?_)
              refine AO.op rfl (AOp.move rfl rfl (ltb rfl) rfl ?_)
              refine AO.nil ?_
              exact ⟨(g56 + (1 : Int)), _, rfl, (LeL.refl _), rfl, rfl, h1⟩
            replace h1 := cF h1 q100
            refine AO.dec (decide (x61.dt = 70)) (fun q106 => ?_) (fun q106 => ?_)
            · replace h1 := cT h1 q106
              obtain ⟨y107, q108, h1⟩ := bind_elim h1
              refine AO.sub 19 rfl (eIfc_le q106 q108) ?_
              refine AO.op rfl (AOp.inlE [1, 13, 14, 15] (EntersS.meth (by kernel_rfl) rfl rfl rfl meth70_Layout rfl rfl) Try.func88 rfl Try.ntmps88 rfl (ltb rfl) (leb rfl) rfl ?_)
              intro fr109
              refine AC.seq ?_
              refine AC.region ?_
              refine AO.op rfl (AOp.assign rfl rfl (ltb rfl) rfl ?_)
              refine AO.objs (obs' := [.fix 27 [.d (di .i64 a0.Kind), .d (di .i64 a0.Layout), .d (di .i64 a0.SRID), .d (eS1 a0.Flat), .d (eS2 a0.Ends), .d (eS3 a0.Endss), .d (eS0 a0.Kids)], .fix 106 [.d (di .i64 (0 : Int)), .own 3, .d (di .i64 a0.SRID)], .dead, .grow 44 1 (List.map keS5 g47), .frame fr48 [], .frame fr49 [(0, .ptr 1 0)], .frame fr50 [(0, .ptr 1 0), (1, .d (di .i64 a0.Layout))], .frame fr109 [(1, .d (di .i64 a0.Layout)), (13, .own 3), (14, .d (di .i64 ((g47.length : Nat) : Int))), (15, .d (di .i64 g56))]]) rfl ?_
              refine AO.nil ?_
              change AC _ _ _ _
              refine AC.seq ?_
              refine AC.region ?_
              refine AO.op rfl (AOp.move rfl rfl (ltb rfl) rfl ?_)
              refine AO.op rfl (AOp.nilCheck rfl rfl (ltb rfl) rfl rfl ?_)
              refine AO.op rfl (AOp.fieldAddrEp rfl rfl (ltb rfl) rfl fo91_0 ?_)
              refine AO.op rfl (AOp.loadEp rfl rfl (ltb rfl) rfl agg63 rfl ?_)
              refine AO.op rfl (AOp.assign rfl rfl (ltb rfl) rfl ?_)
              refine AO.nil ?_
              change AC _ _ _ _
              refine AC.ret ?_
              refine inlret (ob' := [.fix 27 [.d (di .i64 a0.Kind), .d (di .i64 a0.Layout), .d (di .i64 a0.SRID), .d (eS1 a0.Flat), .d (eS2 a0.Ends), .d (eS3 a0.Endss), .d (eS0 a0.Kids)], .fix 106 [.d (di .i64 (0 : Int)), .own 3, .d (di .i64 a0.SRID)], .dead, .grow 44 1 (List.map keS5 g47), .frame fr48 [], .frame fr49 [(0, .ptr 1 0)], .frame fr50 [(0, .ptr 1 0), (1, .d (di .i64 a0.Layout))], .dead]) (e' := [(1, .d (di .i64 a0.Layout)), (13, .own 3), (14, .d (di .i64 ((g47.length : Nat) : Int))), (15, .d (di .i64 g56))]) (r := .d (di .i64 y107.geom1.geom0.layout)) rfl rfl rfl ?_
              change AO _ _ _ _ _
              refine AO.op rfl (AOp.assign rfl rfl (ltb rfl) rfl ?_)
              refine AO.objs (obs' := [.fix 27 [.d (di .i64 a0.Kind), .d (di .i64 a0.Layout), .d (di .i64 a0.SRID), .d (eS1 a0.Flat), .d (eS2 a0.Ends), .d (eS3 a0.Endss), .d (eS0 a0.Kids)], .fix 106 [.d (di .i64 (0 : Int)), .own 3, .d (di .i64 a0.SRID)], .dead, .grow 44 1 (List.map keS5 g47), .frame fr48 [], .frame fr49 [(0, .ptr 1 0)], .frame fr50 [(0, .ptr 1 0), (1, .d (di .i64 a0.Layout))], .dead]) rfl ?_
              refine AO.nil ?_
              change AC _ _ _ _
              refine AC.seq ?_
              refine AC.region ?_
              refine AO.op rfl (AOp.move rfl rfl (ltb rfl) rfl ?_)
              refine AO.op rfl (AOp.move rfl rfl (ltb rfl) rfl ?_)
              refine AO.op rfl (AOp.ineq rfl rfl (ltb rfl) rfl rfl ?_)
              refine AO.nil ?_
              change AC _ _ _ _
              refine AC.cond rfl (fun q110 => ?_) (fun q110 => ?_)
              · replace h1 := cT h1 q110
                cases h1
              replace h1 := cF h1 q110
              refine AC.skip ?_
              change AC _ _ _ _
              refine AC.region ?_
              obtain ⟨q111, h1⟩ := need_elim h1
              refine AO.op rfl (AOp.iadd rfl rfl (ltb rfl) rfl rfl rfl q111.1 q111.2 ?_)
              refine AO.op rfl (AOp.move rfl rfl (ltb rfl) rfl ?_)
              refine AO.nil ?_
              exact ⟨(g56 + (1 : Int)), _, rfl, (LeL.refl _), rfl, rfl, h1⟩
            replace h1 := cF h1 q106
            cases h1
          replace h1 := cF h1 q59
          refine AC.exit ?_
          obtain rfl := Option.some.inj h1
          exact ⟨(), _, rfl, (LeL.refl _), rfl, rfl, aftL h0⟩
        intro g55 h0
        unfold p_geometry_k3 at h0
        exact ⟨(), _, rfl, (LeL.refl _), rfl, rfl, h0⟩
      replace h0 := cF h0 q52
      refine AC.skip ?_
      exact ⟨(), _, rfl, (LeL.refl _), rfl, rfl, h0⟩
    intro g51 h0
    unfold p_geometry_k2 at h0
    refine AC.seq ?_
    refine AC.region ?_
    refine AO.op rfl (AOp.assign rfl rfl (ltb rfl) rfl ?_)
    refine AO.nil ?_
    change AC _ _ _ _
    refine AC.ret ?_
    refine inlret (ob' := [.fix 27 [.d (di .i64 a0.Kind), .d (di .i64 a0.Layout), .d (di .i64 a0.SRID), .d (eS1 a0.Flat), .d (eS2 a0.Ends), .d (eS3 a0.Endss), .d (eS0 a0.Kids)], .fix 106 [.d (di .i64 (0 : Int)), .own 3, .d (di .i64 a0.SRID)], .dead, .grow 44 1 (List.map keS5 g47), .frame fr48 [], .frame fr49 [(0, .ptr 1 0)], .dead]) (e' := [(0, .ptr 1 0), (1, .d (di .i64 a0.Layout))]) (r := .d (.v (.nilIface))) rfl rfl rfl ?_
    change AO _ _ _ _ _
    refine AO.op rfl (AOp.assign rfl rfl (ltb rfl) rfl ?_)
    refine AO.objs (obs' := [.fix 27 [.d (di .i64 a0.Kind), .d (di .i64 a0.Layout), .d (di .i64 a0.SRID), .d (eS1 a0.Flat), .d (eS2 a0.Ends), .d (eS3 a0.Endss), .d (eS0 a0.Kids)], .fix 106 [.d (di .i64 (0 : Int)), .own 3, .d (di .i64 a0.SRID)], .dead, .grow 44 1 (List.map keS5 g47), .frame fr48 [], .frame fr49 [(0, .ptr 1 0)], .dead]) rfl ?_
    refine AO.nil ?_
    change AC _ _ _ _
    refine AC.seq ?_
    refine AC.region ?_
    refine AO.op rfl (AOp.move rfl rfl (ltb rfl) rfl ?_)
    refine AO.op rfl (AOp.nilNeq rfl rfl (ltb rfl) rfl imeth119 ?_)
    refine AO.nil ?_
    change AC _ _ _ _
    refine AC.condF rfl rfl ?_
    refine AC.skip ?_
    change AC _ _ _ _
    refine AC.seq ?_
    refine AC.region ?_
    refine AO.op rfl (AOp.move rfl rfl (ltb rfl) rfl ?_)
    refine AO.op rfl (AOp.move rfl rfl (ltb rfl) rfl ?_)
    refine AO.op rfl (AOp.nilCheck rfl rfl (ltb rfl) rfl rfl ?_)
    refine AO.op rfl (AOp.fieldAddr rfl rfl (ltb rfl) rfl fo106_0 ?_)
    refine AO.op rfl (AOp.store rfl rfl rfl rfl size63 rfl rfl rfl (leb rfl) ?_)
    refine AO.nil ?_
    change AC _ _ _ _
    refine AC.seq ?_
    refine AC.region ?_
    refine AO.op rfl (AOp.assign rfl rfl (ltb rfl) rfl ?_)
    refine AO.nil ?_
    change AC _ _ _ _
    refine AC.ret ?_
    refine inlret (ob' := [.fix 27 [.d (di .i64 a0.Kind), .d (di .i64 a0.Layout), .d (di .i64 a0.SRID), .d (eS1 a0.Flat), .d (eS2 a0.Ends), .d (eS3 a0.Endss), .d (eS0 a0.Kids)], .fix 106 [.d (di .i64 a0.Layout), .own 3, .d (di .i64 a0.SRID)], .dead, .grow 44 1 (List.map keS5 g47), .frame fr48 [], .dead, .dead]) (e' := [(0, .ptr 1 0)]) (r := .d (.v (.nilIface))) rfl rfl rfl ?_
    change AO _ _ _ _ _
    refine AO.op rfl (AOp.assign rfl rfl (ltb rfl) rfl ?_)
    refine AO.objs (obs' := [.fix 27 [.d (di .i64 a0.Kind), .d (di .i64 a0.Layout), .d (di .i64 a0.SRID), .d (eS1 a0.Flat), .d (eS2 a0.Ends), .d (eS3 a0.Endss), .d (eS0 a0.Kids)], .fix 106 [.d (di .i64 a0.Layout), .own 3, .d (di .i64 a0.SRID)], .dead, .grow 44 1 (List.map keS5 g47), .frame fr48 [], .dead, .dead]) rfl ?_
    refine AO.nil ?_
    change AC _ _ _ _
    refine AC.seq ?_
    refine AC.region ?_
    refine AO.op rfl (AOp.move rfl rfl (ltb rfl) rfl ?_)
    refine AO.op rfl (AOp.nilNeq rfl rfl (ltb rfl) rfl imeth119 ?_)
    refine AO.nil ?_
    change AC _ _ _ _
    refine AC.condF rfl rfl ?_
    refine AC.skip ?_
    change AC _ _ _ _
    refine AC.seq ?_
    refine AC.region ?_
    refine AO.op rfl (AOp.move rfl rfl (ltb rfl) rfl ?_)
    refine AO.op rfl (AOp.assign rfl rfl (ltb rfl) rfl ?_)
    refine AO.nil ?_
    change AC _ _ _ _
    refine AC.ret ?_
    refine inlret (ob' := [.fix 27 [.d (di .i64 a0.Kind), .d (di .i64 a0.Layout), .d (di .i64 a0.SRID), .d (eS1 a0.Flat), .d (eS2 a0.Ends), .d (eS3 a0.Endss), .d (eS0 a0.Kids)], .fix 106 [.d (di .i64 a0.Layout), .own 3, .d (di .i64 a0.SRID)], .dead, .grow 44 1 (List.map keS5 g47), .dead, .dead, .dead]) (e' := []) (r := .ptr 1 0) rfl rfl rfl ?_
    change AO _ _ _ _ _
    refine AO.op rfl (AOp.makeIfc rfl rfl (ltb rfl) rfl conc54 ?_)
    refine AO.op rfl (AOp.assign rfl rfl (ltb rfl) rfl ?_)
    refine AO.objs (obs' := [.fix 27 [.d (di .i64 a0.Kind), .d (di .i64 a0.Layout), .d (di .i64 a0.SRID), .d (eS1 a0.Flat), .d (eS2 a0.Ends), .d (eS3 a0.Endss), .d (eS0 a0.Kids)], .fix 106 [.d (di .i64 a0.Layout), .own 3, .d (di .i64 a0.SRID)], .dead, .grow 44 1 (List.map keS5 g47), .dead, .dead, .dead]) rfl ?_
    refine AO.nil ?_
    change AC _ _ _ _
    refine AC.ret ?_
    change RetQ _ _ _ .ret _
    obtain rfl := Option.some.inj h0
    refine retq rfl rfl
  replace h0 := cF h0 q41
  refine AC.skip ?_
  change AC _ _ _ _
  refine AC.region ?_
  cases h0
theorem w_geometry : ∀ (F : Nat) (a0 : TImpl_Geom) (r0 : IfcV), p_geometry F a0 = some r0 → FnD Try.prog 22 [e_TImpl_Geom a0] (fun r => r = eIfc r0)
  | 0, _, _, h => by cases h
  | F + 1, a0, r0, h => w_geometry_b _ (fun a0 r0 h => w_geometry F a0 r0 h) F a0 r0 h

set_option maxRecDepth 100000 in
set_option maxHeartbeats 4000000 in
/-- (*pub-orthodrome/pub/gogeom.Polygon).NumLinearRings -/
theorem w_Polygon_NumLinearRings (a0 : TGeom_Polygon) (r0 : Int) (h0 : p_Polygon_NumLinearRings a0 = some r0) : FnD Try.prog 25 [.pt (c_TGeom_Polygon a0)] (fun r => r = di .i64 r0) := by
  refine FnD.of (by kernel_rfl) Try.func25 rfl Try.ntmps25 rfl (leb rfl) fun W ok => ?_
  unfold p_Polygon_NumLinearRings at h0
  refine AC.seq ?_
  refine AC.region ?_
  refine AO.op rfl (AOp.assign rfl rfl (ltb rfl) rfl ?_)
  refine AO.nil ?_
  change AC _ _ _ _
  refine AC.seq ?_
  refine AC.region ?_
  refine AO.op rfl (AOp.move rfl rfl (ltb rfl) rfl ?_)
  refine AO.op rfl (AOp.nilCheck rfl rfl (ltb rfl) rfl rfl ?_)
  refine AO.op rfl (AOp.fieldAddrPt rfl rfl (ltb rfl) rfl fo97_0 ?_)
  refine AO.op rfl (AOp.fieldAddrEp rfl rfl (ltb rfl) rfl fo95_1 ?_)
  refine AO.op rfl (AOp.loadEp rfl rfl (ltb rfl) rfl agg23 rfl ?_)
  refine AO.op rfl (AOp.lenDs (n := a0.geom2.ends.length) (cells := (List.map keS2 a0.geom2.ends)) rfl rfl (ltb rfl) rfl el23 (by decide) (len1 _ _) ?_)
  refine AO.op rfl (AOp.assign rfl rfl (ltb rfl) rfl ?_)
  refine AO.nil ?_
  change AC _ _ _ _
  refine AC.ret ?_
  change RetQ _ _ _ .ret _
  obtain rfl := Option.some.inj h0
  refine retq rfl rfl

set_option maxRecDepth 100000 in
set_option maxHeartbeats 4000000 in
/-- (*pub-orthodrome/pub/gogeom.MultiPoint).NumPoints -/
theorem w_MultiPoint_NumPoints (a0 : TGeom_Polygon) (r0 : Int) (h0 : p_MultiPoint_NumPoints a0 = some r0) : FnD Try.prog 26 [.pt (c_TGeom_Polygon a0)] (fun r => r = di .i64 r0) := by
  refine FnD.of (by kernel_rfl) Try.func26 rfl Try.ntmps26 rfl (leb rfl) fun W ok => ?_
  unfold p_MultiPoint_NumPoints at h0
  refine AC.seq ?_
  refine AC.region ?_
  refine AO.op rfl (AOp.assign rfl rfl (ltb rfl) rfl ?_)
  refine AO.nil ?_
  change AC _ _ _ _
  refine AC.seq ?_
  refine AC.region ?_
  refine AO.op rfl (AOp.move rfl rfl (ltb rfl) rfl ?_)
  refine AO.op rfl (AOp.nilCheck rfl rfl (ltb rfl) rfl rfl ?_)
  refine AO.op rfl (AOp.fieldAddrPt rfl rfl (ltb rfl) rfl fo98_0 ?_)
  refine AO.op rfl (AOp.fieldAddrEp rfl rfl (ltb rfl) rfl fo95_1 ?_)
  refine AO.op rfl (AOp.loadEp rfl rfl (ltb rfl) rfl agg23 rfl ?_)
  refine AO.op rfl (AOp.lenDs (n := a0.geom2.ends.length) (cells := (List.map keS2 a0.geom2.ends)) rfl rfl (ltb rfl) rfl el23 (by decide) (len1 _ _) ?_)
  refine AO.op rfl (AOp.assign rfl rfl (ltb rfl) rfl ?_)
  refine AO.nil ?_
  change AC _ _ _ _
  refine AC.ret ?_
  change RetQ _ _ _ .ret _
  obtain rfl := Option.some.inj h0
  refine retq rfl rfl

set_option maxRecDepth 100000 in
set_option maxHeartbeats 4000000 in
/-- (*pub-orthodrome/pub/gogeom.MultiLineString).NumLineStrings -/
theorem w_MultiLineString_NumLineStrings (a0 : TGeom_Polygon) (r0 : Int) (h0 : p_MultiLineString_NumLineStrings a0 = some r0) : FnD Try.prog 27 [.pt (c_TGeom_Polygon a0)] (fun r => r = di .i64 r0) := by
  refine FnD.of (by kernel_rfl) Try.func27 rfl Try.ntmps27 rfl (leb rfl) fun W ok => ?_
  unfold p_MultiLineString_NumLineStrings at h0
  refine AC.seq ?_
  refine AC.region ?_
  refine AO.op rfl (AOp.assign rfl rfl (ltb rfl) rfl ?_)
  refine AO.nil ?_
  change AC _ _ _ _
  refine AC.seq ?_
  refine AC.region ?_
  refine AO.op rfl (AOp.move rfl rfl (ltb rfl) rfl ?_)
  refine AO.op rfl (AOp.nilCheck rfl rfl (ltb rfl) rfl rfl ?_)
  refine AO.op rfl (AOp.fieldAddrPt rfl rfl (ltb rfl) rfl fo99_0 ?_)
  refine AO.op rfl (AOp.fieldAddrEp rfl rfl (ltb rfl) rfl fo95_1 ?_)
  refine AO.op rfl (AOp.loadEp rfl rfl (ltb rfl) rfl agg23 rfl ?_)
  refine AO.op rfl (AOp.lenDs (n := a0.geom2.ends.length) (cells := (List.map keS2 a0.geom2.ends)) rfl rfl (ltb rfl) rfl el23 (by decide) (len1 _ _) ?_)
  refine AO.op rfl (AOp.assign rfl rfl (ltb rfl) rfl ?_)
  refine AO.nil ?_
  change AC _ _ _ _
  refine AC.ret ?_
  change RetQ _ _ _ .ret _
  obtain rfl := Option.some.inj h0
  refine retq rfl rfl

set_option maxRecDepth 100000 in
set_option maxHeartbeats 4000000 in
/-- (*pub-orthodrome/pub/gogeom.MultiPolygon).NumPolygons -/
theorem w_MultiPolygon_NumPolygons (a0 : TGeom_MultiPolygon) (r0 : Int) (h0 : p_MultiPolygon_NumPolygons a0 = some r0) : FnD Try.prog 28 [.pt (c_TGeom_MultiPolygon a0)] (fun r => r = di .i64 r0) := by
  refine FnD.of (by kernel_rfl) Try.func28 rfl Try.ntmps28 rfl (leb rfl) fun W ok => ?_
  unfold p_MultiPolygon_NumPolygons at h0
  refine AC.seq ?_
  refine AC.region ?_
  refine AO.op rfl (AOp.assign rfl rfl (ltb rfl) rfl ?_)
  refine AO.nil ?_
  change AC _ _ _ _
  refine AC.seq ?_
  refine AC.region ?_
  refine AO.op rfl (AOp.move rfl rfl (ltb rfl) rfl ?_)
  refine AO.op rfl (AOp.nilCheck rfl rfl (ltb rfl) rfl rfl ?_)
  refine AO.op rfl (AOp.fieldAddrPt rfl rfl (ltb rfl) rfl fo103_0 ?_)
  refine AO.op rfl (AOp.fieldAddrEp rfl rfl (ltb rfl) rfl fo101_1 ?_)
  refine AO.op rfl (AOp.loadEp rfl rfl (ltb rfl) rfl agg24 rfl ?_)
  refine AO.op rfl (AOp.lenDs (n := a0.geom3.endss.length) (cells := (List.map keS3 a0.geom3.endss)) rfl rfl (ltb rfl) rfl el24 (by decide) (len1 _ _) ?_)
  refine AO.op rfl (AOp.assign rfl rfl (ltb rfl) rfl ?_)
  refine AO.nil ?_
  change AC _ _ _ _
  refine AC.ret ?_
  change RetQ _ _ _ .ret _
  obtain rfl := Option.some.inj h0
  refine retq rfl rfl

set_option maxRecDepth 100000 in
set_option maxHeartbeats 4000000 in
/-- (*pub-orthodrome/pub/gogeom.GeometryCollection).NumGeoms -/
theorem w_GeometryCollection_NumGeoms (a0 : TGeom_GeometryCollection) (r0 : Int) (h0 : p_GeometryCollection_NumGeoms a0 = some r0) : FnD Try.prog 29 [.pt (c_TGeom_GeometryCollection a0)] (fun r => r = di .i64 r0) := by
  refine FnD.of (by kernel_rfl) Try.func29 rfl Try.ntmps29 rfl (leb rfl) fun W ok => ?_
  unfold p_GeometryCollection_NumGeoms at h0
  refine AC.seq ?_
  refine AC.region ?_
  refine AO.op rfl (AOp.assign rfl rfl (ltb rfl) rfl ?_)
  refine AO.nil ?_
  change AC _ _ _ _
  refine AC.seq ?_
  refine AC.region ?_
  refine AO.op rfl (AOp.move rfl rfl (ltb rfl) rfl ?_)
  refine AO.op rfl (AOp.nilCheck rfl rfl (ltb rfl) rfl rfl ?_)
  refine AO.op rfl (AOp.fieldAddrPt rfl rfl (ltb rfl) rfl fo106_1 ?_)
  refine AO.op rfl (AOp.loadEp rfl rfl (ltb rfl) rfl agg104 rfl ?_)
  refine AO.op rfl (AOp.lenDs (n := a0.geoms.length) (cells := (List.map keS5 a0.geoms)) rfl rfl (ltb rfl) rfl el104 (by decide) (len1 _ _) ?_)
  refine AO.op rfl (AOp.assign rfl rfl (ltb rfl) rfl ?_)
  refine AO.nil ?_
  change AC _ _ _ _
  refine AC.ret ?_
  change RetQ _ _ _ .ret _
  obtain rfl := Option.some.inj h0
  refine retq rfl rfl

set_option maxRecDepth 100000 in
set_option maxHeartbeats 4000000 in
/-- pub-orthodrome/impl.NumParts -/
theorem w_NumParts (F : Nat) (a0 : TImpl_Geom) (r0 : (Int × Bool)) (h0 : p_NumParts F a0 = some r0) : FnD Try.prog 11 [e_TImpl_Geom a0] (fun r => r = .tu [di .i64 r0.1, dbool r0.2]) := by
  refine FnD.wrap (g := 24) (m := 2) (fun vs w h => idle24 vs w h) (by kernel_rfl) Try.func11 rfl Try.ntmps11 rfl (leb rfl) fun W ok => ?_
  unfold p_NumParts at h0
  refine AW.seq ?_
  refine AC.region ?_
  refine AO.op rfl (AOp.box rfl rfl (ltb rfl) rfl rfl ?_)
  refine AO.op rfl (AOp.alloc rfl rfl (ltb rfl) zero3 rfl ?_)
  refine AO.op rfl (AOp.alloc rfl rfl (ltb rfl) zero4 rfl ?_)
  refine AO.nil ?_
  refine ⟨rfl, ?_⟩
  refine AW.defer (caps := [.tmp 2, .tmp 3]) rfl rfl rfl (ltb rfl) rfl rfl rfl rfl (by kernel_rfl) rfl fun df => ?_
  refine AC.seq ?_
  refine AC.seq ?_
  refine AC.region ?_
  refine AO.op rfl (AOp.loadN rfl rfl (ltb rfl) rfl agg27 size27 rfl (leb rfl) rfl ?_)
  obtain ⟨y1, q2, h0⟩ := bind_elim h0
  refine AO.op rfl (AOp.callD rfl rfl (ltb rfl) rfl rfl (w_geometry F a0 y1 q2) ?_)
  rintro _ rfl
  refine AO.nil ?_
  change AC _ _ _ _
  refine AC.block ?_
  refine AC.seq ?_
  refine AC.region ?_
  refine AO.dec (decide (y1.dt = 49)) (fun q3 => ?_) (fun q3 => ?_)
  · replace h0 := cT h0 q3
    obtain ⟨y4, q5, h0⟩ := bind_elim h0
    refine AO.sub 11 rfl (eIfc_le q3 q5) ?_
    refine AO.op rfl (AOp.assertYes rfl rfl (ltb rfl) rfl rfl pass49_49 rfl ?_)
    first | refine AO.op rfl (AOp.extractD rfl rfl (ltb rfl) rfl rfl ?_) | refine AO.op rfl (AOp.extract rfl rfl (ltb rfl) rfl rfl ?_)
    first | refine AO.op rfl (AOp.extractD rfl rfl (ltb rfl) rfl rfl ?_) | refine AO.op rfl (AOp.extract rfl rfl (ltb rfl) rfl rfl ?_)
    refine AO.nil ?_
    change AC _ _ _ _
    refine AC.condT rfl rfl ?_
    refine AC.seq ?_
    refine AC.region ?_
    refine AO.op rfl (AOp.assign rfl rfl (ltb rfl) rfl ?_)
    refine AO.nil ?_
    change AC _ _ _ _
    refine AC.seq ?_
    refine AC.region ?_
    refine AO.op rfl (AOp.move rfl rfl (ltb rfl) rfl ?_)
    obtain ⟨y6, q7, h0⟩ := bind_elim h0
    refine AO.op rfl (AOp.callD rfl rfl (ltb rfl) rfl rfl (w_Polygon_NumLinearRings y4 y6 q7) ?_)
    rintro _ rfl
    refine AO.op rfl (AOp.store rfl rfl rfl rfl size3 rfl rfl rfl (leb rfl) ?_)
    refine AO.op rfl (AOp.store rfl rfl rfl rfl size4 rfl rfl rfl (leb rfl) ?_)
    refine AO.nil ?_
    change AC _ _ _ _
    refine AC.ret ?_
    change RetQ _ _ _ .ret _
    obtain rfl := Option.some.inj h0
    refine retq rfl rfl
  replace h0 := cF h0 q3
  refine AO.dec (decide (y1.dt = 51)) (fun q8 => ?_) (fun q8 => ?_)
  · replace h0 := cT h0 q8
    obtain ⟨y9, q10, h0⟩ := bind_elim h0
    refine AO.sub 11 rfl (eIfc_le q8 q10) ?_
    refine AO.op rfl (AOp.assertNo rfl rfl (ltb rfl) rfl rfl pass51_49 zero49 ?_)
    first | refine AO.op rfl (AOp.extractD rfl rfl (ltb rfl) rfl rfl ?_) | refine AO.op rfl (AOp.extract rfl rfl (ltb rfl) rfl rfl ?_)
    first | refine AO.op rfl (AOp.extractD rfl rfl (ltb rfl) rfl rfl ?_) | refine AO.op rfl (AOp.extract rfl rfl (ltb rfl) rfl rfl ?_)
    refine AO.nil ?_
    change AC _ _ _ _
    refine AC.condF rfl rfl ?_
    refine AC.seq ?_
    refine AC.region ?_
    refine AO.op rfl (AOp.assertYes rfl rfl (ltb rfl) rfl rfl pass51_51 rfl ?_)
    first | refine AO.op rfl (AOp.extractD rfl rfl (ltb rfl) rfl rfl ?_) | refine AO.op rfl (AOp.extract rfl rfl (ltb rfl) rfl rfl ?_)
    first | refine AO.op rfl (AOp.extractD rfl rfl (ltb rfl) rfl rfl ?_) | refine AO.op rfl (AOp.extract rfl rfl (ltb rfl) rfl rfl ?_)
    refine AO.nil ?_
    change AC _ _ _ _
    refine AC.condT rfl rfl ?_
    refine AC.seq ?_
    refine AC.region ?_
    refine AO.op rfl (AOp.assign rfl rfl (ltb rfl) rfl ?_)
    refine AO.nil ?_
    change AC _ _ _ _
    refine AC.seq ?_
    refine AC.region ?_
    refine AO.op rfl (AOp.move rfl rfl (ltb rfl) rfl ?_)
    obtain ⟨y11, q12, h0⟩ := bind_elim h0
    refine AO.op rfl (AOp.callD rfl rfl (ltb rfl) rfl rfl (w_MultiPoint_NumPoints y9 y11 q12) ?_)
    rintro _ rfl
    refine AO.op rfl (AOp.store rfl rfl rfl rfl size3 rfl rfl rfl (leb rfl) ?_)
    refine AO.op rfl (AOp.store rfl rfl rfl rfl size4 rfl rfl rfl (leb rfl) ?_)
    refine AO.nil ?_
    change AC _ _ _ _
    refine AC.ret ?_
    change RetQ _ _ _ .ret _
    obtain rfl := Option.some.inj h0
    refine retq rfl rfl
  replace h0 := cF h0 q8
  refine AO.dec (decide (y1.dt = 52)) (fun q13 => ?_) (fun q13 => ?_)
  · replace h0 := cT h0 q13
    obtain ⟨y14, q15, h0⟩ := bind_elim h0
    refine AO.sub 11 rfl (eIfc_le q13 q15) ?_
    refine AO.op rfl (AOp.assertNo rfl rfl (ltb rfl) rfl rfl pass52_49 zero49 ?_)
    first | refine AO.op rfl (AOp.extractD rfl rfl (ltb rfl) rfl rfl ?_) | refine AO.op rfl (AOp.extract rfl rfl (ltb rfl) rfl rfl ?_)
    first | refine AO.op rfl (AOp.extractD rfl rfl (ltb rfl) rfl rfl ?_) | refine AO.op rfl (AOp.extract rfl rfl (ltb rfl) rfl rfl ?_)
    refine AO.nil ?_
    change AC _ _ _ _
    refine AC.condF rfl rfl ?_
    refine AC.seq ?_
    refine AC.region ?_
    refine AO.op rfl (AOp.assertNo rfl rfl (ltb rfl) rfl rfl pass52_51 zero51 ?_)
    first | refine AO.op rfl (AOp.extractD rfl rfl (ltb rfl) rfl rfl ?_) | refine AO.op rfl (AOp.extract rfl rfl (ltb rfl) rfl rfl ?_)
    first | refine AO.op rfl (AOp.extractD rfl rfl (ltb rfl) rfl rfl ?_) | refine AO.op rfl (AOp.extract rfl rfl (ltb rfl) rfl rfl ?_)
    refine AO.nil ?_
    change AC _ _ _ _
    refine AC.condF rfl rfl ?_
    refine AC.seq ?_
    refine AC.region ?_
    refine AO.op rfl (AOp.assertYes rfl rfl (ltb rfl) rfl rfl pass52_52 rfl ?_)
    first | refine AO.op rfl (AOp.extractD rfl rfl (ltb rfl) rfl rfl ?_) | refine AO.op rfl (AOp.extract rfl rfl (ltb rfl) rfl rfl ?_)
    first | refine AO.op rfl (AOp.extractD rfl rfl (ltb rfl) rfl rfl ?_) | refine AO.op rfl (AOp.extract rfl rfl (ltb rfl) rfl rfl ?_)
    refine AO.nil ?_
    change AC _ _ _ _
    refine AC.condT rfl rfl ?_
    refine AC.seq ?_
    refine AC.region ?_
    refine AO.op rfl (AOp.assign rfl rfl (ltb rfl) rfl ?_)
    refine AO.nil ?_
    change AC _ _ _ _
    refine AC.seq ?_
    refine AC.region ?_
    refine AO.op rfl (AOp.move rfl rfl (ltb rfl) rfl ?_)
    obtain ⟨y16, q17, h0⟩ := bind_elim h0
    refine AO.op rfl (AOp.callD rfl rfl (ltb rfl) rfl rfl (w_MultiLineString_NumLineStrings y14 y16 q17) ?_)
    rintro _ rfl
    refine AO.op rfl (AOp.store rfl rfl rfl rfl size3 rfl rfl rfl (leb rfl) ?_)
    refine AO.op rfl (AOp.store rfl rfl rfl rfl size4 rfl rfl rfl (leb rfl) ?_)
    refine AO.nil ?_
    change AC _ _ _ _
    refine AC.ret ?_
    change RetQ _ _ _ .ret _
    obtain rfl := Option.some.inj h0
    refine retq rfl rfl
  replace h0 := cF h0 q13
  refine AO.dec (decide (y1.dt = 53)) (fun q18 => ?_) (fun q18 => ?_)
  · replace h0 := cT h0 q18
    obtain ⟨y19, q20, h0⟩ := bind_elim h0
    refine AO.sub 11 rfl (eIfc_le q18 q20) ?_
    refine AO.op rfl (AOp.assertNo rfl rfl (ltb rfl) rfl rfl pass53_49 zero49 ?_)
    first | refine AO.op rfl (AOp.extractD rfl rfl (ltb rfl) rfl rfl ?_) | refine AO.op rfl (AOp.extract rfl rfl (ltb rfl) rfl rfl ?_)
    first | refine AO.op rfl (AOp.extractD rfl rfl (ltb rfl) rfl rfl ?_) | refine AO.op rfl (AOp.extract rfl rfl (ltb rfl) rfl rfl ?_)
    refine AO.nil ?_
    change AC _ _ _ _
    refine AC.condF rfl rfl ?_
    refine AC.seq ?_
    refine AC.region ?_
    refine AO.op rfl (AOp.assertNo rfl rfl (ltb rfl) rfl rfl pass53_51 zero51 ?_)
    first | refine AO.op rfl (AOp.extractD rfl rfl (ltb rfl) rfl rfl ?_) | refine AO.op rfl (AOp.extract rfl rfl (ltb rfl) rfl rfl ?_)
    first | refine AO.op rfl (AOp.extractD rfl rfl (ltb rfl) rfl rfl ?_) | refine AO.op rfl (AOp.extract rfl rfl (ltb rfl) rfl rfl ?_)
    refine AO.nil ?_
    change AC _ _ _ _
    refine AC.condF rfl rfl ?_
    refine AC.seq ?_
    refine AC.region ?_
    refine AO.op rfl (AOp.assertNo rfl rfl (ltb rfl) rfl rfl pass53_52 zero52 ?_)
    first | refine AO.op rfl (AOp.extractD rfl rfl (ltb rfl) rfl rfl ?_) | refine AO.op rfl (AOp.extract rfl rfl (ltb rfl) rfl rfl ?_)
    first | refine AO.op rfl (AOp.extractD rfl rfl (ltb rfl) rfl rfl ?_) | refine AO.op rfl (AOp.extract rfl rfl (ltb rfl) rfl rfl ?_)
    refine AO.nil ?_
    change AC _ _ _ _
    refine AC.condF rfl rfl ?_
    refine AC.seq ?_
    refine AC.region ?_
    refine AO.op rfl (AOp.assertYes rfl rfl (ltb rfl) rfl rfl pass53_53 rfl ?_)
    first | refine AO.op rfl (AOp.extractD rfl rfl (ltb rfl) rfl rfl ?_) | refine AO.op rfl (AOp.extract rfl rfl (ltb rfl) rfl rfl ?_)
    first | refine AO.op rfl (AOp.extractD rfl rfl (ltb rfl) rfl rfl ?_) | refine AO.op rfl (AOp.extract rfl rfl (ltb rfl) rfl rfl ?_)
    refine AO.nil ?_
    change AC _ _ _ _
    refine AC.condT rfl rfl ?_
    refine AC.seq ?_
    refine AC.region ?_
    refine AO.op rfl (AOp.assign rfl rfl (ltb rfl) rfl ?_)
    refine AO.nil ?_
    change AC _ _ _ _
    refine AC.seq ?_
    refine AC.region ?_
    refine AO.op rfl (AOp.move rfl rfl (ltb rfl) rfl ?_)
    obtain ⟨y21, q22, h0⟩ := bind_elim h0
    refine AO.op rfl (AOp.callD rfl rfl (ltb rfl) rfl rfl (w_MultiPolygon_NumPolygons y19 y21 q22) ?_)
    rintro _ rfl
    refine AO.op rfl (AOp.store rfl rfl rfl rfl size3 rfl rfl rfl (leb rfl) ?_)
    refine AO.op rfl (AOp.store rfl rfl rfl rfl size4 rfl rfl rfl (leb rfl) ?_)
    refine AO.nil ?_
    change AC _ _ _ _
    refine AC.ret ?_
    change RetQ _ _ _ .ret _
    obtain rfl := Option.some.inj h0
    refine retq rfl rfl
  replace h0 := cF h0 q18
  refine AO.dec (decide (y1.dt = 54)) (fun q23 => ?_) (fun q23 => ?_)
  · replace h0 := cT h0 q23
    obtain ⟨y24, q25, h0⟩ := bind_elim h0
    refine AO.sub 11 rfl (eIfc_le q23 q25) ?_
    refine AO.op rfl (AOp.assertNo rfl rfl (ltb rfl) rfl rfl pass54_49 zero49 ?_)
    first | refine AO.op rfl (AOp.extractD rfl rfl (ltb rfl) rfl rfl ?_) | refine AO.op rfl (AOp.extract rfl rfl (ltb rfl) rfl rfl ?_)
    first | refine AO.op rfl (AOp.extractD rfl rfl (ltb rfl) rfl rfl ?_) | refine AO.op rfl (AOp.extract rfl rfl (ltb rfl) rfl rfl ?_)
    refine AO.nil ?_
    change AC _ _ _ _
    refine AC.condF rfl rfl ?_
    refine AC.seq ?_
    refine AC.region ?_
    refine AO.op rfl (AOp.assertNo rfl rfl (ltb rfl) rfl rfl pass54_51 zero51 ?_)
    first | refine AO.op rfl (AOp.extractD rfl rfl (ltb rfl) rfl rfl ?_) | refine AO.op rfl (AOp.extract rfl rfl (ltb rfl) rfl rfl ?_)
    first | refine AO.op rfl (AOp.extractD rfl rfl (ltb rfl) rfl rfl ?_) | refine AO.op rfl (AOp.extract rfl rfl (ltb rfl) rfl rfl ?_)
    refine AO.nil ?_
    change AC _ _ _ _
    refine AC.condF rfl rfl ?_
    refine AC.seq ?_
    refine AC.region ?_
    refine AO.op rfl (AOp.assertNo rfl rfl (ltb rfl) rfl rfl pass54_52 zero52 ?_)
    first | refine AO.op rfl (AOp.extractD rfl rfl (ltb rfl) rfl rfl ?_) | refine AO.op rfl (AOp.extract rfl rfl (ltb rfl) rfl rfl ?_)
    first | refine AO.op rfl (AOp.extractD rfl rfl (ltb rfl) rfl rfl ?_) | refine AO.op rfl (AOp.extract rfl rfl (ltb rfl) rfl rfl ?_)
    refine AO.nil ?_
    change AC _ _ _ _
    refine AC.condF rfl rfl ?_
    refine AC.seq ?_
    refine AC.region ?_
    refine AO.op rfl (AOp.assertNo rfl rfl (ltb rfl) rfl rfl pass54_53 zero53 ?_)
    first | refine AO.op rfl (AOp.extractD rfl rfl (ltb rfl) rfl rfl ?_) | refine AO.op rfl (AOp.extract rfl rfl (ltb rfl) rfl rfl ?_)
    first | refine AO.op rfl (AOp.extractD rfl rfl (ltb rfl) rfl rfl ?_) | refine AO.op rfl (AOp.extract rfl rfl (ltb rfl) rfl rfl ?_)
    refine AO.nil ?_
    change AC _ _ _ _
    refine AC.condF rfl rfl ?_
    refine AC.seq ?_
    refine AC.region ?_
    refine AO.op rfl (AOp.assertYes rfl rfl (ltb rfl) rfl rfl pass54_54 rfl ?_)
    first | refine AO.op rfl (AOp.extractD rfl rfl (ltb rfl) rfl rfl ?_) | refine AO.op rfl (AOp.extract rfl rfl (ltb rfl) rfl rfl ?_)
    first | refine AO.op rfl (AOp.extractD rfl rfl (ltb rfl) rfl rfl ?_) | refine AO.op rfl (AOp.extract rfl rfl (ltb rfl) rfl rfl ?_)
    refine AO.nil ?_
    change AC _ _ _ _
    refine AC.condT rfl rfl ?_
    refine AC.seq ?_
    refine AC.region ?_
    refine AO.op rfl (AOp.assign rfl rfl (ltb rfl) rfl ?_)
    refine AO.nil ?_
    change AC _ _ _ _
    refine AC.seq ?_
    refine AC.region ?_
    refine AO.op rfl (AOp.move rfl rfl (ltb rfl) rfl ?_)
    obtain ⟨y26, q27, h0⟩ := bind_elim h0
    refine AO.op rfl (AOp.callD rfl rfl (ltb rfl) rfl rfl (w_GeometryCollection_NumGeoms y24 y26 q27) ?_)
    rintro _ rfl
    refine AO.op rfl (AOp.store rfl rfl rfl rfl size3 rfl rfl rfl (leb rfl) ?_)
    refine AO.op rfl (AOp.store rfl rfl rfl rfl size4 rfl rfl rfl (leb rfl) ?_)
    refine AO.nil ?_
    change AC _ _ _ _
    refine AC.ret ?_
    change RetQ _ _ _ .ret _
    obtain rfl := Option.some.inj h0
    refine retq rfl rfl
  replace h0 := cF h0 q23
  refine AO.dec (decide (y1.dt = 64)) (fun q28 => ?_) (fun q28 => ?_)
  · replace h0 := cT h0 q28
    obtain ⟨y29, q30, h0⟩ := bind_elim h0
    refine AO.sub 11 rfl (eIfc_le q28 q30) ?_
    refine AO.op rfl (AOp.assertNo rfl rfl (ltb rfl) rfl rfl pass64_49 zero49 ?_)
    first | refine AO.op rfl (AOp.extractD rfl rfl (ltb rfl) rfl rfl ?_) | refine AO.op rfl (AOp.extract rfl rfl (ltb rfl) rfl rfl ?_)
    first | refine AO.op rfl (AOp.extractD rfl rfl (ltb rfl) rfl rfl ?_) | refine AO.op rfl (AOp.extract rfl rfl (ltb rfl) rfl rfl ?_)
    refine AO.nil ?_
    change AC _ _ _ _
    refine AC.condF rfl rfl ?_
    refine AC.seq ?_
    refine AC.region ?_
    refine AO.op rfl (AOp.assertNo rfl rfl (ltb rfl) rfl rfl pass64_51 zero51 ?_)
    first | refine AO.op rfl (AOp.extractD rfl rfl (ltb rfl) rfl rfl ?_) | refine AO.op rfl (AOp.extract rfl rfl (ltb rfl) rfl rfl ?_)
    first | refine AO.op rfl (AOp.extractD rfl rfl (ltb rfl) rfl rfl ?_) | refine AO.op rfl (AOp.extract rfl rfl (ltb rfl) rfl rfl ?_)
    refine AO.nil ?_
    change AC _ _ _ _
    refine AC.condF rfl rfl ?_
    refine AC.seq ?_
    refine AC.region ?_
    refine AO.op rfl (AOp.assertNo rfl rfl (ltb rfl) rfl rfl pass64_52 zero52 ?_)
    first | refine AO.op rfl (AOp.extractD rfl rfl (ltb rfl) rfl rfl ?_) | refine AO.op rfl (AOp.extract rfl rfl (ltb rfl) rfl rfl ?_)
    first | refine AO.op rfl (AOp.extractD rfl rfl (ltb rfl) rfl rfl ?_) | refine AO.op rfl (AOp.extract rfl rfl (ltb rfl) rfl rfl ?_)
    refine AO.nil ?_
    change AC _ _ _ _
    refine AC.condF rfl rfl ?_
    refine AC.seq ?_
    refine AC.region ?_
    refine AO.op rfl (AOp.assertNo rfl rfl (ltb rfl) rfl rfl pass64_53 zero53 ?_)
    first | refine AO.op rfl (AOp.extractD rfl rfl (ltb rfl) rfl rfl ?_) | refine AO.op rfl (AOp.extract rfl rfl (ltb rfl) rfl rfl ?_)
    first | refine AO.op rfl (AOp.extractD rfl rfl (ltb rfl) rfl rfl ?_) | refine AO.op rfl (AOp.extract rfl rfl (ltb rfl) rfl rfl ?_)
    refine AO.nil ?_
    change AC _ _ _ _
    refine AC.condF rfl rfl ?_
    refine AC.seq ?_
    refine AC.region ?_
    refine AO.op rfl (AOp.assertNo rfl rfl (ltb rfl) rfl rfl pass64_54 zero54 ?_)
    first | refine AO.op rfl (AOp.extractD rfl rfl (ltb rfl) rfl rfl ?_) | refine AO.op rfl (AOp.extract rfl rfl (ltb rfl) rfl rfl ?_)
    first | refine AO.op rfl (AOp.extractD rfl rfl (ltb rfl) rfl rfl ?_) | refine AO.op rfl (AOp.extract rfl rfl (ltb rfl) rfl rfl ?_)
    refine AO.nil ?_
    change AC _ _ _ _
    refine AC.condF rfl rfl ?_
    refine AC.skip ?_
    change AC _ _ _ _
    refine AC.seq ?_
    refine AC.region ?_
    refine AO.op rfl (AOp.store rfl rfl rfl rfl size3 rfl rfl rfl (leb rfl) ?_)
    refine AO.op rfl (AOp.store rfl rfl rfl rfl size4 rfl rfl rfl (leb rfl) ?_)
    refine AO.nil ?_
    change AC _ _ _ _
    refine AC.ret ?_
    change RetQ _ _ _ .ret _
    obtain rfl := Option.some.inj h0
    refine retq rfl rfl
  replace h0 := cF h0 q28
  refine AO.dec (decide (y1.dt = 67)) (fun q31 => ?_) (fun q31 => ?_)
  · replace h0 := cT h0 q31
    obtain ⟨y32, q33, h0⟩ := bind_elim h0
    refine AO.sub 11 rfl (eIfc_le q31 q33) ?_
    refine AO.op rfl (AOp.assertNo rfl rfl (ltb rfl) rfl rfl pass67_49 zero49 ?_)
    first | refine AO.op rfl (AOp.extractD rfl rfl (ltb rfl) rfl rfl ?_) | refine AO.op rfl (AOp.extract rfl rfl (ltb rfl) rfl rfl ?_)
    first | refine AO.op rfl (AOp.extractD rfl rfl (ltb rfl) rfl rfl ?_) | refine AO.op rfl (AOp.extract rfl rfl (ltb rfl) rfl rfl ?_)
    refine AO.nil ?_
    change AC _ _ _ _
    refine AC.condF rfl rfl ?_
    refine AC.seq ?_
    refine AC.region ?_
    refine AO.op rfl (AOp.assertNo rfl rfl (ltb rfl) rfl rfl pass67_51 zero51 ?_)
    first | refine AO.op rfl (AOp.extractD rfl rfl (ltb rfl) rfl rfl ?_) | refine AO.op rfl (AOp.extract rfl rfl (ltb rfl) rfl rfl ?_)
    first | refine AO.op rfl (AOp.extractD rfl rfl (ltb rfl) rfl rfl ?_) | refine AO.op rfl (AOp.extract rfl rfl (ltb rfl) rfl rfl ?_)
    refine AO.nil ?_
    change AC _ _ _ _
    refine AC.condF rfl rfl ?_
    refine AC.seq ?_
    refine AC.region ?_
    refine AO.op rfl (AOp.assertNo rfl rfl (ltb rfl) rfl rfl pass67_52 zero52 ?_)
    first | refine AO.op rfl (AOp.extractD rfl rfl (ltb rfl) rfl rfl ?_) | refine AO.op rfl (AOp.extract rfl rfl (ltb rfl) rfl rfl ?_)
    first | refine AO.op rfl (AOp.extractD rfl rfl (ltb rfl) rfl rfl ?_) | refine AO.op rfl (AOp.extract rfl rfl (ltb rfl) rfl rfl ?_)
    refine AO.nil ?_
    change AC _ _ _ _
    refine AC.condF rfl rfl ?_
    refine AC.seq ?_
    refine AC.region ?_
    refine AO.op rfl (AOp.assertNo rfl rfl (ltb rfl) rfl rfl pass67_53 zero53 ?_)
    first | refine AO.op rfl (AOp.extractD rfl rfl (ltb rfl) rfl rfl ?_) | refine AO.op rfl (AOp.extract rfl rfl (ltb rfl) rfl rfl ?_)
    first | refine AO.op rfl (AOp.extractD rfl rfl (ltb rfl) rfl rfl ?_) | refine AO.op rfl (AOp.extract rfl rfl (ltb rfl) rfl rfl ?_)
    refine AO.nil ?_
    change AC _ _ _ _
    refine AC.condF rfl rfl ?_
    refine AC.seq ?_
    refine AC.region ?_
    refine AO.op rfl (AOp.assertNo rfl rfl (ltb rfl) rfl rfl pass67_54 zero54 ?_)
    first | refine AO.op rfl (AOp.extractD rfl rfl (ltb rfl) rfl rfl ?_) | refine AO.op rfl (AOp.extract rfl rfl (ltb rfl) rfl rfl ?_)
    first | refine AO.op rfl (AOp.extractD rfl rfl (ltb rfl) rfl rfl ?_) | refine AO.op rfl (AOp.extract rfl rfl (ltb rfl) rfl rfl ?_)
    refine AO.nil ?_
    change AC _ _ _ _
    refine AC.condF rfl rfl ?_
    refine AC.skip ?_
    change AC _ _ _ _
    refine AC.seq ?_
    refine AC.region ?_
    refine AO.op rfl (AOp.store rfl rfl rfl rfl size3 rfl rfl rfl (leb rfl) ?_)
    refine AO.op rfl (AOp.store rfl rfl rfl rfl size4 rfl rfl rfl (leb rfl) ?_)
    refine AO.nil ?_
    change AC _ _ _ _
    refine AC.ret ?_
    change RetQ _ _ _ .ret _
    obtain rfl := Option.some.inj h0
    refine retq rfl rfl
  replace h0 := cF h0 q31
  refine AO.dec (decide (y1.dt = 70)) (fun q34 => ?_) (fun q34 => ?_)
  · replace h0 := cT h0 q34
    obtain ⟨y35, q36, h0⟩ := bind_elim h0
    refine AO.sub 11 rfl (eIfc_le q34 q36) ?_
    refine AO.op rfl (AOp.assertNo rfl rfl (ltb rfl) rfl rfl pass70_49 zero49 ?_)
    first | refine AO.op rfl (AOp.extractD rfl rfl (ltb rfl) rfl rfl ?_) | refine AO.op rfl (AOp.extract rfl rfl (ltb rfl) rfl rfl ?_)
    first | refine AO.op rfl (AOp.extractD rfl rfl (ltb rfl) rfl rfl ?_) | refine AO.op rfl (AOp.extract rfl rfl (ltb rfl) rfl rfl ?_)
    refine AO.nil ?_
    change AC _ _ _ _
    refine AC.condF rfl rfl ?_
    refine AC.seq ?_
    refine AC.region ?_
    refine AO.op rfl (AOp.assertNo rfl rfl (ltb rfl) rfl rfl pass70_51 zero51 ?_)
    first | refine AO.op rfl (AOp.extractD rfl rfl (ltb rfl) rfl rfl ?_) | refine AO.op rfl (AOp.extract rfl rfl (ltb rfl) rfl rfl ?_)
    first | refine AO.op rfl (AOp.extractD rfl rfl (ltb rfl) rfl rfl ?_) | refine AO.op rfl (AOp.extract rfl rfl (ltb rfl) rfl rfl ?_)
    refine AO.nil ?_
    change AC _ _ _ _
    refine AC.condF rfl rfl ?_
    refine AC.seq ?_
    refine AC.region ?_
    refine AO.op rfl (AOp.assertNo rfl rfl (ltb rfl) rfl rfl pass70_52 zero52 ?_)
    first | refine AO.op rfl (AOp.extractD rfl rfl (ltb rfl) rfl rfl ?_) | refine AO.op rfl (AOp.extract rfl rfl (ltb rfl) rfl rfl ?_)
    first | refine AO.op rfl (AOp.extractD rfl rfl (ltb rfl) rfl rfl ?_) | refine AO.op rfl (AOp.extract rfl rfl (ltb rfl) rfl rfl ?_)
    refine AO.nil ?_
    change AC _ _ _ _
    refine AC.condF rfl rfl ?_
    refine AC.seq ?_
    refine AC.region ?_
    refine AO.op rfl (AOp.assertNo rfl rfl (ltb rfl) rfl rfl pass70_53 zero53 ?_)
    first | refine AO.op rfl (AOp.extractD rfl rfl (ltb rfl) rfl rfl ?_) | refine AO.op rfl (AOp.extract rfl rfl (ltb rfl) rfl rfl ?_)
    first | refine AO.op rfl (AOp.extractD rfl rfl (ltb rfl) rfl rfl ?_) | refine AO.op rfl (AOp.extract rfl rfl (ltb rfl) rfl rfl ?_)
    refine AO.nil ?_
    change AC _ _ _ _
    refine AC.condF rfl rfl ?_
    refine AC.seq ?_
    refine AC.region ?_
    refine AO.op rfl (AOp.assertNo rfl rfl (ltb rfl) rfl rfl pass70_54 zero54 ?_)
    first | refine AO.op rfl (AOp.extractD rfl rfl (ltb rfl) rfl rfl ?_) | refine AO.op rfl (AOp.extract rfl rfl (ltb rfl) rfl rfl ?_)
    first | refine AO.op rfl (AOp.extractD rfl rfl (ltb rfl) rfl rfl ?_) | refine AO.op rfl (AOp.extract rfl rfl (ltb rfl) rfl rfl ?_)
    refine AO.nil ?_
    change AC _ _ _ _
    refine AC.condF rfl rfl ?_
    refine AC.skip ?_
    change AC _ _ _ _
    refine AC.seq ?_
    refine AC.region ?_
    refine AO.op rfl (AOp.store rfl rfl rfl rfl size3 rfl rfl rfl (leb rfl) ?_)
    refine AO.op rfl (AOp.store rfl rfl rfl rfl size4 rfl rfl rfl (leb rfl) ?_)
    refine AO.nil ?_
    change AC _ _ _ _
    refine AC.ret ?_
    change RetQ _ _ _ .ret _
    obtain rfl := Option.some.inj h0
    refine retq rfl rfl
  replace h0 := cF h0 q34
  cases h0

set_option maxRecDepth 100000 in
set_option maxHeartbeats 4000000 in
/-- pub-orthodrome/spec.NumParts -/
theorem w_NumParts_12 (a0 : TImpl_Geom) (r0 : Int) (h0 : p_NumParts_12 a0 = some r0) : FnD Try.prog 12 [e_TImpl_Geom a0] (fun r => r = di .i64 r0) := by
  refine FnD.of (by kernel_rfl) Try.func12 rfl Try.ntmps12 rfl (leb rfl) fun W ok => ?_
  unfold p_NumParts_12 at h0
  refine AC.seq ?_
  refine AC.region ?_
  refine AO.op rfl (AOp.box rfl rfl (ltb rfl) rfl rfl ?_)
  refine AO.op rfl (AOp.assign rfl rfl (ltb rfl) rfl ?_)
  refine AO.nil ?_
  change AC _ _ _ _
  refine AC.seq ?_
  refine AC.seq ?_
  refine AC.region ?_
  refine AO.op rfl (AOp.fieldAddr rfl rfl (ltb rfl) rfl fo27_0 ?_)
  refine AO.op rfl (AOp.load1 rfl rfl (ltb rfl) rfl agg3 rfl rfl ?_)
  refine AO.nil ?_
  change AC _ _ _ _
  refine AC.block ?_
  refine AC.joinP (V := Bool) [1, 4] [5] 1 (fun g1 => [(5, .d (dbool g1))]) (fun g1 => [.fix 27 [.d (di .i64 a0.Kind), .d (di .i64 a0.Layout), .d (di .i64 a0.SRID), .d (eS1 a0.Flat), .d (eS2 a0.Ends), .d (eS3 a0.Endss), .d (eS0 a0.Kids)]]) (fun g1 => (p_NumParts_12_k1 a0) g1 = some r0) rfl ?_ ?_
  · refine AC.seq ?_
    refine AC.region ?_
    refine AO.op rfl (AOp.ieql rfl rfl (ltb rfl) rfl rfl ?_)
    refine AO.op rfl (AOp.assign rfl rfl (ltb rfl) rfl ?_)
    refine AO.nil ?_
    change AC _ _ _ _
    refine AC.cond rfl (fun q4 => ?_) (fun q4 => ?_)
    · replace h0 := cT h0 q4
      refine AC.skip ?_
      exact ⟨(decide (a0.Kind = (3 : Int))), _, rfl, (LeL.refl _), rfl, rfl, h0⟩
    replace h0 := cF h0 q4
    refine AC.seq ?_
    refine AC.region ?_
    refine AO.op rfl (AOp.ieql rfl rfl (ltb rfl) rfl rfl ?_)
    refine AO.op rfl (AOp.assign rfl rfl (ltb rfl) rfl ?_)
    refine AO.nil ?_
    change AC _ _ _ _
    refine AC.cond rfl (fun q5 => ?_) (fun q5 => ?_)
    · replace h0 := cT h0 q5
      refine AC.skip ?_
      exact ⟨(decide (a0.Kind = (4 : Int))), _, rfl, (LeL.refl _), rfl, rfl, h0⟩
    replace h0 := cF h0 q5
    refine AC.region ?_
    refine AO.op rfl (AOp.ieql rfl rfl (ltb rfl) rfl rfl ?_)
    refine AO.op rfl (AOp.assign rfl rfl (ltb rfl) rfl ?_)
    refine AO.nil ?_
    exact ⟨(decide (a0.Kind = (5 : Int))), _, rfl, (LeL.refl _), rfl, rfl, h0⟩
  intro g1 h0
  unfold p_NumParts_12_k1 at h0
  refine AC.cond rfl (fun q2 => ?_) (fun q2 => ?_)
  · replace h0 := cT h0 q2
    refine AC.seq ?_
    refine AC.region ?_
    refine AO.op rfl (AOp.fieldAddr rfl rfl (ltb rfl) rfl fo27_4 ?_)
    refine AO.op rfl (AOp.load1 rfl rfl (ltb rfl) rfl agg23 rfl rfl ?_)
    refine AO.op rfl (AOp.lenDs (n := a0.Ends.length) (cells := (List.map keS2 a0.Ends)) rfl rfl (ltb rfl) rfl el23 (by decide) (len1 _ _) ?_)
    refine AO.op rfl (AOp.assign rfl rfl (ltb rfl) rfl ?_)
    refine AO.nil ?_
    change AC _ _ _ _
    refine AC.ret ?_
    change RetQ _ _ _ .ret _
    obtain rfl := Option.some.inj h0
    refine retq rfl rfl
  replace h0 := cF h0 q2
  refine AC.seq ?_
  refine AC.region ?_
  refine AO.op rfl (AOp.ieql rfl rfl (ltb rfl) rfl rfl ?_)
  refine AO.op rfl (AOp.assign rfl rfl (ltb rfl) rfl ?_)
  refine AO.nil ?_
  change AC _ _ _ _
  refine AC.cond rfl (fun q3 => ?_) (fun q3 => ?_)
  · replace h0 := cT h0 q3
    refine AC.seq ?_
    refine AC.region ?_
    refine AO.op rfl (AOp.fieldAddr rfl rfl (ltb rfl) rfl fo27_5 ?_)
    refine AO.op rfl (AOp.load1 rfl rfl (ltb rfl) rfl agg24 rfl rfl ?_)
    refine AO.op rfl (AOp.lenDs (n := a0.Endss.length) (cells := (List.map keS3 a0.Endss)) rfl rfl (ltb rfl) rfl el24 (by decide) (len1 _ _) ?_)
    refine AO.op rfl (AOp.assign rfl rfl (ltb rfl) rfl ?_)
    refine AO.nil ?_
    change AC _ _ _ _
    refine AC.ret ?_
    change RetQ _ _ _ .ret _
    obtain rfl := Option.some.inj h0
    refine retq rfl rfl
  replace h0 := cF h0 q3
  refine AC.skip ?_
  change AC _ _ _ _
  refine AC.seq ?_
  refine AC.region ?_
  refine AO.op rfl (AOp.fieldAddr rfl rfl (ltb rfl) rfl fo27_6 ?_)
  refine AO.op rfl (AOp.load1 rfl rfl (ltb rfl) rfl agg25 rfl rfl ?_)
  refine AO.op rfl (AOp.lenDs (n := a0.Kids.length) (cells := (List.flatMap c0_TImpl_Geom a0.Kids)) rfl rfl (ltb rfl) rfl el25 (by decide) (lenN _ 7 c0_TImpl_Geom_len _) ?_)
  refine AO.op rfl (AOp.assign rfl rfl (ltb rfl) rfl ?_)
  refine AO.nil ?_
  change AC _ _ _ _
  refine AC.ret ?_
  change RetQ _ _ _ .ret _
  obtain rfl := Option.some.inj h0
  refine retq rfl rfl

set_option maxRecDepth 100000 in
set_option maxHeartbeats 4000000 in
/-- pub-orthodrome/laws.FnNumParts -/
theorem w_FnNumParts (F : Nat) (a0 : TImpl_Geom) (r0 : Bool) (h0 : p_FnNumParts F a0 = some r0) : FnD Try.prog 4 [e_TImpl_Geom a0] (fun r => r = dbool r0) := by
  refine FnD.of (by kernel_rfl) Try.func4 rfl Try.ntmps4 rfl (leb rfl) fun W ok => ?_
  unfold p_FnNumParts at h0
  refine AC.seq ?_
  refine AC.region ?_
  refine AO.op rfl (AOp.box rfl rfl (ltb rfl) rfl rfl ?_)
  refine AO.op rfl (AOp.assign rfl rfl (ltb rfl) rfl ?_)
  refine AO.nil ?_
  change AC _ _ _ _
  refine AC.seq ?_
  refine AC.seq ?_
  refine AC.region ?_
  refine AO.op rfl (AOp.loadN rfl rfl (ltb rfl) rfl agg27 size27 rfl (leb rfl) rfl ?_)
  obtain ⟨y1, q2, h0⟩ := bind_elim h0
  refine AO.op rfl (AOp.callD rfl rfl (ltb rfl) rfl rfl (w_zzFits2 F a0 y1 q2) ?_)
  rintro _ rfl
  refine AO.op rfl (AOp.bnot rfl rfl (ltb rfl) rfl ?_)
  refine AO.nil ?_
  change AC _ _ _ _
  refine AC.cond rfl (fun q3 => ?_) (fun q3 => ?_)
  · replace h0 := cT h0 q3
    refine AC.seq ?_
    refine AC.region ?_
    refine AO.op rfl (AOp.assign rfl rfl (ltb rfl) rfl ?_)
    refine AO.nil ?_
    change AC _ _ _ _
    refine AC.ret ?_
    change RetQ _ _ _ .ret _
    obtain rfl := Option.some.inj h0
    refine retq rfl rfl
  replace h0 := cF h0 q3
  refine AC.skip ?_
  change AC _ _ _ _
  refine AC.seq ?_
  refine AC.seq ?_
  refine AC.region ?_
  refine AO.op rfl (AOp.loadN rfl rfl (ltb rfl) rfl agg27 size27 rfl (leb rfl) rfl ?_)
  obtain ⟨y4, q5, h0⟩ := bind_elim h0
  refine AO.op rfl (AOp.callD rfl rfl (ltb rfl) rfl rfl (w_gHasParts F a0 y4 q5) ?_)
  rintro _ rfl
  refine AO.op rfl (AOp.bnot rfl rfl (ltb rfl) rfl ?_)
  refine AO.nil ?_
  change AC _ _ _ _
  refine AC.cond rfl (fun q6 => ?_) (fun q6 => ?_)
  · replace h0 := cT h0 q6
    refine AC.seq ?_
    refine AC.region ?_
    refine AO.op rfl (AOp.assign rfl rfl (ltb rfl) rfl ?_)
    refine AO.nil ?_
    change AC _ _ _ _
    refine AC.ret ?_
    change RetQ _ _ _ .ret _
    obtain rfl := Option.some.inj h0
    refine retq rfl rfl
  replace h0 := cF h0 q6
  refine AC.skip ?_
  change AC _ _ _ _
  refine AC.seq ?_
  refine AC.region ?_
  refine AO.op rfl (AOp.loadN rfl rfl (ltb rfl) rfl agg27 size27 rfl (leb rfl) rfl ?_)
  obtain ⟨y7, q8, h0⟩ := bind_elim h0
  refine AO.op rfl (AOp.callD rfl rfl (ltb rfl) rfl rfl (w_NumParts F a0 y7 q8) ?_)
  rintro _ rfl
  refine AO.op rfl (AOp.move rfl rfl (ltb rfl) rfl ?_)
  first | refine AO.op rfl (AOp.extractD rfl rfl (ltb rfl) rfl rfl ?_) | refine AO.op rfl (AOp.extract rfl rfl (ltb rfl) rfl rfl ?_)
  first | refine AO.op rfl (AOp.extractD rfl rfl (ltb rfl) rfl rfl ?_) | refine AO.op rfl (AOp.extract rfl rfl (ltb rfl) rfl rfl ?_)
  refine AO.op rfl (AOp.assign rfl rfl (ltb rfl) rfl ?_)
  refine AO.op rfl (AOp.assign rfl rfl (ltb rfl) rfl ?_)
  refine AO.nil ?_
  change AC _ _ _ _
  refine AC.seq ?_
  refine AC.region ?_
  refine AO.op rfl (AOp.move rfl rfl (ltb rfl) rfl ?_)
  refine AO.op rfl (AOp.move rfl rfl (ltb rfl) rfl ?_)
  refine AO.dec y7.2 (fun q9 => ?_) (fun q9 => ?_)
  · replace h0 := cT h0 q9
    refine AO.guardY rfl rfl rfl q9 (AOp.move rfl rfl (ltb rfl) rfl ?_)
    refine AO.guardY rfl rfl rfl q9 (AOp.loadN rfl rfl (ltb rfl) rfl agg27 size27 rfl (leb rfl) rfl ?_)
    obtain ⟨y10, q11, h0⟩ := bind_elim h0
    refine AO.guardY rfl rfl rfl q9 (AOp.callD rfl rfl (ltb rfl) rfl rfl (w_NumParts_12 a0 y10 q11) ?_)
    rintro _ rfl
    refine AO.guardY rfl rfl rfl q9 (AOp.ieql rfl rfl (ltb rfl) rfl rfl ?_)
    refine AO.op rfl (AOp.pick rfl rfl (ltb rfl) rfl q9 rfl ?_)
    refine AO.op rfl (AOp.assign rfl rfl (ltb rfl) rfl ?_)
    refine AO.nil ?_
    change AC _ _ _ _
    refine AC.ret ?_
    change RetQ _ _ _ .ret _
    obtain rfl := Option.some.inj h0
    refine retq rfl rfl
  replace h0 := cF h0 q9
  refine AO.guardN rfl rfl rfl (ltb rfl) rfl q9 ?_
  refine AO.guardN rfl rfl rfl (ltb rfl) rfl q9 ?_
  refine AO.guardN rfl rfl rfl (ltb rfl) rfl q9 ?_
  refine AO.guardN rfl rfl rfl (ltb rfl) rfl q9 ?_
  refine AO.op rfl (AOp.pickN rfl rfl (ltb rfl) rfl q9 rfl ?_)
  refine AO.op rfl (AOp.assign rfl rfl (ltb rfl) rfl ?_)
  refine AO.nil ?_
  change AC _ _ _ _
  refine AC.ret ?_
  change RetQ _ _ _ .ret _
  obtain rfl := Option.some.inj h0
  refine retq rfl rfl

set_option maxRecDepth 100000 in
set_option maxHeartbeats 4000000 in
/-- (*pub-orthodrome/pub/gogeom.GeometryCollection).FlatCoords -/
theorem w_GeometryCollection_FlatCoords (a0 : TGeom_GeometryCollection) (r0 : (List Nat)) (h0 : p_GeometryCollection_FlatCoords a0 = some r0) : FnD Try.prog 102 [.pt (c_TGeom_GeometryCollection a0)] (fun r => r = eS1 r0) := by
  refine FnD.of (by kernel_rfl) Try.func102 rfl Try.ntmps102 rfl (leb rfl) fun W ok => ?_
  unfold p_GeometryCollection_FlatCoords at h0
  refine AC.seq ?_
  refine AC.region ?_
  refine AO.op rfl (AOp.assign rfl rfl (ltb rfl) rfl ?_)
  refine AO.nil ?_
  change AC _ _ _ _
  refine AC.region ?_
  cases h0

set_option maxRecDepth 100000 in
set_option maxHeartbeats 4000000 in
/-- pub-orthodrome/impl.FlatOf -/
theorem w_FlatOf_in (F : Nat) (a0 : TImpl_Geom) (r0 : ((List Nat) × Bool)) (h0 : p_FlatOf_in F a0 = some r0) : FnD Try.prog 8 [e_TImpl_Geom a0] (fun r => r = .tu [eS1 r0.1, dbool r0.2]) := by
  refine FnD.wrap (g := 20) (m := 2) (fun vs w h => idle20 vs w h) (by kernel_rfl) Try.func8 rfl Try.ntmps8 rfl (leb rfl) fun W ok => ?_
  unfold p_FlatOf_in at h0
  refine AW.seq ?_
  refine AC.region ?_
  refine AO.op rfl (AOp.box rfl rfl (ltb rfl) rfl rfl ?_)
  refine AO.op rfl (AOp.alloc rfl rfl (ltb rfl) zero22 rfl ?_)
  refine AO.op rfl (AOp.alloc rfl rfl (ltb rfl) zero4 rfl ?_)
  refine AO.nil ?_
  refine ⟨rfl, ?_⟩
  refine AW.defer (caps := [.tmp 2, .tmp 3]) rfl rfl rfl (ltb rfl) rfl rfl rfl rfl (by kernel_rfl) rfl fun df => ?_
  refine AC.seq ?_
  refine AC.region ?_
  refine AO.op rfl (AOp.loadN rfl rfl (ltb rfl) rfl agg27 size27 rfl (leb rfl) rfl ?_)
  obtain ⟨y1, q2, h0⟩ := bind_elim h0
  refine AO.op rfl (AOp.callD rfl rfl (ltb rfl) rfl rfl (w_geometry F a0 y1 q2) ?_)
  rintro _ rfl
  refine AO.dec (decide (y1.dt = 49)) (fun q3 => ?_) (fun q3 => ?_)
  · replace h0 := cT h0 q3
    obtain ⟨y4, q5, h0⟩ := bind_elim h0
    refine AO.sub 6 rfl (eIfc_le q3 q5) ?_
    refine AO.op rfl (AOp.inlE [2, 3] (EntersS.meth (by kernel_rfl) rfl rfl rfl meth49_FlatCoords rfl rfl) Try.func87 rfl Try.ntmps87 rfl (ltb rfl) (leb rfl) rfl ?_)
    intro fr6
    refine AC.seq ?_
    refine AC.region ?_
    refine AO.op rfl (AOp.assign rfl rfl (ltb rfl) rfl ?_)
    refine AO.nil ?_
    change AC _ _ _ _
    refine AC.seq ?_
    refine AC.region ?_
    refine AO.op rfl (AOp.move rfl rfl (ltb rfl) rfl ?_)
    refine AO.op rfl (AOp.nilCheck rfl rfl (ltb rfl) rfl rfl ?_)
    refine AO.op rfl (AOp.fieldAddrEp rfl rfl (ltb rfl) rfl fo91_2 ?_)
    refine AO.op rfl (AOp.loadEp rfl rfl (ltb rfl) rfl agg22 rfl ?_)
    refine AO.op rfl (AOp.assign rfl rfl (ltb rfl) rfl ?_)
    refine AO.nil ?_
    change AC _ _ _ _
    refine AC.ret ?_
    refine inlret (ob' := [.fix 27 [.d (di .i64 a0.Kind), .d (di .i64 a0.Layout), .d (di .i64 a0.SRID), .d (eS1 a0.Flat), .d (eS2 a0.Ends), .d (eS3 a0.Endss), .d (eS0 a0.Kids)], .fix 22 [.d (.v (.slice none 0 0))], .fix 4 [.d (dbool false)], .dead]) (e' := [(2, .ptr 1 0), (3, .ptr 2 0)]) (r := .d (eS1 y4.geom2.geom1.geom0.flatCoords)) rfl rfl rfl ?_
    change AO _ _ _ _ _
    obtain ⟨y7, q8, h0⟩ := bind_elim h0
    refine AO.op rfl (AOp.callD rfl rfl (ltb rfl) rfl rfl (w_floats y4.geom2.geom1.geom0.flatCoords y7 q8) ?_)
    rintro _ rfl
    refine AO.op rfl (AOp.store rfl rfl rfl rfl size22 rfl rfl rfl (leb rfl) ?_)
    refine AO.op rfl (AOp.store rfl rfl rfl rfl size4 rfl rfl rfl (leb rfl) ?_)
    refine AO.nil ?_
    change AC _ _ _ _
    refine AC.ret ?_
    change RetQ _ _ _ .ret _
    obtain rfl := Option.some.inj h0
    refine retq rfl rfl
  replace h0 := cF h0 q3
  refine AO.dec (decide (y1.dt = 51)) (fun q9 => ?_) (fun q9 => ?_)
  · replace h0 := cT h0 q9
    obtain ⟨y10, q11, h0⟩ := bind_elim h0
    refine AO.sub 6 rfl (eIfc_le q9 q11) ?_
    refine AO.op rfl (AOp.inlE [2, 3] (EntersS.meth (by kernel_rfl) rfl rfl rfl meth51_FlatCoords rfl rfl) Try.func87 rfl Try.ntmps87 rfl (ltb rfl) (leb rfl) rfl ?_)
    intro fr12
    refine AC.seq ?_
    refine AC.region ?_
    refine AO.op rfl (AOp.assign rfl rfl (ltb rfl) rfl ?_)
    refine AO.nil ?_
    change AC _ _ _ _
    refine AC.seq ?_
    refine AC.region ?_
    refine AO.op rfl (AOp.move rfl rfl (ltb rfl) rfl ?_)
    refine AO.op rfl (AOp.nilCheck rfl rfl (ltb rfl) rfl rfl ?_)
    refine AO.op rfl (AOp.fieldAddrEp rfl rfl (ltb rfl) rfl fo91_2 ?_)
    refine AO.op rfl (AOp.loadEp rfl rfl (ltb rfl) rfl agg22 rfl ?_)
    refine AO.op rfl (AOp.assign rfl rfl (ltb rfl) rfl ?_)
    refine AO.nil ?_
    change AC _ _ _ _
    refine AC.ret ?_
    refine inlret (ob' := [.fix 27 [.d (di .i64 a0.Kind), .d (di .i64 a0.Layout), .d (di .i64 a0.SRID), .d (eS1 a0.Flat), .d (eS2 a0.Ends), .d (eS3 a0.Endss), .d (eS0 a0.Kids)], .fix 22 [.d (.v (.slice none 0 0))], .fix 4 [.d (dbool false)], .dead]) (e' := [(2, .ptr 1 0), (3, .ptr 2 0)]) (r := .d (eS1 y10.geom2.geom1.geom0.flatCoords)) rfl rfl rfl ?_
    change AO _ _ _ _ _
    obtain ⟨y13, q14, h0⟩ := bind_elim h0
    refine AO.op rfl (AOp.callD rfl rfl (ltb rfl) rfl rfl (w_floats y10.geom2.geom1.geom0.flatCoords y13 q14) ?_)
    rintro _ rfl
    refine AO.op rfl (AOp.store rfl rfl rfl rfl size22 rfl rfl rfl (leb rfl) ?_)
    refine AO.op rfl (AOp.store rfl rfl rfl rfl size4 rfl rfl rfl (leb rfl) ?_)
    refine AO.nil ?_
    change AC _ _ _ _
    refine AC.ret ?_
    change RetQ _ _ _ .ret _
    obtain rfl := Option.some.inj h0
    refine retq rfl rfl
  replace h0 := cF h0 q9
  refine AO.dec (decide (y1.dt = 52)) (fun q15 => ?_) (fun q15 => ?_)
  · replace h0 := cT h0 q15
    obtain ⟨y16, q17, h0⟩ := bind_elim h0
    refine AO.sub 6 rfl (eIfc_le q15 q17) ?_
    refine AO.op rfl (AOp.inlE [2, 3] (EntersS.meth (by kernel_rfl) rfl rfl rfl meth52_FlatCoords rfl rfl) Try.func87 rfl Try.ntmps87 rfl (ltb rfl) (leb rfl) rfl ?_)
    intro fr18
    refine AC.seq ?_
    refine AC.region ?_
    refine AO.op rfl (AOp.assign rfl rfl (ltb rfl) rfl ?_)
    refine AO.nil ?_
    change AC _ _ _ _
    refine AC.seq ?_
    refine AC.region ?_
    refine AO.op rfl (AOp.move rfl rfl (ltb rfl) rfl ?_)
    refine AO.op rfl (AOp.nilCheck rfl rfl (ltb rfl) rfl rfl ?_)
    refine AO.op rfl (AOp.fieldAddrEp rfl rfl (ltb rfl) rfl fo91_2 ?_)
    refine AO.op rfl (AOp.loadEp rfl rfl (ltb rfl) rfl agg22 rfl ?_)
    refine AO.op rfl (AOp.assign rfl rfl (ltb rfl) rfl ?_)
    refine AO.nil ?_
    change AC _ _ _ _
    refine AC.ret ?_
    refine inlret (ob' := [.fix 27 [.d (di .i64 a0.Kind), .d (di .i64 a0.Layout), .d (di .i64 a0.SRID), .d (eS1 a0.Flat), .d (eS2 a0.Ends), .d (eS3 a0.Endss), .d (eS0 a0.Kids)], .fix 22 [.d (.v (.slice none 0 0))], .fix 4 [.d (dbool false)], .dead]) (e' := [(2, .ptr 1 0), (3, .ptr 2 0)]) (r := .d (eS1 y16.geom2.geom1.geom0.flatCoords)) rfl rfl rfl ?_
    change AO _ _ _ _ _
    obtain ⟨y19, q20, h0⟩ := bind_elim h0
    refine AO.op rfl (AOp.callD rfl rfl (ltb rfl) rfl rfl (w_floats y16.geom2.geom1.geom0.flatCoords y19 q20) ?_)
    rintro _ rfl
    refine AO.op rfl (AOp.store rfl rfl rfl rfl size22 rfl rfl rfl (leb rfl) ?_)
    refine AO.op rfl (AOp.store rfl rfl rfl rfl size4 rfl rfl rfl (leb rfl) ?_)
    refine AO.nil ?_
    change AC _ _ _ _
    refine AC.ret ?_
    change RetQ _ _ _ .ret _
    obtain rfl := Option.some.inj h0
    refine retq rfl rfl
  replace h0 := cF h0 q15
  refine AO.dec (decide (y1.dt = 53)) (fun q21 => ?_) (fun q21 => ?_)
  · replace h0 := cT h0 q21
    obtain ⟨y22, q23, h0⟩ := bind_elim h0
    refine AO.sub 6 rfl (eIfc_le q21 q23) ?_
    refine AO.op rfl (AOp.inlE [2, 3] (EntersS.meth (by kernel_rfl) rfl rfl rfl meth53_FlatCoords rfl rfl) Try.func87 rfl Try.ntmps87 rfl (ltb rfl) (leb rfl) rfl ?_)
    intro fr24
    refine AC.seq ?_
    refine AC.region ?_
    refine AO.op rfl (AOp.assign rfl rfl (ltb rfl) rfl ?_)
    refine AO.nil ?_
    change AC _ _ _ _
    refine AC.seq ?_
    refine AC.region ?_
    refine AO.op rfl (AOp.move rfl rfl (ltb rfl) rfl ?_)
    refine AO.op rfl (AOp.nilCheck rfl rfl (ltb rfl) rfl rfl ?_)
    refine AO.op rfl (AOp.fieldAddrEp rfl rfl (ltb rfl) rfl fo91_2 ?_)
    refine AO.op rfl (AOp.loadEp rfl rfl (ltb rfl) rfl agg22 rfl ?_)
    refine AO.op rfl (AOp.assign rfl rfl (ltb rfl) rfl ?_)
    refine AO.nil ?_
    change AC _ _ _ _
    refine AC.ret ?_
    refine inlret (ob' := [.fix 27 [.d (di .i64 a0.Kind), .d (di .i64 a0.Layout), .d (di .i64 a0.SRID), .d (eS1 a0.Flat), .d (eS2 a0.Ends), .d (eS3 a0.Endss), .d (eS0 a0.Kids)], .fix 22 [.d (.v (.slice none 0 0))], .fix 4 [.d (dbool false)], .dead]) (e' := [(2, .ptr 1 0), (3, .ptr 2 0)]) (r := .d (eS1 y22.geom3.geom1.geom0.flatCoords)) rfl rfl rfl ?_
    change AO _ _ _ _ _
    obtain ⟨y25, q26, h0⟩ := bind_elim h0
    refine AO.op rfl (AOp.callD rfl rfl (ltb rfl) rfl rfl (w_floats y22.geom3.geom1.geom0.flatCoords y25 q26) ?_)
    rintro _ rfl
    refine AO.op rfl (AOp.store rfl rfl rfl rfl size22 rfl rfl rfl (leb rfl) ?_)
    refine AO.op rfl (AOp.store rfl rfl rfl rfl size4 rfl rfl rfl (leb rfl) ?_)
    refine AO.nil ?_
    change AC _ _ _ _
    refine AC.ret ?_
    change RetQ _ _ _ .ret _
    obtain rfl := Option.some.inj h0
    refine retq rfl rfl
  replace h0 := cF h0 q21
  refine AO.dec (decide (y1.dt = 54)) (fun q27 => ?_) (fun q27 => ?_)
  · replace h0 := cT h0 q27
    obtain ⟨y28, q29, h0⟩ := bind_elim h0
    refine AO.sub 6 rfl (eIfc_le q27 q29) ?_
    obtain ⟨y30, q31, h0⟩ := bind_elim h0
    refine AO.op rfl (AOp.callE (EntersS.meth (by kernel_rfl) rfl rfl rfl meth54_FlatCoords rfl rfl) rfl (ltb rfl) rfl rfl (w_GeometryCollection_FlatCoords y28 y30 q31) ?_)
    rintro _ rfl
    obtain ⟨y32, q33, h0⟩ := bind_elim h0
    refine AO.op rfl (AOp.callD rfl rfl (ltb rfl) rfl rfl (w_floats y30 y32 q33) ?_)
    rintro _ rfl
    refine AO.op rfl (AOp.store rfl rfl rfl rfl size22 rfl rfl rfl (leb rfl) ?_)
    refine AO.op rfl (AOp.store rfl rfl rfl rfl size4 rfl rfl rfl (leb rfl) ?_)
    refine AO.nil ?_
    change AC _ _ _ _
    refine AC.ret ?_
    change RetQ _ _ _ .ret _
    obtain rfl := Option.some.inj h0
    refine retq rfl rfl
  replace h0 := cF h0 q27
  refine AO.dec (decide (y1.dt = 64)) (fun q34 => ?_) (fun q34 => ?_)
  · replace h0 := cT h0 q34
    obtain ⟨y35, q36, h0⟩ := bind_elim h0
    refine AO.sub 6 rfl (eIfc_le q34 q36) ?_
    refine AO.op rfl (AOp.inlE [2, 3] (EntersS.meth (by kernel_rfl) rfl rfl rfl meth64_FlatCoords rfl rfl) Try.func87 rfl Try.ntmps87 rfl (ltb rfl) (leb rfl) rfl ?_)
    intro fr37
    refine AC.seq ?_
    refine AC.region ?_
    refine AO.op rfl (AOp.assign rfl rfl (ltb rfl) rfl ?_)
    refine AO.nil ?_
    change AC _ _ _ _
    refine AC.seq ?_
    refine AC.region ?_
    refine AO.op rfl (AOp.move rfl rfl (ltb rfl) rfl ?_)
    refine AO.op rfl (AOp.nilCheck rfl rfl (ltb rfl) rfl rfl ?_)
    refine AO.op rfl (AOp.fieldAddrEp rfl rfl (ltb rfl) rfl fo91_2 ?_)
    refine AO.op rfl (AOp.loadEp rfl rfl (ltb rfl) rfl agg22 rfl ?_)
    refine AO.op rfl (AOp.assign rfl rfl (ltb rfl) rfl ?_)
    refine AO.nil ?_
    change AC _ _ _ _
    refine AC.ret ?_
    refine inlret (ob' := [.fix 27 [.d (di .i64 a0.Kind), .d (di .i64 a0.Layout), .d (di .i64 a0.SRID), .d (eS1 a0.Flat), .d (eS2 a0.Ends), .d (eS3 a0.Endss), .d (eS0 a0.Kids)], .fix 22 [.d (.v (.slice none 0 0))], .fix 4 [.d (dbool false)], .dead]) (e' := [(2, .ptr 1 0), (3, .ptr 2 0)]) (r := .d (eS1 y35.geom0.flatCoords)) rfl rfl rfl ?_
    change AO _ _ _ _ _
    obtain ⟨y38, q39, h0⟩ := bind_elim h0
    refine AO.op rfl (AOp.callD rfl rfl (ltb rfl) rfl rfl (w_floats y35.geom0.flatCoords y38 q39) ?_)
    rintro _ rfl
    refine AO.op rfl (AOp.store rfl rfl rfl rfl size22 rfl rfl rfl (leb rfl) ?_)
    refine AO.op rfl (AOp.store rfl rfl rfl rfl size4 rfl rfl rfl (leb rfl) ?_)
    refine AO.nil ?_
    change AC _ _ _ _
    refine AC.ret ?_
    change RetQ _ _ _ .ret _
    obtain rfl := Option.some.inj h0
    refine retq rfl rfl
  replace h0 := cF h0 q34
  refine AO.dec (decide (y1.dt = 67)) (fun q40 => ?_) (fun q40 => ?_)
  · replace h0 := cT h0 q40
    obtain ⟨y41, q42, h0⟩ := bind_elim h0
    refine AO.sub 6 rfl (eIfc_le q40 q42) ?_
    refine AO.op rfl (AOp.inlE [2, 3] (EntersS.meth (by kernel_rfl) rfl rfl rfl meth67_FlatCoords rfl rfl) Try.func87 rfl Try.ntmps87 rfl (ltb rfl) (leb rfl) rfl ?_)
    intro fr43
    refine AC.seq ?_
    refine AC.region ?_
    refine AO.op rfl (AOp.assign rfl rfl (ltb rfl) rfl ?_)
    refine AO.nil ?_
    change AC _ _ _ _
    refine AC.seq ?_
    refine AC.region ?_
    refine AO.op rfl (AOp.move rfl rfl (ltb rfl) rfl ?_)
    refine AO.op rfl (AOp.nilCheck rfl rfl (ltb rfl) rfl rfl ?_)
    refine AO.op rfl (AOp.fieldAddrEp rfl rfl (ltb rfl) rfl fo91_2 ?_)
    refine AO.op rfl (AOp.loadEp rfl rfl (ltb rfl) rfl agg22 rfl ?_)
    refine AO.op rfl (AOp.assign rfl rfl (ltb rfl) rfl ?_)
    refine AO.nil ?_
    change AC _ _ _ _
    refine AC.ret ?_
    refine inlret (ob' := [.fix 27 [.d (di .i64 a0.Kind), .d (di .i64 a0.Layout), .d (di .i64 a0.SRID), .d (eS1 a0.Flat), .d (eS2 a0.Ends), .d (eS3 a0.Endss), .d (eS0 a0.Kids)], .fix 22 [.d (.v (.slice none 0 0))], .fix 4 [.d (dbool false)], .dead]) (e' := [(2, .ptr 1 0), (3, .ptr 2 0)]) (r := .d (eS1 y41.geom1.geom0.flatCoords)) rfl rfl rfl ?_
    change AO _ _ _ _ _
    obtain ⟨y44, q45, h0⟩ := bind_elim h0
    refine AO.op rfl (AOp.callD rfl rfl (ltb rfl) rfl rfl (w_floats y41.geom1.geom0.flatCoords y44 q45) ?_)
    rintro _ rfl
    refine AO.op rfl (AOp.store rfl rfl rfl rfl size22 rfl rfl rfl (leb rfl) ?_)
    refine AO.op rfl (AOp.store rfl rfl rfl rfl size4 rfl rfl rfl (leb rfl) ?_)
    refine AO.nil ?_
    change AC _ _ _ _
    refine AC.ret ?_
    change RetQ _ _ _ .ret _
    obtain rfl := Option.some.inj h0
    refine retq rfl rfl
  replace h0 := cF h0 q40
  refine AO.dec (decide (y1.dt = 70)) (fun q46 => ?_) (fun q46 => ?_)
  · replace h0 := cT h0 q46
    obtain ⟨y47, q48, h0⟩ := bind_elim h0
    refine AO.sub 6 rfl (eIfc_le q46 q48) ?_
    refine AO.op rfl (AOp.inlE [2, 3] (EntersS.meth (by kernel_rfl) rfl rfl rfl meth70_FlatCoords rfl rfl) Try.func87 rfl Try.ntmps87 rfl (ltb rfl) (leb rfl) rfl ?_)
    intro fr49
    refine AC.seq ?_
    refine AC.region ?_
    refine AO.op rfl (AOp.assign rfl rfl (ltb rfl) rfl ?_)
    refine AO.nil ?_
    change AC _ _ _ _
    refine AC.seq ?_
    refine AC.region ?_
    refine AO.op rfl (AOp.move rfl rfl (ltb rfl) rfl ?_)
    refine AO.op rfl (AOp.nilCheck rfl rfl (ltb rfl) rfl rfl ?_)
    refine AO.op rfl (AOp.fieldAddrEp rfl rfl (ltb rfl) rfl fo91_2 ?_)
    refine AO.op rfl (AOp.loadEp rfl rfl (ltb rfl) rfl agg22 rfl ?_)
    refine AO.op rfl (AOp.assign rfl rfl (ltb rfl) rfl ?_)
    refine AO.nil ?_
    change AC _ _ _ _
    refine AC.ret ?_
    refine inlret (ob' := [.fix 27 [.d (di .i64 a0.Kind), .d (di .i64 a0.Layout), .d (di .i64 a0.SRID), .d (eS1 a0.Flat), .d (eS2 a0.Ends), .d (eS3 a0.Endss), .d (eS0 a0.Kids)], .fix 22 [.d (.v (.slice none 0 0))], .fix 4 [.d (dbool false)], .dead]) (e' := [(2, .ptr 1 0), (3, .ptr 2 0)]) (r := .d (eS1 y47.geom1.geom0.flatCoords)) rfl rfl rfl ?_
    change AO _ _ _ _ _
    obtain ⟨y50, q51, h0⟩ := bind_elim h0
    refine AO.op rfl (AOp.callD rfl rfl (ltb rfl) rfl rfl (w_floats y47.geom1.geom0.flatCoords y50 q51) ?_)
    rintro _ rfl
    refine AO.op rfl (AOp.store rfl rfl rfl rfl size22 rfl rfl rfl (leb rfl) ?_)
    refine AO.op rfl (AOp.store rfl rfl rfl rfl size4 rfl rfl rfl (leb rfl) ?_)
    refine AO.nil ?_
    change AC _ _ _ _
    refine AC.ret ?_
    change RetQ _ _ _ .ret _
    obtain rfl := Option.some.inj h0
    refine retq rfl rfl
  replace h0 := cF h0 q46
  cases h0

set_option maxRecDepth 100000 in
/-- (*pub-orthodrome/pub/gogeom.GeometryCollection).FlatCoords: it panics. -/
theorem wp_GeometryCollection_FlatCoords (a0 : TGeom_GeometryCollection) (h0 : pp_GeometryCollection_FlatCoords a0 = some ()) : FnP Try.prog 102 [.pt (c_TGeom_GeometryCollection a0)] := by
  refine FnP.of (by kernel_rfl) Try.func102 rfl Try.ntmps102 (leb rfl) fun W ok => ?_
  unfold pp_GeometryCollection_FlatCoords at h0
  refine AC.seq ?_
  refine AC.region ?_
  refine AO.op rfl (AOp.assign rfl rfl (ltb rfl) rfl ?_)
  refine AO.nil ?_
  change AC _ _ _ _
  refine AC.region ?_
  refine AO.op rfl (AOp.makeIfc rfl rfl (ltb rfl) rfl conc9 ?_)
  refine AO.op rfl (AOp.panic rfl rfl ?_)
  intro ch hch
  exact hch

set_option maxRecDepth 100000 in
/-- pub-orthodrome/impl.FlatOf: it panics, and recovers. -/
theorem wc_FlatOf (F : Nat) (a0 : TImpl_Geom) (h0 : pp_FlatOf F a0 = some ()) : FnD Try.prog 8 [e_TImpl_Geom a0] (fun r => r = .tu [eS1 [], dbool false]) := by
  refine FnD.catch (g := 20) (d0 := 2) (d1 := 3) (by kernel_rfl) Try.func8 rfl Try.ntmps8 rfl (leb rfl) (by kernel_rfl) Try.func20 rfl Try.ntmps20 rfl (ltb rfl) (ltb rfl) (fun a w => rfl) rfl rfl (fun a w t u h => run_neqNil rfl imeth20 h) rfl rfl fun W ok => ?_
  unfold pp_FlatOf at h0
  refine AWP.seq ?_
  refine AC.region ?_
  refine AO.op rfl (AOp.box rfl rfl (ltb rfl) rfl rfl ?_)
  refine AO.op rfl (AOp.alloc rfl rfl (ltb rfl) zero22 rfl ?_)
  refine AO.op rfl (AOp.alloc rfl rfl (ltb rfl) zero4 rfl ?_)
  refine AO.nil ?_
  refine ⟨rfl, ?_⟩
  refine AWP.defer (caps := [.tmp 2, .tmp 3]) rfl rfl rfl (ltb rfl) rfl rfl rfl rfl rfl (fun cv hcv => ?_) rfl
  refine AC.seq ?_
  refine AC.region ?_
  refine AO.op rfl (AOp.loadN rfl rfl (ltb rfl) rfl agg27 size27 rfl (leb rfl) rfl ?_)
  obtain ⟨y1, q2, h0⟩ := bind_elim h0
  refine AO.op rfl (AOp.callD rfl rfl (ltb rfl) rfl rfl (w_geometry F a0 y1 q2) ?_)
  rintro _ rfl
  refine AO.dec (decide (y1.dt = 49)) (fun q3 => ?_) (fun q3 => ?_)
  · replace h0 := cT h0 q3
    obtain ⟨y4, q5, h0⟩ := bind_elim h0
    refine AO.sub 6 rfl (eIfc_le q3 q5) ?_
    refine AO.op rfl (AOp.inlE [2, 3] (EntersS.meth (by kernel_rfl) rfl rfl rfl meth49_FlatCoords rfl rfl) Try.func87 rfl Try.ntmps87 rfl (ltb rfl) (leb rfl) rfl ?_)
    intro fr6
    refine AC.seq ?_
    refine AC.region ?_
    refine AO.op rfl (AOp.assign rfl rfl (ltb rfl) rfl ?_)
    refine AO.nil ?_
    change AC _ _ _ _
    refine AC.seq ?_
    refine AC.region ?_
    refine AO.op rfl (AOp.move rfl rfl (ltb rfl) rfl ?_)
    refine AO.op rfl (AOp.nilCheck rfl rfl (ltb rfl) rfl rfl ?_)
    refine AO.op rfl (AOp.fieldAddrEp rfl rfl (ltb rfl) rfl fo91_2 ?_)
    refine AO.op rfl (AOp.loadEp rfl rfl (ltb rfl) rfl agg22 rfl ?_)
    refine AO.op rfl (AOp.assign rfl rfl (ltb rfl) rfl ?_)
    refine AO.nil ?_
    change AC _ _ _ _
    refine AC.ret ?_
    refine inlret (ob' := [.fix 27 [.d (di .i64 a0.Kind), .d (di .i64 a0.Layout), .d (di .i64 a0.SRID), .d (eS1 a0.Flat), .d (eS2 a0.Ends), .d (eS3 a0.Endss), .d (eS0 a0.Kids)], .fix 22 [.d (.v (.slice none 0 0))], .fix 4 [.d (dbool false)], .frame cv [(0, .ptr 1 0), (1, .ptr 2 0)], .dead]) (e' := [(2, .ptr 1 0), (3, .ptr 2 0)]) (r := .d (eS1 y4.geom2.geom1.geom0.flatCoords)) rfl rfl rfl ?_
    change AO _ _ _ _ _
    obtain ⟨y7, q8, h0⟩ := bind_elim h0
    refine AO.op rfl (AOp.callD rfl rfl (ltb rfl) rfl rfl (w_floats y4.geom2.geom1.geom0.flatCoords y7 q8) ?_)
    rintro _ rfl
    refine AO.op rfl (AOp.store rfl rfl rfl rfl size22 rfl rfl rfl (leb rfl) ?_)
    refine AO.op rfl (AOp.store rfl rfl rfl rfl size4 rfl rfl rfl (leb rfl) ?_)
    refine AO.nil ?_
    change AC _ _ _ _
    cases h0
  replace h0 := cF h0 q3
  refine AO.dec (decide (y1.dt = 51)) (fun q9 => ?_) (fun q9 => ?_)
  · replace h0 := cT h0 q9
    obtain ⟨y10, q11, h0⟩ := bind_elim h0
    refine AO.sub 6 rfl (eIfc_le q9 q11) ?_
    refine AO.op rfl (AOp.inlE [2, 3] (EntersS.meth (by kernel_rfl) rfl rfl rfl meth51_FlatCoords rfl rfl) Try.func87 rfl Try.ntmps87 rfl (ltb rfl) (leb rfl) rfl ?_)
    intro fr12
    refine AC.seq ?_
    refine AC.region ?_
    refine AO.op rfl (AOp.assign rfl rfl (ltb rfl) rfl ?_)
    refine AO.nil ?_
    change AC _ _ _ _
    refine AC.seq ?_
    refine AC.region ?_
    refine AO.op rfl (AOp.move rfl rfl (ltb rfl) rfl ?_)
    refine AO.op rfl (AOp.nilCheck rfl rfl (ltb rfl) rfl rfl ?_)
    refine AO.op rfl (AOp.fieldAddrEp rfl rfl (ltb rfl) rfl fo91_2 ?_)
    refine AO.op rfl (AOp.loadEp rfl rfl (ltb rfl) rfl agg22 rfl ?_)
    refine AO.op rfl (AOp.assign rfl rfl (ltb rfl) rfl ?_)
    refine AO.nil ?_
    change AC _ _ _ _
    refine AC.ret ?_
    refine inlret (ob' := [.fix 27 [.d (di .i64 a0.Kind), .d (di .i64 a0.Layout), .d (di .i64 a0.SRID), .d (eS1 a0.Flat), .d (eS2 a0.Ends), .d (eS3 a0.Endss), .d (eS0 a0.Kids)], .fix 22 [.d (.v (.slice none 0 0))], .fix 4 [.d (dbool false)], .frame cv [(0, .ptr 1 0), (1, .ptr 2 0)], .dead]) (e' := [(2, .ptr 1 0), (3, .ptr 2 0)]) (r := .d (eS1 y10.geom2.geom1.geom0.flatCoords)) rfl rfl rfl ?_
    change AO _ _ _ _ _
    obtain ⟨y13, q14, h0⟩ := bind_elim h0
    refine AO.op rfl (AOp.callD rfl rfl (ltb rfl) rfl rfl (w_floats y10.geom2.geom1.geom0.flatCoords y13 q14) ?_)
    rintro _ rfl
    refine AO.op rfl (AOp.store rfl rfl rfl rfl size22 rfl rfl rfl (leb rfl) ?_)
    refine AO.op rfl (AOp.store rfl rfl rfl rfl size4 rfl rfl rfl (leb rfl) ?_)
    refine AO.nil ?_
    change AC _ _ _ _
    cases h0
  replace h0 := cF h0 q9
  refine AO.dec (decide (y1.dt = 52)) (fun q15 => ?_) (fun q15 => ?_)
  · replace h0 := cT h0 q15
    obtain ⟨y16, q17, h0⟩ := bind_elim h0
    refine AO.sub 6 rfl (eIfc_le q15 q17) ?_
    refine AO.op rfl (AOp.inlE [2, 3] (EntersS.meth (by kernel_rfl) rfl rfl rfl meth52_FlatCoords rfl rfl) Try.func87 rfl Try.ntmps87 rfl (ltb rfl) (leb rfl) rfl ?_)
    intro fr18
    refine AC.seq ?_
    refine AC.region ?_
    refine AO.op rfl (AOp.assign rfl rfl (ltb rfl) rfl ?_)
    refine AO.nil ?_
    change AC _ _ _ _
    refine AC.seq ?_
    refine AC.region ?_
    refine AO.op rfl (AOp.move rfl rfl (ltb rfl) rfl ?_)
    refine AO.op rfl (AOp.nilCheck rfl rfl (ltb rfl) rfl rfl ?_)
    refine AO.op rfl (AOp.fieldAddrEp rfl rfl (ltb rfl) rfl fo91_2 ?_)
    refine AO.op rfl (AOp.loadEp rfl rfl (ltb rfl) rfl agg22 rfl ?_)
    refine AO.op rfl (AOp.assign rfl rfl (ltb rfl) rfl ?_)
    refine AO.nil ?_
    change AC _ _ _ _
    refine AC.ret ?_
    refine inlret (ob' := [.fix 27 [.d (di .i64 a0.Kind), .d (di .i64 a0.Layout), .d (di .i64 a0.SRID), .d (eS1 a0.Flat), .d (eS2 a0.Ends), .d (eS3 a0.Endss), .d (eS0 a0.Kids)], .fix 22 [.d (.v (.slice none 0 0))], .fix 4 [.d (dbool false)], .frame cv [(0, .ptr 1 0), (1, .ptr 2 0)], .dead]) (e' := [(2, .ptr 1 0), (3, .ptr 2 0)]) (r := .d (eS1 y16.geom2.geom1.geom0.flatCoords)) rfl rfl rfl ?_
    change AO _ _ _ _ _
    obtain ⟨y19, q20, h0⟩ := bind_elim h0
    refine AO.op rfl (AOp.callD rfl rfl (ltb rfl) rfl rfl (w_floats y16.geom2.geom1.geom0.flatCoords y19 q20) ?_)
    rintro _ rfl
    refine AO.op rfl (AOp.store rfl rfl rfl rfl size22 rfl rfl rfl (leb rfl) ?_)
    refine AO.op rfl (AOp.store rfl rfl rfl rfl size4 rfl rfl rfl (leb rfl) ?_)
    refine AO.nil ?_
    change AC _ _ _ _
    cases h0
  replace h0 := cF h0 q15
  refine AO.dec (decide (y1.dt = 53)) (fun q21 => ?_) (fun q21 => ?_)
  · replace h0 := cT h0 q21
    obtain ⟨y22, q23, h0⟩ := bind_elim h0
    refine AO.sub 6 rfl (eIfc_le q21 q23) ?_
    refine AO.op rfl (AOp.inlE [2, 3] (EntersS.meth (by kernel_rfl) rfl rfl rfl meth53_FlatCoords rfl rfl) Try.func87 rfl Try.ntmps87 rfl (ltb rfl) (leb rfl) rfl ?_)
    intro fr24
    refine AC.seq ?_
    refine AC.region ?_
    refine AO.op rfl (AOp.assign rfl rfl (ltb rfl) rfl ?_)
    refine AO.nil ?_
    change AC _ _ _ _
    refine AC.seq ?_
    refine AC.region ?_
    refine AO.op rfl (AOp.move rfl rfl (ltb rfl) rfl ?_)
    refine AO.op rfl (AOp.nilCheck rfl rfl (ltb rfl) rfl rfl ?_)
    refine AO.op rfl (AOp.fieldAddrEp rfl rfl (ltb rfl) rfl fo91_2 ?_)
    refine AO.op rfl (AOp.loadEp rfl rfl (ltb rfl) rfl agg22 rfl ?_)
    refine AO.op rfl (AOp.assign rfl rfl (ltb rfl) rfl ?_)
    refine AO.nil ?_
    change AC _ _ _ _
    refine AC.ret ?_
    refine inlret (ob' := [.fix 27 [.d (di .i64 a0.Kind), .d (di .i64 a0.Layout), .d (di .i64 a0.SRID), .d (eS1 a0.Flat), .d (eS2 a0.Ends), .d (eS3 a0.Endss), .d (eS0 a0.Kids)], .fix 22 [.d (.v (.slice none 0 0))], .fix 4 [.d (dbool false)], .frame cv [(0, .ptr 1 0), (1, .ptr 2 0)], .dead]) (e' := [(2, .ptr 1 0), (3, .ptr 2 0)]) (r := .d (eS1 y22.geom3.geom1.geom0.flatCoords)) rfl rfl rfl ?_
    change AO _ _ _ _ _
    obtain ⟨y25, q26, h0⟩ := bind_elim h0
    refine AO.op rfl (AOp.callD rfl rfl (ltb rfl) rfl rfl (w_floats y22.geom3.geom1.geom0.flatCoords y25 q26) ?_)
    rintro _ rfl
    refine AO.op rfl (AOp.store rfl rfl rfl rfl size22 rfl rfl rfl (leb rfl) ?_)
    refine AO.op rfl (AOp.store rfl rfl rfl rfl size4 rfl rfl rfl (leb rfl) ?_)
    refine AO.nil ?_
    change AC _ _ _ _
    cases h0
  replace h0 := cF h0 q21
  refine AO.dec (decide (y1.dt = 54)) (fun q27 => ?_) (fun q27 => ?_)
  · replace h0 := cT h0 q27
    obtain ⟨y28, q29, h0⟩ := bind_elim h0
    refine AO.sub 6 rfl (eIfc_le q27 q29) ?_
    refine AO.op rfl (AOp.callPE (EntersS.meth (by kernel_rfl) rfl rfl rfl meth54_FlatCoords rfl rfl) rfl rfl (wp_GeometryCollection_FlatCoords y28 h0) ?_)
    intro ch hch
    refine ⟨hch, 3, _, rfl, ⟨hcv, leb rfl⟩, fun tm => ?_⟩
    refine AC.condT rfl rfl ?_
    refine AC.region ?_
    refine AO.op rfl (AOp.store rfl rfl rfl rfl size22 rfl rfl rfl (leb rfl) ?_)
    refine AO.subO 1 rfl (.cons (SVLe.nil 1) .nil) ?_
    refine AO.op rfl (AOp.store rfl rfl rfl rfl size4 rfl rfl rfl (leb rfl) ?_)
    refine AO.nil ?_
    exact ⟨_, _, rfl, rfl, rfl⟩
  replace h0 := cF h0 q27
  refine AO.dec (decide (y1.dt = 64)) (fun q30 => ?_) (fun q30 => ?_)
  · replace h0 := cT h0 q30
    obtain ⟨y31, q32, h0⟩ := bind_elim h0
    refine AO.sub 6 rfl (eIfc_le q30 q32) ?_
    refine AO.op rfl (AOp.inlE [2, 3] (EntersS.meth (by kernel_rfl) rfl rfl rfl meth64_FlatCoords rfl rfl) Try.func87 rfl Try.ntmps87 rfl (ltb rfl) (leb rfl) rfl ?_)
    intro fr33
    refine AC.seq ?_
    refine AC.region ?_
    refine AO.op rfl (AOp.assign rfl rfl (ltb rfl) rfl ?_)
    refine AO.nil ?_
    change AC _ _ _ _
    refine AC.seq ?_
    refine AC.region ?_
    refine AO.op rfl (AOp.move rfl rfl (ltb rfl) rfl ?_)
    refine AO.op rfl (AOp.nilCheck rfl rfl (ltb rfl) rfl rfl ?_)
    refine AO.op rfl (AOp.fieldAddrEp rfl rfl (ltb rfl) rfl fo91_2 ?_)
    refine AO.op rfl (AOp.loadEp rfl rfl (ltb rfl) rfl agg22 rfl ?_)
    refine AO.op rfl (AOp.assign rfl rfl (ltb rfl) rfl ?_)
    refine AO.nil ?_
    change AC _ _ _ _
    refine AC.ret ?_
    refine inlret (ob' := [.fix 27 [.d (di .i64 a0.Kind), .d (di .i64 a0.Layout), .d (di .i64 a0.SRID), .d (eS1 a0.Flat), .d (eS2 a0.Ends), .d (eS3 a0.Endss), .d (eS0 a0.Kids)], .fix 22 [.d (.v (.slice none 0 0))], .fix 4 [.d (dbool false)], .frame cv [(0, .ptr 1 0), (1, .ptr 2 0)], .dead]) (e' := [(2, .ptr 1 0), (3, .ptr 2 0)]) (r := .d (eS1 y31.geom0.flatCoords)) rfl rfl rfl ?_
    change AO _ _ _ _ _
    obtain ⟨y34, q35, h0⟩ := bind_elim h0
    refine AO.op rfl (AOp.callD rfl rfl (ltb rfl) rfl rfl (w_floats y31.geom0.flatCoords y34 q35) ?_)
    rintro _ rfl
    refine AO.op rfl (AOp.store rfl rfl rfl rfl size22 rfl rfl rfl (leb rfl) ?_)
    refine AO.op rfl (AOp.store rfl rfl rfl rfl size4 rfl rfl rfl (leb rfl) ?_)
    refine AO.nil ?_
    change AC _ _ _ _
    cases h0
  replace h0 := cF h0 q30
  refine AO.dec (decide (y1.dt = 67)) (fun q36 => ?_) (fun q36 => ?_)
  · replace h0 := cT h0 q36
    obtain ⟨y37, q38, h0⟩ := bind_elim h0
    refine AO.sub 6 rfl (eIfc_le q36 q38) ?_
    refine AO.op rfl (AOp.inlE [2, 3] (EntersS.meth (by kernel_rfl) rfl rfl rfl meth67_FlatCoords rfl rfl) Try.func87 rfl Try.ntmps87 rfl (ltb rfl) (leb rfl) rfl ?_)
    intro fr39
    refine AC.seq ?_
    refine AC.region ?_
    refine AO.op rfl (AOp.assign rfl rfl (ltb rfl) rfl ?_)
    refine AO.nil ?_
    change AC _ _ _ _
    refine AC.seq ?_
    refine AC.region ?_
    refine AO.op rfl (AOp.move rfl rfl (ltb rfl) rfl ?_)
    refine AO.op rfl (AOp.nilCheck rfl rfl (ltb rfl) rfl rfl ?_)
    refine AO.op rfl (AOp.fieldAddrEp rfl rfl (ltb rfl) rfl fo91_2 ?_)
    refine AO.op rfl (AOp.loadEp rfl rfl (ltb rfl) rfl agg22 rfl ?_)
    refine AO.op rfl (AOp.assign rfl rfl (ltb rfl) rfl ?_)
    refine AO.nil ?_
    change AC _ _ _ _
    refine AC.ret ?_
    refine inlret (ob' := [.fix 27 [.d (di .i64 a0.Kind), .d (di .i64 a0.Layout), .d (di .i64 a0.SRID), .d (eS1 a0.Flat), .d (eS2 a0.Ends), .d (eS3 a0.Endss), .d (eS0 a0.Kids)], .fix 22 [.d (.v (.slice none 0 0))], .fix 4 [.d (dbool false)], .frame cv [(0, .ptr 1 0), (1, .ptr 2 0)], .dead]) (e' := [(2, .ptr 1 0), (3, .ptr 2 0)]) (r := .d (eS1 y37.geom1.geom0.flatCoords)) rfl rfl rfl ?_
    change AO _ _ _ _ _
    obtain ⟨y40, q41, h0⟩ := bind_elim h0
    refine AO.op rfl (AOp.callD rfl rfl (ltb rfl) rfl rfl (w_floats y37.geom1.geom0.flatCoords y40 q41) ?_)
    rintro _ rfl
    refine AO.op rfl (AOp.store rfl rfl rfl rfl size22 rfl rfl rfl (leb rfl) ?_)
    refine AO.op rfl (AOp.store rfl rfl rfl rfl size4 rfl rfl rfl (leb rfl) ?_)
    refine AO.nil ?_
    change AC _ _ _ _
    cases h0
  replace h0 := cF h0 q36
  refine AO.dec (decide (y1.dt = 70)) (fun q42 => ?_) (fun q42 => ?_)
  · replace h0 := cT h0 q42
    obtain ⟨y43, q44, h0⟩ := bind_elim h0
    refine AO.sub 6 rfl (eIfc_le q42 q44) ?_
    refine AO.op rfl (AOp.inlE [2, 3] (EntersS.meth (by kernel_rfl) rfl rfl rfl meth70_FlatCoords rfl rfl) Try.func87 rfl Try.ntmps87 rfl (ltb rfl) (leb rfl) rfl ?_)
    intro fr45
    refine AC.seq ?_
    refine AC.region ?_
    refine AO.op rfl (AOp.assign rfl rfl (ltb rfl) rfl ?_)
    refine AO.nil ?_
    change AC _ _ _ _
    refine AC.seq ?_
    refine AC.region ?_
    refine AO.op rfl (AOp.move rfl rfl (ltb rfl) rfl ?_)
    refine AO.op rfl (AOp.nilCheck rfl rfl (ltb rfl) rfl rfl ?_)
    refine AO.op rfl (AOp.fieldAddrEp rfl rfl (ltb rfl) rfl fo91_2 ?_)
    refine AO.op rfl (AOp.loadEp rfl rfl (ltb rfl) rfl agg22 rfl ?_)
    refine AO.op rfl (AOp.assign rfl rfl (ltb rfl) rfl ?_)
    refine AO.nil ?_
    change AC _ _ _ _
    refine AC.ret ?_
    refine inlret (ob' := [.fix 27 [.d (di .i64 a0.Kind), .d (di .i64 a0.Layout), .d (di .i64 a0.SRID), .d (eS1 a0.Flat), .d (eS2 a0.Ends), .d (eS3 a0.Endss), .d (eS0 a0.Kids)], .fix 22 [.d (.v (.slice none 0 0))], .fix 4 [.d (dbool false)], .frame cv [(0, .ptr 1 0), (1, .ptr 2 0)], .dead]) (e' := [(2, .ptr 1 0), (3, .ptr 2 0)]) (r := .d (eS1 y43.geom1.geom0.flatCoords)) rfl rfl rfl ?_
    change AO _ _ _ _ _
    obtain ⟨y46, q47, h0⟩ := bind_elim h0
    refine AO.op rfl (AOp.callD rfl rfl (ltb rfl) rfl rfl (w_floats y43.geom1.geom0.flatCoords y46 q47) ?_)
    rintro _ rfl
    refine AO.op rfl (AOp.store rfl rfl rfl rfl size22 rfl rfl rfl (leb rfl) ?_)
    refine AO.op rfl (AOp.store rfl rfl rfl rfl size4 rfl rfl rfl (leb rfl) ?_)
    refine AO.nil ?_
    change AC _ _ _ _
    cases h0
  replace h0 := cF h0 q42
  cases h0
/-- pub-orthodrome/impl.FlatOf -/
theorem w_FlatOf (F : Nat) (a0 : TImpl_Geom) (r0 : ((List Nat) × Bool)) (h0 : p_FlatOf F a0 = some r0) : FnD Try.prog 8 [e_TImpl_Geom a0] (fun r => r = .tu [eS1 r0.1, dbool r0.2]) := by
  unfold p_FlatOf at h0
  cases hp : (pp_FlatOf F a0).isSome with
  | false => exact w_FlatOf_in F a0 r0 (cF h0 hp)
  | true =>
    have h1 := cT h0 hp
    obtain rfl := Option.some.inj h1
    refine wc_FlatOf F a0 ?_
    cases hq : pp_FlatOf F a0 with
    | none => rw [hq] at hp; cases hp
    | some x => rfl

theorem callBits (x : Nat) (w : World) : (callFunc 23 #[.float .f64 x]).run Try.prog w = .ok (.value (.int .u64 x)) w := by
  rw [run_callFunc_extern Try.func23 (by kernel_rfl) (by kernel_rfl) (by kernel_rfl) (e := Extern.MathFloatBits.float64bits) (by kernel_rfl), run_f64bits Try.prog x]
  rfl

set_option maxRecDepth 100000 in
set_option maxHeartbeats 4000000 in
/-- pub-orthodrome/spec.SameFloats -/
theorem w_SameFloats (F : Nat) (a0 : (List Nat)) (a1 : (List Nat)) (r0 : Bool) (h0 : p_SameFloats F a0 a1 = some r0) : FnD Try.prog 9 [eS1 a0, eS1 a1] (fun r => r = dbool r0) := by
  refine FnD.of (by kernel_rfl) Try.func9 rfl Try.ntmps9 rfl (leb rfl) fun W ok => ?_
  unfold p_SameFloats at h0
  refine AC.seq ?_
  refine AC.region ?_
  refine AO.op rfl (AOp.assign rfl rfl (ltb rfl) rfl ?_)
  refine AO.nil ?_
  change AC _ _ _ _
  refine AC.seq ?_
  refine AC.seq ?_
  refine AC.region ?_
  refine AO.op rfl (AOp.move rfl rfl (ltb rfl) rfl ?_)
  refine AO.op rfl (AOp.lenDs (n := a0.length) (cells := (List.map keS1 a0)) rfl rfl (ltb rfl) rfl el22 (by decide) (len1 _ _) ?_)
  refine AO.op rfl (AOp.move rfl rfl (ltb rfl) rfl ?_)
  refine AO.op rfl (AOp.lenDs (n := a1.length) (cells := (List.map keS1 a1)) rfl rfl (ltb rfl) rfl el22 (by decide) (len1 _ _) ?_)
  refine AO.op rfl (AOp.ineq rfl rfl (ltb rfl) rfl rfl ?_)
  refine AO.nil ?_
  change AC _ _ _ _
  refine AC.cond rfl (fun q1 => ?_) (fun q1 => ?_)
  · replace h0 := cT h0 q1
    refine AC.seq ?_
    refine AC.region ?_
    refine AO.op rfl (AOp.assign rfl rfl (ltb rfl) rfl ?_)
    refine AO.nil ?_
    change AC _ _ _ _
    refine AC.ret ?_
    change RetQ _ _ _ .ret _
    obtain rfl := Option.some.inj h0
    refine retq rfl rfl
  replace h0 := cF h0 q1
  refine AC.skip ?_
  change AC _ _ _ _
  refine AC.seq ?_
  refine AC.seq ?_
  refine AC.region ?_
  refine AO.op rfl (AOp.move rfl rfl (ltb rfl) rfl ?_)
  refine AO.op rfl (AOp.lenDs (n := a0.length) (cells := (List.map keS1 a0)) rfl rfl (ltb rfl) rfl el22 (by decide) (len1 _ _) ?_)
  refine AO.op rfl (AOp.move rfl rfl (ltb rfl) rfl ?_)
  refine AO.nil ?_
  change AC _ _ _ _
  obtain ⟨o2, l3, h0⟩ := bind_elim h0
  refine AC.joinE (V := Unit) [] [] 0 (fun g4 => []) (fun g4 => []) (fun g4 => p_SameFloats_k1 g4 = some r0) rfl ?_ ?_
  · refine AC.block ?_
    refine AC.loopP (V := Int) (p_SameFloats_l2 a0 a1) o2 [1, 12, 13] [14] 0 (fun g5 => [(14, .d (di .i64 g5))]) (fun g5 => []) F (0 : Int) l3 rfl rfl (LeL.refl _) rfl rfl ?_
    intro n7 g5 h1
    unfold p_SameFloats_l2 at h1
    refine AC.seq ?_
    refine AC.region ?_
    refine AO.op rfl (AOp.ilss rfl rfl (ltb rfl) rfl rfl ?_)
    refine AO.nil ?_
    change AC _ _ _ _
    refine AC.seq ?_
    refine AC.cond rfl (fun q8 => ?_) (fun q8 => ?_)
    · replace h1 := cT h1 q8
      refine AC.skip ?_
      change AC _ _ _ _
      refine AC.seq ?_
      refine AC.block ?_
      refine AC.seq ?_
      refine AC.region ?_
      refine AO.op rfl (AOp.move rfl rfl (ltb rfl) rfl ?_)
      obtain ⟨x9, q10, h1⟩ := idx_elim h1
      refine AO.op rfl (AOp.indexDs (cells := (List.map keS1 a0)) rfl rfl (ltb rfl) rfl rfl el22 (by decide) q10.1 (lt1 q10.2) ?_)
      refine AO.op rfl (AOp.loadEp rfl rfl (ltb rfl) rfl agg32 (at1 q10.2) ?_)
      refine AO.op rfl (AOp.assign rfl rfl (ltb rfl) rfl ?_)
      refine AO.op rfl (AOp.assign rfl rfl (ltb rfl) rfl ?_)
      refine AO.nil ?_
      change AC _ _ _ _
      refine AC.seq ?_
      refine AC.draw 8 mixed (by kernel_rfl) ?_
      refine AD.op [6] rfl (by kernel_rfl) rfl rfl (fun _ _ h => AOp.move rfl rfl (ltb rfl) rfl h) ?_
      refine AD.op [19] rfl (by kernel_rfl) rfl rfl (fun _ _ h => AOp.callX [.float .f64 x9] rfl rfl (ltb rfl) rfl (callBits x9) h) ?_
      refine AD.op [1] rfl (by kernel_rfl) rfl rfl (fun _ _ h => AOp.move rfl rfl (ltb rfl) rfl h) ?_
      refine AD.op [5] rfl (by kernel_rfl) rfl rfl (fun _ _ h => AOp.move rfl rfl (ltb rfl) rfl h) ?_
      obtain ⟨x11, q12, h1⟩ := idx_elim h1
      refine AD.op [21, 22] rfl (by kernel_rfl) rfl rfl (fun _ _ h => AOp.indexDs (cells := (List.map keS1 a1)) rfl rfl (ltb rfl) rfl rfl el22 (by decide) q12.1 (lt1 q12.2) h) ?_
      refine AD.op [23] rfl (by kernel_rfl) rfl rfl (fun _ _ h => AOp.loadEp rfl rfl (ltb rfl) rfl agg32 (at1 q12.2) h) ?_
      refine AD.op [24] rfl (by kernel_rfl) rfl rfl (fun _ _ h => AOp.callX [.float .f64 x11] rfl rfl (ltb rfl) rfl (callBits x11) h) ?_
      refine AD.op [20, 25] rfl (by kernel_rfl) rfl rfl (fun _ _ h => AOp.ineq rfl rfl (ltb rfl) rfl rfl h) ?_
      refine AD.done ?_
      refine AO.nil ?_
      change AC _ _ _ _
      refine AC.cond rfl (fun q13 => ?_) (fun q13 => ?_)
      · replace h1 := cT h1 q13
        refine AC.seq ?_
        refine AC.region ?_
        refine AO.op rfl (AOp.assign rfl rfl (ltb rfl) rfl ?_)
        refine AO.nil ?_
        change AC _ _ _ _
        refine AC.ret ?_
        change RetQ _ _ _ .ret _
        obtain rfl := Option.some.inj h1
        replace h0 := aftR h0
        obtain rfl := Option.some.inj h0
        refine retq rfl rfl
      replace h1 := cF h1 q13
      refine AC.skip ?_
      change AC _ _ _ _
      refine AC.region ?_
      obtain ⟨q14, h1⟩ := need_elim h1
      refine AO.op rfl (AOp.iadd rfl rfl (ltb rfl) rfl rfl rfl q14.1 q14.2 ?_)
      refine AO.op rfl (AOp.move rfl rfl (ltb rfl) rfl ?_)
      refine AO.nil ?_
      exact ⟨(g5 + (1 : Int)), _, rfl, (LeL.refl _), rfl, rfl, h1⟩
    replace h1 := cF h1 q8
    refine AC.exit ?_
    obtain rfl := Option.some.inj h1
    exact ⟨(), _, rfl, (LeL.refl _), rfl, rfl, aftL h0⟩
  intro g4 h0
  unfold p_SameFloats_k1 at h0
  change AC _ _ _ _
  refine AC.seq ?_
  refine AC.region ?_
  refine AO.op rfl (AOp.assign rfl rfl (ltb rfl) rfl ?_)
  refine AO.nil ?_
  change AC _ _ _ _
  refine AC.ret ?_
  change RetQ _ _ _ .ret _
  obtain rfl := Option.some.inj h0
  refine retq rfl rfl

set_option maxRecDepth 100000 in
set_option maxHeartbeats 4000000 in
/-- pub-orthodrome/laws.FnFlatOf -/
theorem w_FnFlatOf (F : Nat) (a0 : TImpl_Geom) (r0 : Bool) (h0 : p_FnFlatOf F a0 = some r0) : FnD Try.prog 3 [e_TImpl_Geom a0] (fun r => r = dbool r0) := by
  refine FnD.of (by kernel_rfl) Try.func3 rfl Try.ntmps3 rfl (leb rfl) fun W ok => ?_
  unfold p_FnFlatOf at h0
  refine AC.seq ?_
  refine AC.region ?_
  refine AO.op rfl (AOp.box rfl rfl (ltb rfl) rfl rfl ?_)
  refine AO.op rfl (AOp.assign rfl rfl (ltb rfl) rfl ?_)
  refine AO.nil ?_
  change AC _ _ _ _
  refine AC.seq ?_
  refine AC.seq ?_
  refine AC.region ?_
  refine AO.op rfl (AOp.loadN rfl rfl (ltb rfl) rfl agg27 size27 rfl (leb rfl) rfl ?_)
  obtain ⟨y1, q2, h0⟩ := bind_elim h0
  refine AO.op rfl (AOp.callD rfl rfl (ltb rfl) rfl rfl (w_zzFits2 F a0 y1 q2) ?_)
  rintro _ rfl
  refine AO.op rfl (AOp.bnot rfl rfl (ltb rfl) rfl ?_)
  refine AO.nil ?_
  change AC _ _ _ _
  refine AC.cond rfl (fun q3 => ?_) (fun q3 => ?_)
  · replace h0 := cT h0 q3
    refine AC.seq ?_
    refine AC.region ?_
    refine AO.op rfl (AOp.assign rfl rfl (ltb rfl) rfl ?_)
    refine AO.nil ?_
    change AC _ _ _ _
    refine AC.ret ?_
    change RetQ _ _ _ .ret _
    obtain rfl := Option.some.inj h0
    refine retq rfl rfl
  replace h0 := cF h0 q3
  refine AC.skip ?_
  change AC _ _ _ _
  refine AC.seq ?_
  refine AC.seq ?_
  refine AC.region ?_
  refine AO.op rfl (AOp.loadN rfl rfl (ltb rfl) rfl agg27 size27 rfl (leb rfl) rfl ?_)
  refine AO.op rfl (AOp.buildSliceD rfl rfl (ltb rfl) el25 zero27 rfl (leb rfl) rfl rfl rfl rfl (AO.top (y := .d (eS0 [a0])) (SVLe.of_eq (by simp only [eS0, List.flatMap_cons, List.flatMap_nil, c0_TImpl_Geom_eq, List.append_nil] <;> rfl)) ?_))
  obtain ⟨y4, q5, h0⟩ := bind_elim h0
  refine AO.op rfl (AOp.callD rfl rfl (ltb rfl) rfl rfl (w_gGood F [a0] y4 q5) ?_)
  rintro _ rfl
  refine AO.op rfl (AOp.bnot rfl rfl (ltb rfl) rfl ?_)
  refine AO.nil ?_
  change AC _ _ _ _
  refine AC.cond rfl (fun q6 => ?_) (fun q6 => ?_)
  · replace h0 := cT h0 q6
    refine AC.seq ?_
    refine AC.region ?_
    refine AO.op rfl (AOp.assign rfl rfl (ltb rfl) rfl ?_)
    refine AO.nil ?_
    change AC _ _ _ _
    refine AC.ret ?_
    change RetQ _ _ _ .ret _
    obtain rfl := Option.some.inj h0
    refine retq rfl rfl
  replace h0 := cF h0 q6
  refine AC.skip ?_
  change AC _ _ _ _
  refine AC.seq ?_
  refine AC.region ?_
  refine AO.op rfl (AOp.loadN rfl rfl (ltb rfl) rfl agg27 size27 rfl (leb rfl) rfl ?_)
  obtain ⟨y7, q8, h0⟩ := bind_elim h0
  refine AO.op rfl (AOp.callD rfl rfl (ltb rfl) rfl rfl (w_FlatOf F a0 y7 q8) ?_)
  rintro _ rfl
  refine AO.op rfl (AOp.move rfl rfl (ltb rfl) rfl ?_)
  first | refine AO.op rfl (AOp.extractD rfl rfl (ltb rfl) rfl rfl ?_) | refine AO.op rfl (AOp.extract rfl rfl (ltb rfl) rfl rfl ?_)
  first | refine AO.op rfl (AOp.extractD rfl rfl (ltb rfl) rfl rfl ?_) | refine AO.op rfl (AOp.extract rfl rfl (ltb rfl) rfl rfl ?_)
  refine AO.op rfl (AOp.assign rfl rfl (ltb rfl) rfl ?_)
  refine AO.op rfl (AOp.assign rfl rfl (ltb rfl) rfl ?_)
  refine AO.nil ?_
  change AC _ _ _ _
  refine AC.seq ?_
  refine AC.region ?_
  refine AO.op rfl (AOp.buildSliceD rfl rfl (ltb rfl) el22 zero32 rfl (leb rfl) rfl rfl rfl rfl ?_)
  refine AO.op rfl (AOp.build rfl rfl (ltb rfl) zero27 rfl places27 rfl rfl ?_)
  refine AO.sub 21 rfl (SVLe.ag (.cons (SVLe.refl _) (.cons (SVLe.refl _) (.cons (SVLe.refl _) (.cons (SVLe.refl _) (.cons (SVLe.nil 1) (.cons (SVLe.nil 1) (.cons (SVLe.nil 7) .nil)))))))) ?_
  obtain ⟨y9, q10, h0⟩ := bind_elim h0
  refine AO.op rfl (AOp.callD rfl rfl (ltb rfl) rfl rfl (w_FlatOf F (TImpl_Geom.mk (1 : Int) (1 : Int) (0 : Int) [(4607182418800017408 : Nat), (4611686018427387904 : Nat)] [] [] []) y9 q10) ?_)
  rintro _ rfl
  refine AO.op rfl (AOp.move rfl rfl (ltb rfl) rfl ?_)
  first | refine AO.op rfl (AOp.extractD rfl rfl (ltb rfl) rfl rfl ?_) | refine AO.op rfl (AOp.extract rfl rfl (ltb rfl) rfl rfl ?_)
  first | refine AO.op rfl (AOp.extractD rfl rfl (ltb rfl) rfl rfl ?_) | refine AO.op rfl (AOp.extract rfl rfl (ltb rfl) rfl rfl ?_)
  refine AO.op rfl (AOp.assign rfl rfl (ltb rfl) rfl ?_)
  refine AO.op rfl (AOp.assign rfl rfl (ltb rfl) rfl ?_)
  refine AO.nil ?_
  change AC _ _ _ _
  refine AC.seq ?_
  refine AC.region ?_
  refine AO.op rfl (AOp.move rfl rfl (ltb rfl) rfl ?_)
  refine AO.op rfl (AOp.move rfl rfl (ltb rfl) rfl ?_)
  refine AO.dec y9.2 (fun q11 => ?_) (fun q11 => ?_)
  · replace h0 := cT h0 q11
    refine AO.guardY rfl rfl rfl q11 (AOp.move rfl rfl (ltb rfl) rfl ?_)
    refine AO.guardY rfl rfl rfl q11 (AOp.fieldAddr rfl rfl (ltb rfl) rfl fo27_0 ?_)
    refine AO.guardY rfl rfl rfl q11 (AOp.load1 rfl rfl (ltb rfl) rfl agg3 rfl rfl ?_)
    refine AO.guardY rfl rfl rfl q11 (AOp.ineq rfl rfl (ltb rfl) rfl rfl ?_)
    refine AO.guardY rfl rfl rfl q11 (AOp.beql Try.underlying4 rfl rfl (ltb rfl) rfl rfl ?_)
    refine AO.op rfl (AOp.pick rfl rfl (ltb rfl) rfl q11 rfl ?_)
    refine AO.op rfl (AOp.move rfl rfl (ltb rfl) rfl ?_)
    refine AO.dec (y7.2 == (!decide (a0.Kind = (7 : Int)))) (fun q12 => ?_) (fun q12 => ?_)
    · replace h0 := cT h0 q12
      refine AO.guardY rfl rfl rfl q12 (AOp.move rfl rfl (ltb rfl) rfl ?_)
      refine AO.guardY rfl rfl rfl q12 (AOp.bnot rfl rfl (ltb rfl) rfl ?_)
      refine AO.guardY rfl rfl rfl q12 (AOp.move rfl rfl (ltb rfl) rfl ?_)
      refine AO.dec (!y7.2) (fun q13 => ?_) (fun q13 => ?_)
      · replace h0 := cT h0 q13
        refine AO.guardN rfl rfl rfl (ltb rfl) rfl q13 ?_
        refine AO.guardN rfl rfl rfl (ltb rfl) rfl q13 ?_
        refine AO.guardN rfl rfl rfl (ltb rfl) rfl q13 ?_
        refine AO.guardN rfl rfl rfl (ltb rfl) rfl q13 ?_
        refine AO.guardY rfl rfl rfl q12 (AOp.pick rfl rfl (ltb rfl) rfl q13 rfl ?_)
        refine AO.op rfl (AOp.pick rfl rfl (ltb rfl) rfl q12 rfl ?_)
        refine AO.op rfl (AOp.assign rfl rfl (ltb rfl) rfl ?_)
        refine AO.nil ?_
        change AC _ _ _ _
        refine AC.ret ?_
        change RetQ _ _ _ .ret _
        obtain rfl := Option.some.inj h0
        refine retq rfl rfl
      replace h0 := cF h0 q13
      refine AO.guardY rfl rfl rfl q13 (AOp.move rfl rfl (ltb rfl) rfl ?_)
      refine AO.guardY rfl rfl rfl q13 (AOp.fieldAddr rfl rfl (ltb rfl) rfl fo27_3 ?_)
      refine AO.guardY rfl rfl rfl q13 (AOp.load1 rfl rfl (ltb rfl) rfl agg22 rfl rfl ?_)
      obtain ⟨y14, q15, h0⟩ := bind_elim h0
      refine AO.guardY rfl rfl rfl q13 (AOp.callD rfl rfl (ltb rfl) rfl rfl (w_SameFloats F y7.1 a0.Flat y14 q15) ?_)
      rintro _ rfl
      refine AO.guardY rfl rfl rfl q12 (AOp.pickN rfl rfl (ltb rfl) rfl q13 rfl ?_)
      refine AO.op rfl (AOp.pick rfl rfl (ltb rfl) rfl q12 rfl ?_)
      refine AO.op rfl (AOp.assign rfl rfl (ltb rfl) rfl ?_)
      refine AO.nil ?_
      change AC _ _ _ _
      refine AC.ret ?_
      change RetQ _ _ _ .ret _
      obtain rfl := Option.some.inj h0
      refine retq rfl rfl
    replace h0 := cF h0 q12
    refine AO.guardN rfl rfl rfl (ltb rfl) rfl q12 ?_
    refine AO.guardN rfl rfl rfl (ltb rfl) rfl q12 ?_
    refine AO.guardN rfl rfl rfl (ltb rfl) rfl q12 ?_
    refine AO.guardU rfl rfl rfl (ltb rfl) rfl ?_
    refine AO.guardU rfl rfl rfl (ltb rfl) rfl ?_
    refine AO.guardU rfl rfl rfl (ltb rfl) rfl ?_
    refine AO.guardU rfl rfl rfl (ltb rfl) rfl ?_
    refine AO.guardN rfl rfl rfl (ltb rfl) rfl q12 ?_
    refine AO.op rfl (AOp.pickN rfl rfl (ltb rfl) rfl q12 rfl ?_)
    refine AO.op rfl (AOp.assign rfl rfl (ltb rfl) rfl ?_)
    refine AO.nil ?_
    change AC _ _ _ _
    refine AC.ret ?_
    change RetQ _ _ _ .ret _
    obtain rfl := Option.some.inj h0
    refine retq rfl rfl
  replace h0 := cF h0 q11
  refine AO.guardN rfl rfl rfl (ltb rfl) rfl q11 ?_
  refine AO.guardN rfl rfl rfl (ltb rfl) rfl q11 ?_
  refine AO.guardN rfl rfl rfl (ltb rfl) rfl q11 ?_
  refine AO.guardN rfl rfl rfl (ltb rfl) rfl q11 ?_
  refine AO.guardN rfl rfl rfl (ltb rfl) rfl q11 ?_
  refine AO.op rfl (AOp.pickN rfl rfl (ltb rfl) rfl q11 rfl ?_)
  refine AO.op rfl (AOp.move rfl rfl (ltb rfl) rfl ?_)
  refine AO.guardN rfl rfl rfl (ltb rfl) rfl rfl ?_
  refine AO.guardN rfl rfl rfl (ltb rfl) rfl rfl ?_
  refine AO.guardN rfl rfl rfl (ltb rfl) rfl rfl ?_
  refine AO.guardU rfl rfl rfl (ltb rfl) rfl ?_
  refine AO.guardU rfl rfl rfl (ltb rfl) rfl ?_
  refine AO.guardU rfl rfl rfl (ltb rfl) rfl ?_
  refine AO.guardU rfl rfl rfl (ltb rfl) rfl ?_
  refine AO.guardN rfl rfl rfl (ltb rfl) rfl rfl ?_
  refine AO.op rfl (AOp.pickN rfl rfl (ltb rfl) rfl rfl rfl ?_)
  refine AO.op rfl (AOp.assign rfl rfl (ltb rfl) rfl ?_)
  refine AO.nil ?_
  change AC _ _ _ _
  refine AC.ret ?_
  change RetQ _ _ _ .ret _
  obtain rfl := Option.some.inj h0
  refine retq rfl rfl

end Go.Proofs.Ytbgdonedjgkhiaa.Wk
