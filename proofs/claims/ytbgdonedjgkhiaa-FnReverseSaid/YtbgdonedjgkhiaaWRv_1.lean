/- Proved: more of it. -/
import Derived.Test.YtbgdonedjgkhiaaWRv_0
namespace Go.Proofs.Ytbgdonedjgkhiaa.Wk
open Go.Vm
set_option linter.unusedVariables false
set_option linter.unusedSimpArgs false
set_option maxRecDepth 100000 in
set_option maxHeartbeats 4000000 in
/-- pub-orthodrome/impl.Reverse -/
theorem w_Reverse_c2 (F : Nat) (a0 : TImpl_Geom) (r0 : (TImpl_Geom × Bool)) (h0 : p_Reverse F a0 = some r0) (hp0 : (decide (a0.Kind = (1 : Int))) = false) (hp1 : (decide (a0.Kind = (2 : Int))) = false) (hp2 : (decide (a0.Kind = (8 : Int))) = true) : FnD Try.prog 14 [e_TImpl_Geom a0] (fun r => r = .tu [e_TImpl_Geom r0.1, dbool r0.2]) := by
 refine FnD.wrap (g := 31) (m := 2) (fun vs w h => idle31 vs w h) (by kernel_rfl) Try.func14 rfl Try.ntmps14 rfl (leb rfl) fun W ok => ?_
 unfold p_Reverse at h0
 refine AW.seq ?_
 refine AC.region ?_
 refine AO.op rfl (AOp.box rfl rfl (ltb rfl) rfl rfl ?_)
 refine AO.op rfl (AOp.alloc rfl rfl (ltb rfl) zero27 rfl ?_)
 refine AO.op rfl (AOp.alloc rfl rfl (ltb rfl) zero4 rfl ?_)
 refine AO.nil ?_
 refine ⟨rfl, ?_⟩
 refine AW.defer (caps := [.tmp 2, .tmp 3]) rfl rfl rfl (ltb rfl) rfl rfl rfl rfl (by kernel_rfl) rfl fun df => ?_
 refine AC.seq ?_
 refine AC.region ?_
 refine AO.op rfl (AOp.loadN rfl rfl (ltb rfl) rfl agg27 size27 rfl (leb rfl) rfl ?_)
 refine AO.op rfl (AOp.inl [2, 3] (by kernel_rfl) Try.func22 rfl Try.ntmps22 rfl rfl (ltb rfl) rfl (leb rfl) rfl ?_)
 intro fr1
 refine AC.seq ?_
 refine AC.region ?_
 refine AO.op rfl (AOp.box rfl rfl (ltb rfl) rfl rfl ?_)
 refine AO.op rfl (AOp.assign rfl rfl (ltb rfl) rfl ?_)
 refine AO.nil ?_
 change AC _ _ _ _
 refine AC.seq ?_
 refine AC.room ?_
 obtain ⟨y2, q3, h0⟩ := bind_elim h0
 refine AC.drawS [0, 1, 2, 3, 4] [4] [5, 6] (fun L => [.fix 27 [.d (di .i64 a0.Kind), .d (di .i64 a0.Layout), .d (di .i64 a0.SRID), .d (eS1 a0.Flat), .d (eS2 a0.Ends), .d (eS3 a0.Endss), .d (eS0 a0.Kids)], .fix 27 [.d (di .i64 (0 : Int)), .d (di .i64 (0 : Int)), .d (di .i64 (0 : Int)), .d (.v (.slice none 0 0)), .d (.v (.slice none 0 0)), .d (.v (.slice none 0 0)), .d (.v (.slice none 0 0))], .fix 4 [.d (dbool false)], .frame fr1 [(2, .ptr 1 0), (3, .ptr 2 0)], .fix 27 [.d (di .i64 a0.Kind), .d (di .i64 a0.Layout), .d (di .i64 a0.SRID), .d (eS1 a0.Flat), .d (eS2 a0.Ends), .d (eS3 a0.Endss), .d (eS0 a0.Kids)], bif L 4 then .grow 32 1 (List.map keS1 y2) else .dead]) [(4, SV.noO2 5 6)] mixed (by kernel_rfl) (fun L L' h => by simp only [h 4 (by decide)]) rfl ?_
 refine AS.op [1] [] [] [4] rfl rfl rfl (by kernel_rfl) (by kernel_rfl) rfl rfl (fun _ _ _ h => AOp.fieldAddr rfl rfl (ltb rfl) rfl fo27_1 h) (by kernel_rfl) ?_
 refine AS.op [8] [] [] [4] rfl rfl rfl (by kernel_rfl) (by kernel_rfl) rfl rfl (fun _ _ _ h => AOp.load1 rfl rfl (ltb rfl) rfl agg3 rfl rfl h) (by kernel_rfl) ?_
 refine AS.op [1] [] [4] [] rfl rfl rfl (by kernel_rfl) (by kernel_rfl) rfl rfl (fun _ _ _ h => AOp.fieldAddr rfl rfl (ltb rfl) rfl fo27_3 h) (by kernel_rfl) ?_
 refine AS.op [10] [] [4] [] rfl rfl rfl (by kernel_rfl) (by kernel_rfl) rfl rfl (fun _ _ _ h => AOp.load1 rfl rfl (ltb rfl) rfl agg22 rfl rfl h) (by kernel_rfl) ?_
 refine AS.mid [11] [] [4] [] rfl rfl rfl rfl (by kernel_rfl) (by kernel_rfl) rfl rfl (fun _ _ _ h => AOp.callNew rfl rfl (ltb rfl) rfl rfl (wn_floats a0.Flat y2 q3) (AO.sink 5 6 rfl rfl rfl (.cons rfl (.cons rfl (.cons rfl (.cons rfl (.cons rfl (.cons (noO2_cond rfl rfl) .nil)))))) rfl h)) (by kernel_rfl) rfl ?_
 refine AS.done ?_
 refine AO.objs (obs' := [.fix 27 [.d (di .i64 a0.Kind), .d (di .i64 a0.Layout), .d (di .i64 a0.SRID), .d (eS1 a0.Flat), .d (eS2 a0.Ends), .d (eS3 a0.Endss), .d (eS0 a0.Kids)], .fix 27 [.d (di .i64 (0 : Int)), .d (di .i64 (0 : Int)), .d (di .i64 (0 : Int)), .d (.v (.slice none 0 0)), .d (.v (.slice none 0 0)), .d (.v (.slice none 0 0)), .d (.v (.slice none 0 0))], .fix 4 [.d (dbool false)], .frame fr1 [(2, .ptr 1 0), (3, .ptr 2 0)], .fix 27 [.d (di .i64 a0.Kind), .d (di .i64 a0.Layout), .d (di .i64 a0.SRID), .d (eS1 a0.Flat), .d (eS2 a0.Ends), .d (eS3 a0.Endss), .d (eS0 a0.Kids)], .grow 32 1 (List.map keS1 y2)]) rfl ?_
 refine AO.op rfl (AOp.assign rfl rfl (ltb rfl) rfl ?_)
 refine AO.op rfl (AOp.assign rfl rfl (ltb rfl) rfl ?_)
 refine AO.objs (obs' := [.fix 27 [.d (di .i64 a0.Kind), .d (di .i64 a0.Layout), .d (di .i64 a0.SRID), .d (eS1 a0.Flat), .d (eS2 a0.Ends), .d (eS3 a0.Endss), .d (eS0 a0.Kids)], .fix 27 [.d (di .i64 (0 : Int)), .d (di .i64 (0 : Int)), .d (di .i64 (0 : Int)), .d (.v (.slice none 0 0)), .d (.v (.slice none 0 0)), .d (.v (.slice none 0 0)), .d (.v (.slice none 0 0))], .fix 4 [.d (dbool false)], .frame fr1 [(2, .ptr 1 0), (3, .ptr 2 0)], .fix 27 [.d (di .i64 a0.Kind), .d (di .i64 a0.Layout), .d (di .i64 a0.SRID), .d (eS1 a0.Flat), .d (eS2 a0.Ends), .d (eS3 a0.Endss), .d (eS0 a0.Kids)], .grow 32 1 (List.map keS1 y2)]) rfl ?_
 refine AO.nil ?_
 change AC _ _ _ _
 refine AC.seq ?_
 refine AC.seq ?_
 refine AC.region ?_
 refine AO.op rfl (AOp.fieldAddr rfl rfl (ltb rfl) rfl fo27_0 ?_)
 refine AO.op rfl (AOp.load1 rfl rfl (ltb rfl) rfl agg3 rfl rfl ?_)
 refine AO.nil ?_
 change AC _ _ _ _
 refine AC.block ?_
 refine AC.seq ?_
 refine AC.region ?_
 refine AO.op rfl (AOp.ieql rfl rfl (ltb rfl) rfl rfl ?_)
 refine AO.op rfl (AOp.assign rfl rfl (ltb rfl) rfl ?_)
 refine AO.nil ?_
 change AC _ _ _ _
 refine AC.cond rfl (fun q4 => ?_) (fun q4 => ?_)
 ·exact absurd (hp0.symm.trans q4) (by decide)
 replace h0 := cF h0 q4
 refine AC.seq ?_
 refine AC.region ?_
 refine AO.op rfl (AOp.ieql rfl rfl (ltb rfl) rfl rfl ?_)
 refine AO.op rfl (AOp.assign rfl rfl (ltb rfl) rfl ?_)
 refine AO.nil ?_
 change AC _ _ _ _
 refine AC.cond rfl (fun q5 => ?_) (fun q5 => ?_)
 ·exact absurd (hp1.symm.trans q5) (by decide)
 replace h0 := cF h0 q5
 refine AC.seq ?_
 refine AC.region ?_
 refine AO.op rfl (AOp.ieql rfl rfl (ltb rfl) rfl rfl ?_)
 refine AO.op rfl (AOp.assign rfl rfl (ltb rfl) rfl ?_)
 refine AO.nil ?_
 change AC _ _ _ _
 refine AC.cond rfl (fun q59 => ?_) (fun q59 => ?_)
 ·replace h0 := cT h0 q59
  refine AC.seq ?_
  refine AC.room ?_
  obtain ⟨y60, q61, h0⟩ := bind_elim h0
  refine AC.drawS [0, 1, 2, 3, 4] [2] [5, 6, 7] (fun L => [.fix 27 [.d (di .i64 a0.Kind), .d (di .i64 a0.Layout), .d (di .i64 a0.SRID), .d (eS1 a0.Flat), .d (eS2 a0.Ends), .d (eS3 a0.Endss), .d (eS0 a0.Kids)], .fix 27 [.d (di .i64 (0 : Int)), .d (di .i64 (0 : Int)), .d (di .i64 (0 : Int)), .d (.v (.slice none 0 0)), .d (.v (.slice none 0 0)), .d (.v (.slice none 0 0)), .d (.v (.slice none 0 0))], .fix 4 [.d (dbool false)], .frame fr1 [(2, .ptr 1 0), (3, .ptr 2 0)], .fix 27 [.d (di .i64 a0.Kind), .d (di .i64 a0.Layout), .d (di .i64 a0.SRID), .d (eS1 a0.Flat), .d (eS2 a0.Ends), .d (eS3 a0.Endss), .d (eS0 a0.Kids)], .grow 32 1 (List.map keS1 y2), bif L 2 then .fix 116 [.d (di .i64 y60.geom1.geom0.layout), .d (di .i64 y60.geom1.geom0.stride), .own 5, .d (di .i64 y60.geom1.geom0.srid)] else .dead]) [(2, SV.noO2 6 7)] mixed (by kernel_rfl) (fun L L' h => by simp only [h 2 (by decide)]) rfl ?_
  refine AS.op [3] [] [2] [] rfl rfl rfl (by kernel_rfl) (by kernel_rfl) rfl rfl (fun _ _ _ h => AOp.move rfl rfl (ltb rfl) rfl h) (by kernel_rfl) ?_
  refine AS.op [4] [] [2] [] rfl rfl rfl (by kernel_rfl) (by kernel_rfl) rfl rfl (fun _ _ _ h => AOp.move rfl rfl (ltb rfl) rfl h) (by kernel_rfl) ?_
  refine AS.mid [35, 36] [] [2] [] rfl rfl rfl rfl (by kernel_rfl) (by kernel_rfl) rfl rfl (fun _ _ _ h => AOp.callAT (p := 5) (n := y2.length) (cz := [some (di .i64 y60.geom1.geom0.layout), some (di .i64 y60.geom1.geom0.stride), none, some (di .i64 y60.geom1.geom0.srid)]) rfl rfl (ltb rfl) rfl rfl rfl (by decide) (len1 _ _) (fun sa sc => wt_NewLinearRingFlat sa sc a0.Layout y2.length y60 q61) rfl (AO.sink 6 7 rfl rfl rfl (.cons rfl (.cons rfl (.cons rfl (.cons rfl (.cons rfl (.cons rfl (.cons (noO2_cond rfl rfl) .nil))))))) rfl h)) (by kernel_rfl) rfl ?_
  refine AS.op [1] [] [] [2] rfl rfl rfl (by kernel_rfl) (by kernel_rfl) rfl rfl (fun _ _ _ h => AOp.fieldAddr rfl rfl (ltb rfl) rfl fo27_2 h) (by kernel_rfl) ?_
  refine AS.op [38] [] [] [2] rfl rfl rfl (by kernel_rfl) (by kernel_rfl) rfl rfl (fun _ _ _ h => AOp.load1 rfl rfl (ltb rfl) rfl agg3 rfl rfl h) (by kernel_rfl) ?_
  refine AS.done ?_
  refine AO.objs (obs' := [.fix 27 [.d (di .i64 a0.Kind), .d (di .i64 a0.Layout), .d (di .i64 a0.SRID), .d (eS1 a0.Flat), .d (eS2 a0.Ends), .d (eS3 a0.Endss), .d (eS0 a0.Kids)], .fix 27 [.d (di .i64 (0 : Int)), .d (di .i64 (0 : Int)), .d (di .i64 (0 : Int)), .d (.v (.slice none 0 0)), .d (.v (.slice none 0 0)), .d (.v (.slice none 0 0)), .d (.v (.slice none 0 0))], .fix 4 [.d (dbool false)], .frame fr1 [(2, .ptr 1 0), (3, .ptr 2 0)], .fix 27 [.d (di .i64 a0.Kind), .d (di .i64 a0.Layout), .d (di .i64 a0.SRID), .d (eS1 a0.Flat), .d (eS2 a0.Ends), .d (eS3 a0.Endss), .d (eS0 a0.Kids)], .grow 32 1 (List.map keS1 y2), .fix 116 [.d (di .i64 y60.geom1.geom0.layout), .d (di .i64 y60.geom1.geom0.stride), .own 5, .d (di .i64 y60.geom1.geom0.srid)]]) rfl ?_
  refine AO.op rfl (AOp.inl [2] (by kernel_rfl) Try.func44 rfl Try.ntmps44 rfl rfl (ltb rfl) rfl (leb rfl) rfl ?_)
  intro fr62
  refine AC.seq ?_
  refine AC.region ?_
  refine AO.op rfl (AOp.assign rfl rfl (ltb rfl) rfl ?_)
  refine AO.objs (obs' := [.fix 27 [.d (di .i64 a0.Kind), .d (di .i64 a0.Layout), .d (di .i64 a0.SRID), .d (eS1 a0.Flat), .d (eS2 a0.Ends), .d (eS3 a0.Endss), .d (eS0 a0.Kids)], .fix 27 [.d (di .i64 (0 : Int)), .d (di .i64 (0 : Int)), .d (di .i64 (0 : Int)), .d (.v (.slice none 0 0)), .d (.v (.slice none 0 0)), .d (.v (.slice none 0 0)), .d (.v (.slice none 0 0))], .fix 4 [.d (dbool false)], .frame fr1 [(2, .ptr 1 0), (3, .ptr 2 0)], .fix 27 [.d (di .i64 a0.Kind), .d (di .i64 a0.Layout), .d (di .i64 a0.SRID), .d (eS1 a0.Flat), .d (eS2 a0.Ends), .d (eS3 a0.Endss), .d (eS0 a0.Kids)], .grow 32 1 (List.map keS1 y2), .fix 116 [.d (di .i64 y60.geom1.geom0.layout), .d (di .i64 y60.geom1.geom0.stride), .own 5, .d (di .i64 y60.geom1.geom0.srid)], .frame fr62 [(2, .d (.v (.nilIface)))]]) rfl ?_
  refine AO.nil ?_
  change AC _ _ _ _
  refine AC.seq ?_
  refine AC.region ?_
  refine AO.op rfl (AOp.move rfl rfl (ltb rfl) rfl ?_)
  refine AO.op rfl (AOp.move rfl rfl (ltb rfl) rfl ?_)
  refine AO.op rfl (AOp.nilCheck rfl rfl (ltb rfl) rfl rfl ?_)
  refine AO.op rfl (AOp.fieldAddr rfl rfl (ltb rfl) rfl fo116_0 ?_)
  refine AO.op rfl (AOp.fieldAddr rfl rfl (ltb rfl) rfl fo93_0 ?_)
  refine AO.op rfl (AOp.fieldAddr rfl rfl (ltb rfl) rfl fo91_3 ?_)
  refine AO.op rfl (AOp.store rfl rfl rfl rfl size3 rfl rfl rfl (leb rfl) ?_)
  refine AO.nil ?_
  change AC _ _ _ _
  refine AC.seq ?_
  refine AC.region ?_
  refine AO.op rfl (AOp.move rfl rfl (ltb rfl) rfl ?_)
  refine AO.op rfl (AOp.assign rfl rfl (ltb rfl) rfl ?_)
  refine AO.nil ?_
  change AC _ _ _ _
  refine AC.ret ?_
  refine inlret (ob' := [.fix 27 [.d (di .i64 a0.Kind), .d (di .i64 a0.Layout), .d (di .i64 a0.SRID), .d (eS1 a0.Flat), .d (eS2 a0.Ends), .d (eS3 a0.Endss), .d (eS0 a0.Kids)], .fix 27 [.d (di .i64 (0 : Int)), .d (di .i64 (0 : Int)), .d (di .i64 (0 : Int)), .d (.v (.slice none 0 0)), .d (.v (.slice none 0 0)), .d (.v (.slice none 0 0)), .d (.v (.slice none 0 0))], .fix 4 [.d (dbool false)], .frame fr1 [(2, .ptr 1 0), (3, .ptr 2 0)], .fix 27 [.d (di .i64 a0.Kind), .d (di .i64 a0.Layout), .d (di .i64 a0.SRID), .d (eS1 a0.Flat), .d (eS2 a0.Ends), .d (eS3 a0.Endss), .d (eS0 a0.Kids)], .grow 32 1 (List.map keS1 y2), .fix 116 [.d (di .i64 y60.geom1.geom0.layout), .d (di .i64 y60.geom1.geom0.stride), .own 5, .d (di .i64 a0.SRID)], .dead]) (e' := [(2, .d (.v (.nilIface)))]) (r := .ptr 6 0) rfl rfl rfl ?_
  change AO _ _ _ _ _
  refine AO.op rfl (AOp.makeIfc rfl rfl (ltb rfl) rfl conc70 ?_)
  refine AO.op rfl (AOp.assign rfl rfl (ltb rfl) rfl ?_)
  refine AO.objs (obs' := [.fix 27 [.d (di .i64 a0.Kind), .d (di .i64 a0.Layout), .d (di .i64 a0.SRID), .d (eS1 a0.Flat), .d (eS2 a0.Ends), .d (eS3 a0.Endss), .d (eS0 a0.Kids)], .fix 27 [.d (di .i64 (0 : Int)), .d (di .i64 (0 : Int)), .d (di .i64 (0 : Int)), .d (.v (.slice none 0 0)), .d (.v (.slice none 0 0)), .d (.v (.slice none 0 0)), .d (.v (.slice none 0 0))], .fix 4 [.d (dbool false)], .frame fr1 [(2, .ptr 1 0), (3, .ptr 2 0)], .fix 27 [.d (di .i64 a0.Kind), .d (di .i64 a0.Layout), .d (di .i64 a0.SRID), .d (eS1 a0.Flat), .d (eS2 a0.Ends), .d (eS3 a0.Endss), .d (eS0 a0.Kids)], .grow 32 1 (List.map keS1 y2), .fix 116 [.d (di .i64 y60.geom1.geom0.layout), .d (di .i64 y60.geom1.geom0.stride), .own 5, .d (di .i64 a0.SRID)], .dead]) rfl ?_
  refine AO.nil ?_
  change AC _ _ _ _
  refine AC.ret ?_
  refine inlret (ob' := [.fix 27 [.d (di .i64 a0.Kind), .d (di .i64 a0.Layout), .d (di .i64 a0.SRID), .d (eS1 a0.Flat), .d (eS2 a0.Ends), .d (eS3 a0.Endss), .d (eS0 a0.Kids)], .fix 27 [.d (di .i64 (0 : Int)), .d (di .i64 (0 : Int)), .d (di .i64 (0 : Int)), .d (.v (.slice none 0 0)), .d (.v (.slice none 0 0)), .d (.v (.slice none 0 0)), .d (.v (.slice none 0 0))], .fix 4 [.d (dbool false)], .dead, .fix 27 [.d (di .i64 a0.Kind), .d (di .i64 a0.Layout), .d (di .i64 a0.SRID), .d (eS1 a0.Flat), .d (eS2 a0.Ends), .d (eS3 a0.Endss), .d (eS0 a0.Kids)], .grow 32 1 (List.map keS1 y2), .fix 116 [.d (di .i64 y60.geom1.geom0.layout), .d (di .i64 y60.geom1.geom0.stride), .own 5, .d (di .i64 a0.SRID)], .dead]) (e' := [(2, .ptr 1 0), (3, .ptr 2 0)]) (r := .ifc 70 (.ptr 6 0)) rfl rfl rfl ?_
  change AO _ _ _ _ _
  refine AO.op rfl (AOp.assign rfl rfl (ltb rfl) rfl ?_)
  refine AO.objs (obs' := [.fix 27 [.d (di .i64 a0.Kind), .d (di .i64 a0.Layout), .d (di .i64 a0.SRID), .d (eS1 a0.Flat), .d (eS2 a0.Ends), .d (eS3 a0.Endss), .d (eS0 a0.Kids)], .fix 27 [.d (di .i64 (0 : Int)), .d (di .i64 (0 : Int)), .d (di .i64 (0 : Int)), .d (.v (.slice none 0 0)), .d (.v (.slice none 0 0)), .d (.v (.slice none 0 0)), .d (.v (.slice none 0 0))], .fix 4 [.d (dbool false)], .dead, .fix 27 [.d (di .i64 a0.Kind), .d (di .i64 a0.Layout), .d (di .i64 a0.SRID), .d (eS1 a0.Flat), .d (eS2 a0.Ends), .d (eS3 a0.Endss), .d (eS0 a0.Kids)], .grow 32 1 (List.map keS1 y2), .fix 116 [.d (di .i64 y60.geom1.geom0.layout), .d (di .i64 y60.geom1.geom0.stride), .own 5, .d (di .i64 a0.SRID)], .dead]) rfl ?_
  refine AO.nil ?_
  change AC _ _ _ _
  refine AC.seq ?_
  refine AC.region ?_
  refine AO.op rfl (AOp.move rfl rfl (ltb rfl) rfl ?_)
  refine AO.op rfl (AOp.assertYes rfl rfl (ltb rfl) rfl rfl pass70_55 rfl ?_)
  refine AO.op rfl (AOp.move rfl rfl (ltb rfl) rfl ?_)
  first | refine AO.op rfl (AOp.extractD rfl rfl (ltb rfl) rfl rfl ?_) | refine AO.op rfl (AOp.extract rfl rfl (ltb rfl) rfl rfl ?_)
  first | refine AO.op rfl (AOp.extractD rfl rfl (ltb rfl) rfl rfl ?_) | refine AO.op rfl (AOp.extract rfl rfl (ltb rfl) rfl rfl ?_)
  refine AO.op rfl (AOp.assign rfl rfl (ltb rfl) rfl ?_)
  refine AO.op rfl (AOp.assign rfl rfl (ltb rfl) rfl ?_)
  refine AO.nil ?_
  change AC _ _ _ _
  refine AC.seq ?_
  refine AC.seq ?_
  refine AC.region ?_
  refine AO.op rfl (AOp.move rfl rfl (ltb rfl) rfl ?_)
  refine AO.op rfl (AOp.bnot rfl rfl (ltb rfl) rfl ?_)
  refine AO.nil ?_
  change AC _ _ _ _
  refine AC.condF rfl rfl ?_
  refine AC.skip ?_
  change AC _ _ _ _
  refine AC.seq ?_
  refine AC.region ?_
  refine AO.op rfl (AOp.move rfl rfl (ltb rfl) rfl ?_)
  refine AO.op rfl (AOp.inlE [2, 3, 4] (EntersS.meth (by kernel_rfl) rfl rfl rfl meth70_Reverse rfl rfl) Try.func109 rfl Try.ntmps109 rfl (ltb rfl) (leb rfl) rfl ?_)
  intro fr63
  refine AC.draw 16 mixed (by kernel_rfl) ?_
  refine AD.op [0] rfl (by kernel_rfl) rfl rfl (fun _ _ h => AOp.move rfl rfl (ltb rfl) rfl h) ?_
  refine AD.op [2] rfl (by kernel_rfl) rfl rfl (fun _ _ h => AOp.nilCheck rfl rfl (ltb rfl) rfl rfl h) ?_
  refine AD.op [3] rfl (by kernel_rfl) rfl rfl (fun _ _ h => AOp.fieldAddr rfl rfl (ltb rfl) rfl fo93_0 h) ?_
  refine AD.op [4] rfl (by kernel_rfl) rfl rfl (fun _ _ h => AOp.fieldAddr rfl rfl (ltb rfl) rfl fo91_2 h) ?_
  refine AD.op [5] rfl (by kernel_rfl) rfl rfl (fun _ _ h => AOp.load1 rfl rfl (ltb rfl) rfl agg22 rfl rfl h) ?_
  refine AD.op [0] rfl (by kernel_rfl) rfl rfl (fun _ _ h => AOp.move rfl rfl (ltb rfl) rfl h) ?_
  refine AD.op [7] rfl (by kernel_rfl) rfl rfl (fun _ _ h => AOp.nilCheck rfl rfl (ltb rfl) rfl rfl h) ?_
  refine AD.op [8] rfl (by kernel_rfl) rfl rfl (fun _ _ h => AOp.fieldAddr rfl rfl (ltb rfl) rfl fo93_0 h) ?_
  refine AD.op [9] rfl (by kernel_rfl) rfl rfl (fun _ _ h => AOp.fieldAddr rfl rfl (ltb rfl) rfl fo91_2 h) ?_
  refine AD.op [10] rfl (by kernel_rfl) rfl rfl (fun _ _ h => AOp.load1 rfl rfl (ltb rfl) rfl agg22 rfl rfl h) ?_
  refine AD.op [11] rfl (by kernel_rfl) rfl rfl (fun _ _ h => AOp.lenOwn (cells := (List.map keS1 y2)) (n := y2.length) rfl rfl (ltb rfl) rfl el22 rfl (by decide) (len1 _ _) h) ?_
  refine AD.op [0] rfl (by kernel_rfl) rfl rfl (fun _ _ h => AOp.move rfl rfl (ltb rfl) rfl h) ?_
  refine AD.op [13] rfl (by kernel_rfl) rfl rfl (fun _ _ h => AOp.nilCheck rfl rfl (ltb rfl) rfl rfl h) ?_
  refine AD.op [14] rfl (by kernel_rfl) rfl rfl (fun _ _ h => AOp.fieldAddr rfl rfl (ltb rfl) rfl fo93_0 h) ?_
  refine AD.op [15] rfl (by kernel_rfl) rfl rfl (fun _ _ h => AOp.fieldAddr rfl rfl (ltb rfl) rfl fo91_1 h) ?_
  refine AD.op [16] rfl (by kernel_rfl) rfl rfl (fun _ _ h => AOp.load1 rfl rfl (ltb rfl) rfl agg3 rfl rfl h) ?_
  refine AD.done ?_
  refine AO.op rfl (AOp.inl [] (by kernel_rfl) Try.func93 rfl Try.ntmps93 rfl rfl (ltb rfl) rfl (leb rfl) rfl ?_)
  intro fr64
  refine AC.seq ?_
  refine AC.region ?_
  refine AO.op rfl (AOp.move rfl rfl (ltb rfl) rfl ?_)
  refine AO.op rfl (AOp.move rfl rfl (ltb rfl) rfl ?_)
  obtain ⟨q65, h0⟩ := need_elim h0
  refine AO.op rfl (AOp.iadd rfl rfl (ltb rfl) rfl rfl rfl q65.1 q65.2 ?_)
  refine AO.op rfl (AOp.move rfl rfl (ltb rfl) rfl ?_)
  refine AO.op rfl (AOp.assign rfl rfl (ltb rfl) rfl ?_)
  refine AO.op rfl (AOp.assign rfl rfl (ltb rfl) rfl ?_)
  refine AO.objs (obs' := [.fix 27 [.d (di .i64 a0.Kind), .d (di .i64 a0.Layout), .d (di .i64 a0.SRID), .d (eS1 a0.Flat), .d (eS2 a0.Ends), .d (eS3 a0.Endss), .d (eS0 a0.Kids)], .fix 27 [.d (di .i64 (0 : Int)), .d (di .i64 (0 : Int)), .d (di .i64 (0 : Int)), .d (.v (.slice none 0 0)), .d (.v (.slice none 0 0)), .d (.v (.slice none 0 0)), .d (.v (.slice none 0 0))], .fix 4 [.d (dbool false)], .dead, .fix 27 [.d (di .i64 a0.Kind), .d (di .i64 a0.Layout), .d (di .i64 a0.SRID), .d (eS1 a0.Flat), .d (eS2 a0.Ends), .d (eS3 a0.Endss), .d (eS0 a0.Kids)], .grow 32 1 (List.map keS1 y2), .fix 116 [.d (di .i64 y60.geom1.geom0.layout), .d (di .i64 y60.geom1.geom0.stride), .own 5, .d (di .i64 a0.SRID)], .dead, .frame fr63 [(2, .ptr 1 0), (3, .ptr 2 0), (4, .ifc 70 (.ptr 6 0))], .frame fr64 []]) rfl ?_
  refine AO.nil ?_
  change AC _ _ _ _
  obtain ⟨o66, l67, h0⟩ := bind_elim h0
  refine AC.joinE (V := (List Nat)) [] [] 10 (fun g68 => []) (fun g68 => [.fix 27 [.d (di .i64 a0.Kind), .d (di .i64 a0.Layout), .d (di .i64 a0.SRID), .d (eS1 a0.Flat), .d (eS2 a0.Ends), .d (eS3 a0.Endss), .d (eS0 a0.Kids)], .fix 27 [.d (di .i64 (0 : Int)), .d (di .i64 (0 : Int)), .d (di .i64 (0 : Int)), .d (.v (.slice none 0 0)), .d (.v (.slice none 0 0)), .d (.v (.slice none 0 0)), .d (.v (.slice none 0 0))], .fix 4 [.d (dbool false)], .dead, .fix 27 [.d (di .i64 a0.Kind), .d (di .i64 a0.Layout), .d (di .i64 a0.SRID), .d (eS1 a0.Flat), .d (eS2 a0.Ends), .d (eS3 a0.Endss), .d (eS0 a0.Kids)], .grow 32 1 (List.map keS1 g68), .fix 116 [.d (di .i64 y60.geom1.geom0.layout), .d (di .i64 y60.geom1.geom0.stride), .own 5, .d (di .i64 a0.SRID)], .dead, .frame fr63 [(2, .ptr 1 0), (3, .ptr 2 0), (4, .ifc 70 (.ptr 6 0))], .frame fr64 []]) (fun g68 => (p_Reverse_k5 a0 F y60) g68 = some r0) rfl ?_ ?_
  ·refine AC.block ?_
   refine AC.loopP (V := (Int × Int × (List Nat))) (p_Reverse_l6 F y60) o66 [0, 3] [8, 9] 10 (fun g81 => [(8, .d (di .i64 g81.1)), (9, .d (di .i64 g81.2.1))]) (fun g81 => [.fix 27 [.d (di .i64 a0.Kind), .d (di .i64 a0.Layout), .d (di .i64 a0.SRID), .d (eS1 a0.Flat), .d (eS2 a0.Ends), .d (eS3 a0.Endss), .d (eS0 a0.Kids)], .fix 27 [.d (di .i64 (0 : Int)), .d (di .i64 (0 : Int)), .d (di .i64 (0 : Int)), .d (.v (.slice none 0 0)), .d (.v (.slice none 0 0)), .d (.v (.slice none 0 0)), .d (.v (.slice none 0 0))], .fix 4 [.d (dbool false)], .dead, .fix 27 [.d (di .i64 a0.Kind), .d (di .i64 a0.Layout), .d (di .i64 a0.SRID), .d (eS1 a0.Flat), .d (eS2 a0.Ends), .d (eS3 a0.Endss), .d (eS0 a0.Kids)], .grow 32 1 (List.map keS1 g81.2.2), .fix 116 [.d (di .i64 y60.geom1.geom0.layout), .d (di .i64 y60.geom1.geom0.stride), .own 5, .d (di .i64 a0.SRID)], .dead, .frame fr63 [(2, .ptr 1 0), (3, .ptr 2 0), (4, .ifc 70 (.ptr 6 0))], .frame fr64 []]) F (((0 : Int) + y60.geom1.geom0.stride), ((y2.length : Nat) : Int), y2) l67 rfl rfl (LeL.refl _) rfl rfl ?_
   intro n83 g81 h1
   unfold p_Reverse_l6 at h1
   refine AC.seq ?_
   refine AC.seq ?_
   refine AC.region ?_
   refine AO.op rfl (AOp.move rfl rfl (ltb rfl) rfl ?_)
   refine AO.op rfl (AOp.move rfl rfl (ltb rfl) rfl ?_)
   refine AO.op rfl (AOp.ileq rfl rfl (ltb rfl) rfl rfl ?_)
   refine AO.nil ?_
   change AC _ _ _ _
   refine AC.cond rfl (fun q84 => ?_) (fun q84 => ?_)
   ·replace h1 := cT h1 q84
    refine AC.skip ?_
    change AC _ _ _ _
    refine AC.seq ?_
    refine AC.block ?_
    refine AC.seq ?_
    refine AC.region ?_
    refine AO.op rfl (AOp.move rfl rfl (ltb rfl) rfl ?_)
    refine AO.op rfl (AOp.move rfl rfl (ltb rfl) rfl ?_)
    refine AO.nil ?_
    change AC _ _ _ _
    obtain ⟨o85, l86, h1⟩ := bind_elim h1
    refine AC.joinE (V := (List Nat)) [0, 3, 8, 9] [] 10 (fun g87 => []) (fun g87 => [.fix 27 [.d (di .i64 a0.Kind), .d (di .i64 a0.Layout), .d (di .i64 a0.SRID), .d (eS1 a0.Flat), .d (eS2 a0.Ends), .d (eS3 a0.Endss), .d (eS0 a0.Kids)], .fix 27 [.d (di .i64 (0 : Int)), .d (di .i64 (0 : Int)), .d (di .i64 (0 : Int)), .d (.v (.slice none 0 0)), .d (.v (.slice none 0 0)), .d (.v (.slice none 0 0)), .d (.v (.slice none 0 0))], .fix 4 [.d (dbool false)], .dead, .fix 27 [.d (di .i64 a0.Kind), .d (di .i64 a0.Layout), .d (di .i64 a0.SRID), .d (eS1 a0.Flat), .d (eS2 a0.Ends), .d (eS3 a0.Endss), .d (eS0 a0.Kids)], .grow 32 1 (List.map keS1 g87), .fix 116 [.d (di .i64 y60.geom1.geom0.layout), .d (di .i64 y60.geom1.geom0.stride), .own 5, .d (di .i64 a0.SRID)], .dead, .frame fr63 [(2, .ptr 1 0), (3, .ptr 2 0), (4, .ifc 70 (.ptr 6 0))], .frame fr64 []]) (fun g87 => (p_Reverse_k7 y60 g81 (iter (p_Reverse_l6 F y60) n83)) g87 = some o66) rfl ?_ ?_
    ·refine AC.block ?_
     refine AC.loopP (V := (Int × (List Nat))) (p_Reverse_l8 y60 g81) o85 [0, 3, 8, 9, 24] [25] 10 (fun g90 => [(25, .d (di .i64 g90.1))]) (fun g90 => [.fix 27 [.d (di .i64 a0.Kind), .d (di .i64 a0.Layout), .d (di .i64 a0.SRID), .d (eS1 a0.Flat), .d (eS2 a0.Ends), .d (eS3 a0.Endss), .d (eS0 a0.Kids)], .fix 27 [.d (di .i64 (0 : Int)), .d (di .i64 (0 : Int)), .d (di .i64 (0 : Int)), .d (.v (.slice none 0 0)), .d (.v (.slice none 0 0)), .d (.v (.slice none 0 0)), .d (.v (.slice none 0 0))], .fix 4 [.d (dbool false)], .dead, .fix 27 [.d (di .i64 a0.Kind), .d (di .i64 a0.Layout), .d (di .i64 a0.SRID), .d (eS1 a0.Flat), .d (eS2 a0.Ends), .d (eS3 a0.Endss), .d (eS0 a0.Kids)], .grow 32 1 (List.map keS1 g90.2), .fix 116 [.d (di .i64 y60.geom1.geom0.layout), .d (di .i64 y60.geom1.geom0.stride), .own 5, .d (di .i64 a0.SRID)], .dead, .frame fr63 [(2, .ptr 1 0), (3, .ptr 2 0), (4, .ifc 70 (.ptr 6 0))], .frame fr64 []]) F ((0 : Int), g81.2.2) l86 rfl rfl (LeL.refl _) rfl rfl ?_
     intro n92 g90 h2
     unfold p_Reverse_l8 at h2
     refine AC.seq ?_
     refine AC.region ?_
     refine AO.op rfl (AOp.ilss rfl rfl (ltb rfl) rfl rfl ?_)
     refine AO.nil ?_
     change AC _ _ _ _
     refine AC.seq ?_
     refine AC.cond rfl (fun q93 => ?_) (fun q93 => ?_)
     ·replace h2 := cT h2 q93
      refine AC.skip ?_
      change AC _ _ _ _
      refine AC.seq ?_
      refine AC.block ?_
      refine AC.seq ?_
      refine AC.region ?_
      refine AO.op rfl (AOp.move rfl rfl (ltb rfl) rfl ?_)
      refine AO.op rfl (AOp.assign rfl rfl (ltb rfl) rfl ?_)
      refine AO.nil ?_
      change AC _ _ _ _
      obtain ⟨q94, h2⟩ := need_elim h2
      obtain ⟨q95, h2⟩ := need_elim h2
      obtain ⟨q96, h2⟩ := need_elim h2
      obtain ⟨q97, h2⟩ := need_elim h2
      obtain ⟨q98, h2⟩ := need_elim h2
      obtain ⟨q99, h2⟩ := need_elim h2
      obtain ⟨q100, h2⟩ := need_elim h2
      obtain ⟨x101, q102, h2⟩ := idx_elim h2
      obtain ⟨q103, h2⟩ := need_elim h2
      obtain ⟨q104, h2⟩ := need_elim h2
      obtain ⟨q105, h2⟩ := need_elim h2
      obtain ⟨x106, q107, h2⟩ := idx_elim h2
      obtain ⟨q108, h2⟩ := need_elim h2
      obtain ⟨q109, h2⟩ := need_elim h2
      refine AC.drawS [0, 1, 2, 3, 4, 5, 6, 7, 8, 9, 10, 11, 12, 13, 14, 15, 16, 17, 18, 19, 20, 21, 22, 23, 24, 25, 26, 27, 28, 29] [29] [30, 31] (fun L => [.fix 27 [.d (di .i64 a0.Kind), .d (di .i64 a0.Layout), .d (di .i64 a0.SRID), .d (eS1 a0.Flat), .d (eS2 a0.Ends), .d (eS3 a0.Endss), .d (eS0 a0.Kids)], .fix 27 [.d (di .i64 (0 : Int)), .d (di .i64 (0 : Int)), .d (di .i64 (0 : Int)), .d (.v (.slice none 0 0)), .d (.v (.slice none 0 0)), .d (.v (.slice none 0 0)), .d (.v (.slice none 0 0))], .fix 4 [.d (dbool false)], .dead, .fix 27 [.d (di .i64 a0.Kind), .d (di .i64 a0.Layout), .d (di .i64 a0.SRID), .d (eS1 a0.Flat), .d (eS2 a0.Ends), .d (eS3 a0.Endss), .d (eS0 a0.Kids)], bif L 29 then .grow 32 1 (List.map keS1 (g90.2.set (((g81.1 - y60.geom1.geom0.stride) + g90.1)).toNat x101)) else .grow 32 1 (List.map keS1 g90.2), .fix 116 [.d (di .i64 y60.geom1.geom0.layout), .d (di .i64 y60.geom1.geom0.stride), .own 5, .d (di .i64 a0.SRID)], .dead, .frame fr63 [(2, .ptr 1 0), (3, .ptr 2 0), (4, .ifc 70 (.ptr 6 0))], .frame fr64 []]) [(29, (fun _ => true))] mixed (by kernel_rfl) (fun L L' h => by simp only [h 29 (by decide)]) rfl ?_
      refine AS.op [0] [] [29] [] rfl rfl rfl (by kernel_rfl) (by kernel_rfl) rfl rfl (fun _ _ _ h => AOp.move rfl rfl (ltb rfl) rfl h) (by kernel_rfl) ?_
      refine AS.op [8] [] [29] [] rfl rfl rfl (by kernel_rfl) (by kernel_rfl) rfl rfl (fun _ _ _ h => AOp.move rfl rfl (ltb rfl) rfl h) (by kernel_rfl) ?_
      refine AS.op [3] [] [29] [] rfl rfl rfl (by kernel_rfl) (by kernel_rfl) rfl rfl (fun _ _ _ h => AOp.move rfl rfl (ltb rfl) rfl h) (by kernel_rfl) ?_
      refine AS.op [29, 30] [] [29] [] rfl rfl rfl (by kernel_rfl) (by kernel_rfl) rfl rfl (fun _ _ _ h => AOp.isub rfl rfl (ltb rfl) rfl rfl rfl q94.1 q94.2 h) (by kernel_rfl) ?_
      refine AS.op [10] [] [29] [] rfl rfl rfl (by kernel_rfl) (by kernel_rfl) rfl rfl (fun _ _ _ h => AOp.move rfl rfl (ltb rfl) rfl h) (by kernel_rfl) ?_
      refine AS.op [31, 32] [] [29] [] rfl rfl rfl (by kernel_rfl) (by kernel_rfl) rfl rfl (fun _ _ _ h => AOp.iadd rfl rfl (ltb rfl) rfl rfl rfl q95.1 q95.2 h) (by kernel_rfl) ?_
      refine AS.op [0] [] [] [29] rfl rfl rfl (by kernel_rfl) (by kernel_rfl) rfl rfl (fun _ _ _ h => AOp.move rfl rfl (ltb rfl) rfl h) (by kernel_rfl) ?_
      refine AS.op [9] [] [] [29] rfl rfl rfl (by kernel_rfl) (by kernel_rfl) rfl rfl (fun _ _ _ h => AOp.move rfl rfl (ltb rfl) rfl h) (by kernel_rfl) ?_
      refine AS.op [3] [] [] [29] rfl rfl rfl (by kernel_rfl) (by kernel_rfl) rfl rfl (fun _ _ _ h => AOp.move rfl rfl (ltb rfl) rfl h) (by kernel_rfl) ?_
      refine AS.op [35, 36] [] [] [29] rfl rfl rfl (by kernel_rfl) (by kernel_rfl) rfl rfl (fun _ _ _ h => AOp.isub rfl rfl (ltb rfl) rfl rfl rfl q96.1 q96.2 h) (by kernel_rfl) ?_
      refine AS.op [10] [] [] [29] rfl rfl rfl (by kernel_rfl) (by kernel_rfl) rfl rfl (fun _ _ _ h => AOp.move rfl rfl (ltb rfl) rfl h) (by kernel_rfl) ?_
      refine AS.op [37, 38] [] [] [29] rfl rfl rfl (by kernel_rfl) (by kernel_rfl) rfl rfl (fun _ _ _ h => AOp.iadd rfl rfl (ltb rfl) rfl rfl rfl q97.1 q97.2 h) (by kernel_rfl) ?_
      refine AS.op [0] [] [29] [] rfl rfl rfl (by kernel_rfl) (by kernel_rfl) rfl rfl (fun _ _ _ h => AOp.move rfl rfl (ltb rfl) rfl h) (by kernel_rfl) ?_
      refine AS.op [9] [] [29] [] rfl rfl rfl (by kernel_rfl) (by kernel_rfl) rfl rfl (fun _ _ _ h => AOp.move rfl rfl (ltb rfl) rfl h) (by kernel_rfl) ?_
      refine AS.op [3] [] [29] [] rfl rfl rfl (by kernel_rfl) (by kernel_rfl) rfl rfl (fun _ _ _ h => AOp.move rfl rfl (ltb rfl) rfl h) (by kernel_rfl) ?_
      refine AS.op [41, 42] [] [29] [] rfl rfl rfl (by kernel_rfl) (by kernel_rfl) rfl rfl (fun _ _ _ h => AOp.isub rfl rfl (ltb rfl) rfl rfl rfl q98.1 q98.2 h) (by kernel_rfl) ?_
      refine AS.op [10] [] [29] [] rfl rfl rfl (by kernel_rfl) (by kernel_rfl) rfl rfl (fun _ _ _ h => AOp.move rfl rfl (ltb rfl) rfl h) (by kernel_rfl) ?_
      refine AS.op [43, 44] [] [29] [] rfl rfl rfl (by kernel_rfl) (by kernel_rfl) rfl rfl (fun _ _ _ h => AOp.iadd rfl rfl (ltb rfl) rfl rfl rfl q99.1 q99.2 h) (by kernel_rfl) ?_
      refine AS.op [40, 45] [] [29] [] rfl rfl rfl (by kernel_rfl) (by kernel_rfl) rfl rfl (fun _ _ _ h => AOp.indexOwn (cells := (List.map keS1 g90.2)) (n := g90.2.length) rfl rfl (ltb rfl) rfl rfl el22 rfl (by decide) (len1 _ _) q100.1 q100.2 h) (by kernel_rfl) ?_
      refine AS.op [46] [] [29] [] rfl rfl rfl (by kernel_rfl) (by kernel_rfl) rfl rfl (fun _ _ _ h => AOp.loadO1 rfl rfl (ltb rfl) rfl agg32 rfl (at1 q102.2) h) (by kernel_rfl) ?_
      refine AS.op [0] [] [29] [] rfl rfl rfl (by kernel_rfl) (by kernel_rfl) rfl rfl (fun _ _ _ h => AOp.move rfl rfl (ltb rfl) rfl h) (by kernel_rfl) ?_
      refine AS.op [8] [] [29] [] rfl rfl rfl (by kernel_rfl) (by kernel_rfl) rfl rfl (fun _ _ _ h => AOp.move rfl rfl (ltb rfl) rfl h) (by kernel_rfl) ?_
      refine AS.op [3] [] [29] [] rfl rfl rfl (by kernel_rfl) (by kernel_rfl) rfl rfl (fun _ _ _ h => AOp.move rfl rfl (ltb rfl) rfl h) (by kernel_rfl) ?_
      refine AS.op [49, 50] [] [29] [] rfl rfl rfl (by kernel_rfl) (by kernel_rfl) rfl rfl (fun _ _ _ h => AOp.isub rfl rfl (ltb rfl) rfl rfl rfl q103.1 q103.2 h) (by kernel_rfl) ?_
      refine AS.op [10] [] [29] [] rfl rfl rfl (by kernel_rfl) (by kernel_rfl) rfl rfl (fun _ _ _ h => AOp.move rfl rfl (ltb rfl) rfl h) (by kernel_rfl) ?_
      refine AS.op [51, 52] [] [29] [] rfl rfl rfl (by kernel_rfl) (by kernel_rfl) rfl rfl (fun _ _ _ h => AOp.iadd rfl rfl (ltb rfl) rfl rfl rfl q104.1 q104.2 h) (by kernel_rfl) ?_
      refine AS.op [48, 53] [] [29] [] rfl rfl rfl (by kernel_rfl) (by kernel_rfl) rfl rfl (fun _ _ _ h => AOp.indexOwn (cells := (List.map keS1 g90.2)) (n := g90.2.length) rfl rfl (ltb rfl) rfl rfl el22 rfl (by decide) (len1 _ _) q105.1 q105.2 h) (by kernel_rfl) ?_
      refine AS.op [54] [] [29] [] rfl rfl rfl (by kernel_rfl) (by kernel_rfl) rfl rfl (fun _ _ _ h => AOp.loadO1 rfl rfl (ltb rfl) rfl agg32 rfl (at1 q107.2) h) (by kernel_rfl) ?_
      refine AS.op [28, 33] [] [29] [] rfl rfl rfl (by kernel_rfl) (by kernel_rfl) rfl rfl (fun _ _ _ h => AOp.indexOwn (cells := (List.map keS1 g90.2)) (n := g90.2.length) rfl rfl (ltb rfl) rfl rfl el22 rfl (by decide) (len1 _ _) q108.1 q108.2 h) (by kernel_rfl) ?_
      refine AS.mid0 [47, 56] [] [29] [] rfl rfl rfl rfl (by kernel_rfl) (by kernel_rfl) rfl rfl (fun _ _ _ h => AOp.storeOL (f := keS1) (l := g90.2) (i := (((g81.1 - y60.geom1.geom0.stride) + g90.1)).toNat) (v := x101) rfl rfl rfl rfl size32 rfl rfl rfl q109 (AO.dropT h)) (by kernel_rfl) rfl ?_
      refine AS.done ?_
      refine AO.objs (obs' := [.fix 27 [.d (di .i64 a0.Kind), .d (di .i64 a0.Layout), .d (di .i64 a0.SRID), .d (eS1 a0.Flat), .d (eS2 a0.Ends), .d (eS3 a0.Endss), .d (eS0 a0.Kids)], .fix 27 [.d (di .i64 (0 : Int)), .d (di .i64 (0 : Int)), .d (di .i64 (0 : Int)), .d (.v (.slice none 0 0)), .d (.v (.slice none 0 0)), .d (.v (.slice none 0 0)), .d (.v (.slice none 0 0))], .fix 4 [.d (dbool false)], .dead, .fix 27 [.d (di .i64 a0.Kind), .d (di .i64 a0.Layout), .d (di .i64 a0.SRID), .d (eS1 a0.Flat), .d (eS2 a0.Ends), .d (eS3 a0.Endss), .d (eS0 a0.Kids)], .grow 32 1 (List.map keS1 (g90.2.set (((g81.1 - y60.geom1.geom0.stride) + g90.1)).toNat x101)), .fix 116 [.d (di .i64 y60.geom1.geom0.layout), .d (di .i64 y60.geom1.geom0.stride), .own 5, .d (di .i64 a0.SRID)], .dead, .frame fr63 [(2, .ptr 1 0), (3, .ptr 2 0), (4, .ifc 70 (.ptr 6 0))], .frame fr64 []]) rfl ?_
      obtain ⟨q110, h2⟩ := need_elim h2
      refine AO.op rfl (AOp.indexOwn (cells := (List.map keS1 (g90.2.set (((g81.1 - y60.geom1.geom0.stride) + g90.1)).toNat x101))) (n := (g90.2.set (((g81.1 - y60.geom1.geom0.stride) + g90.1)).toNat x101).length) rfl rfl (ltb rfl) rfl rfl el22 rfl (by decide) (len1 _ _) q110.1 q110.2 ?_)
      obtain ⟨q111, h2⟩ := need_elim h2
      refine AO.op rfl (AOp.storeOL (f := keS1) (l := (g90.2.set (((g81.1 - y60.geom1.geom0.stride) + g90.1)).toNat x101)) (i := (((g81.2.1 - y60.geom1.geom0.stride) + g90.1)).toNat) (v := x106) rfl rfl rfl rfl size32 rfl rfl rfl q111 ?_)
      refine AO.nil ?_
      change AC _ _ _ _
      refine AC.region ?_
      obtain ⟨q112, h2⟩ := need_elim h2
      refine AO.op rfl (AOp.iadd rfl rfl (ltb rfl) rfl rfl rfl q112.1 q112.2 ?_)
      refine AO.op rfl (AOp.move rfl rfl (ltb rfl) rfl ?_)
      refine AO.nil ?_
      exact ⟨((g90.1 + (1 : Int)), ((g90.2.set (((g81.1 - y60.geom1.geom0.stride) + g90.1)).toNat x101).set (((g81.2.1 - y60.geom1.geom0.stride) + g90.1)).toNat x106)), _, rfl, (LeL.refl _), rfl, rfl, h2⟩
     replace h2 := cF h2 q93
     refine AC.exit ?_
     obtain rfl := Option.some.inj h2
     exact ⟨g90.2, _, rfl, (LeL.refl _), rfl, rfl, aftL h1⟩
    intro g87 h1
    unfold p_Reverse_k7 at h1
    change AC _ _ _ _
    refine AC.region ?_
    refine AO.op rfl (AOp.move rfl rfl (ltb rfl) rfl ?_)
    refine AO.op rfl (AOp.move rfl rfl (ltb rfl) rfl ?_)
    obtain ⟨q88, h1⟩ := need_elim h1
    refine AO.op rfl (AOp.iadd rfl rfl (ltb rfl) rfl rfl rfl q88.1 q88.2 ?_)
    refine AO.op rfl (AOp.move rfl rfl (ltb rfl) rfl ?_)
    refine AO.op rfl (AOp.move rfl rfl (ltb rfl) rfl ?_)
    obtain ⟨q89, h1⟩ := need_elim h1
    refine AO.op rfl (AOp.isub rfl rfl (ltb rfl) rfl rfl rfl q89.1 q89.2 ?_)
    refine AO.op rfl (AOp.assign rfl rfl (ltb rfl) rfl ?_)
    refine AO.op rfl (AOp.assign rfl rfl (ltb rfl) rfl ?_)
    refine AO.nil ?_
    exact ⟨((g81.1 + y60.geom1.geom0.stride), (g81.2.1 - y60.geom1.geom0.stride), g87), _, rfl, (LeL.refl _), rfl, rfl, h1⟩
   replace h1 := cF h1 q84
   refine AC.exit ?_
   obtain rfl := Option.some.inj h1
   exact ⟨g81.2.2, _, rfl, (LeL.refl _), rfl, rfl, aftL h0⟩
  intro g68 h0
  unfold p_Reverse_k5 at h0
  refine inlend (ob' := [.fix 27 [.d (di .i64 a0.Kind), .d (di .i64 a0.Layout), .d (di .i64 a0.SRID), .d (eS1 a0.Flat), .d (eS2 a0.Ends), .d (eS3 a0.Endss), .d (eS0 a0.Kids)], .fix 27 [.d (di .i64 (0 : Int)), .d (di .i64 (0 : Int)), .d (di .i64 (0 : Int)), .d (.v (.slice none 0 0)), .d (.v (.slice none 0 0)), .d (.v (.slice none 0 0)), .d (.v (.slice none 0 0))], .fix 4 [.d (dbool false)], .dead, .fix 27 [.d (di .i64 a0.Kind), .d (di .i64 a0.Layout), .d (di .i64 a0.SRID), .d (eS1 a0.Flat), .d (eS2 a0.Ends), .d (eS3 a0.Endss), .d (eS0 a0.Kids)], .grow 32 1 (List.map keS1 g68), .fix 116 [.d (di .i64 y60.geom1.geom0.layout), .d (di .i64 y60.geom1.geom0.stride), .own 5, .d (di .i64 a0.SRID)], .dead, .frame fr63 [(2, .ptr 1 0), (3, .ptr 2 0), (4, .ifc 70 (.ptr 6 0))], .dead]) (e' := []) (r := .tu []) rfl rfl rfl ?_
  change AO _ _ _ _ _
  refine AO.objs (obs' := [.fix 27 [.d (di .i64 a0.Kind), .d (di .i64 a0.Layout), .d (di .i64 a0.SRID), .d (eS1 a0.Flat), .d (eS2 a0.Ends), .d (eS3 a0.Endss), .d (eS0 a0.Kids)], .fix 27 [.d (di .i64 (0 : Int)), .d (di .i64 (0 : Int)), .d (di .i64 (0 : Int)), .d (.v (.slice none 0 0)), .d (.v (.slice none 0 0)), .d (.v (.slice none 0 0)), .d (.v (.slice none 0 0))], .fix 4 [.d (dbool false)], .dead, .fix 27 [.d (di .i64 a0.Kind), .d (di .i64 a0.Layout), .d (di .i64 a0.SRID), .d (eS1 a0.Flat), .d (eS2 a0.Ends), .d (eS3 a0.Endss), .d (eS0 a0.Kids)], .grow 32 1 (List.map keS1 g68), .fix 116 [.d (di .i64 y60.geom1.geom0.layout), .d (di .i64 y60.geom1.geom0.stride), .own 5, .d (di .i64 a0.SRID)], .dead, .frame fr63 [(2, .ptr 1 0), (3, .ptr 2 0), (4, .ifc 70 (.ptr 6 0))], .dead]) rfl ?_
  refine AO.nil ?_
  refine inlend (ob' := [.fix 27 [.d (di .i64 a0.Kind), .d (di .i64 a0.Layout), .d (di .i64 a0.SRID), .d (eS1 a0.Flat), .d (eS2 a0.Ends), .d (eS3 a0.Endss), .d (eS0 a0.Kids)], .fix 27 [.d (di .i64 (0 : Int)), .d (di .i64 (0 : Int)), .d (di .i64 (0 : Int)), .d (.v (.slice none 0 0)), .d (.v (.slice none 0 0)), .d (.v (.slice none 0 0)), .d (.v (.slice none 0 0))], .fix 4 [.d (dbool false)], .dead, .fix 27 [.d (di .i64 a0.Kind), .d (di .i64 a0.Layout), .d (di .i64 a0.SRID), .d (eS1 a0.Flat), .d (eS2 a0.Ends), .d (eS3 a0.Endss), .d (eS0 a0.Kids)], .grow 32 1 (List.map keS1 g68), .fix 116 [.d (di .i64 y60.geom1.geom0.layout), .d (di .i64 y60.geom1.geom0.stride), .own 5, .d (di .i64 a0.SRID)], .dead, .dead, .dead]) (e' := [(2, .ptr 1 0), (3, .ptr 2 0), (4, .ifc 70 (.ptr 6 0))]) (r := .tu []) rfl rfl rfl ?_
  change AO _ _ _ _ _
  refine AO.objs (obs' := [.fix 27 [.d (di .i64 a0.Kind), .d (di .i64 a0.Layout), .d (di .i64 a0.SRID), .d (eS1 a0.Flat), .d (eS2 a0.Ends), .d (eS3 a0.Endss), .d (eS0 a0.Kids)], .fix 27 [.d (di .i64 (0 : Int)), .d (di .i64 (0 : Int)), .d (di .i64 (0 : Int)), .d (.v (.slice none 0 0)), .d (.v (.slice none 0 0)), .d (.v (.slice none 0 0)), .d (.v (.slice none 0 0))], .fix 4 [.d (dbool false)], .dead, .fix 27 [.d (di .i64 a0.Kind), .d (di .i64 a0.Layout), .d (di .i64 a0.SRID), .d (eS1 a0.Flat), .d (eS2 a0.Ends), .d (eS3 a0.Endss), .d (eS0 a0.Kids)], .grow 32 1 (List.map keS1 g68), .fix 116 [.d (di .i64 y60.geom1.geom0.layout), .d (di .i64 y60.geom1.geom0.stride), .own 5, .d (di .i64 a0.SRID)], .dead, .dead, .dead]) rfl ?_
  refine AO.nil ?_
  change AC _ _ _ _
  refine AC.seq ?_
  refine AC.region ?_
  refine AO.op rfl (AOp.move rfl rfl (ltb rfl) rfl ?_)
  refine AO.op rfl (AOp.inl [2, 3] (by kernel_rfl) Try.func32 rfl Try.ntmps32 rfl rfl (ltb rfl) rfl (leb rfl) rfl ?_)
  intro fr69
  refine AC.seq ?_
  refine AC.region ?_
  refine AO.op rfl (AOp.alloc rfl rfl (ltb rfl) zero27 rfl ?_)
  refine AO.objs (obs' := [.fix 27 [.d (di .i64 a0.Kind), .d (di .i64 a0.Layout), .d (di .i64 a0.SRID), .d (eS1 a0.Flat), .d (eS2 a0.Ends), .d (eS3 a0.Endss), .d (eS0 a0.Kids)], .fix 27 [.d (di .i64 (0 : Int)), .d (di .i64 (0 : Int)), .d (di .i64 (0 : Int)), .d (.v (.slice none 0 0)), .d (.v (.slice none 0 0)), .d (.v (.slice none 0 0)), .d (.v (.slice none 0 0))], .fix 4 [.d (dbool false)], .dead, .fix 27 [.d (di .i64 a0.Kind), .d (di .i64 a0.Layout), .d (di .i64 a0.SRID), .d (eS1 a0.Flat), .d (eS2 a0.Ends), .d (eS3 a0.Endss), .d (eS0 a0.Kids)], .grow 32 1 (List.map keS1 g68), .fix 116 [.d (di .i64 y60.geom1.geom0.layout), .d (di .i64 y60.geom1.geom0.stride), .own 5, .d (di .i64 a0.SRID)], .dead, .dead, .dead, .frame fr69 [(2, .ptr 1 0), (3, .ptr 2 0)], .fix 27 [.d (di .i64 (0 : Int)), .d (di .i64 (0 : Int)), .d (di .i64 (0 : Int)), .d (.v (.slice none 0 0)), .d (.v (.slice none 0 0)), .d (.v (.slice none 0 0)), .d (.v (.slice none 0 0))]]) rfl ?_
  refine AO.nil ?_
  change AC _ _ _ _
  refine AC.seq ?_
  refine AC.region ?_
  refine AO.op rfl (AOp.move rfl rfl (ltb rfl) rfl ?_)
  refine AO.op rfl (AOp.inlE [0, 2] (EntersS.meth (by kernel_rfl) rfl rfl rfl meth70_SRID rfl rfl) Try.func90 rfl Try.ntmps90 rfl (ltb rfl) (leb rfl) rfl ?_)
  intro fr70
  refine AC.seq ?_
  refine AC.region ?_
  refine AO.op rfl (AOp.assign rfl rfl (ltb rfl) rfl ?_)
  refine AO.objs (obs' := [.fix 27 [.d (di .i64 a0.Kind), .d (di .i64 a0.Layout), .d (di .i64 a0.SRID), .d (eS1 a0.Flat), .d (eS2 a0.Ends), .d (eS3 a0.Endss), .d (eS0 a0.Kids)], .fix 27 [.d (di .i64 (0 : Int)), .d (di .i64 (0 : Int)), .d (di .i64 (0 : Int)), .d (.v (.slice none 0 0)), .d (.v (.slice none 0 0)), .d (.v (.slice none 0 0)), .d (.v (.slice none 0 0))], .fix 4 [.d (dbool false)], .dead, .fix 27 [.d (di .i64 a0.Kind), .d (di .i64 a0.Layout), .d (di .i64 a0.SRID), .d (eS1 a0.Flat), .d (eS2 a0.Ends), .d (eS3 a0.Endss), .d (eS0 a0.Kids)], .grow 32 1 (List.map keS1 g68), .fix 116 [.d (di .i64 y60.geom1.geom0.layout), .d (di .i64 y60.geom1.geom0.stride), .own 5, .d (di .i64 a0.SRID)], .dead, .dead, .dead, .frame fr69 [(2, .ptr 1 0), (3, .ptr 2 0)], .fix 27 [.d (di .i64 (0 : Int)), .d (di .i64 (0 : Int)), .d (di .i64 (0 : Int)), .d (.v (.slice none 0 0)), .d (.v (.slice none 0 0)), .d (.v (.slice none 0 0)), .d (.v (.slice none 0 0))], .frame fr70 [(0, .ifc 70 (.ptr 6 0)), (2, .ptr 11 0)]]) rfl ?_
  refine AO.nil ?_
  change AC _ _ _ _
  refine AC.seq ?_
  refine AC.region ?_
  refine AO.op rfl (AOp.move rfl rfl (ltb rfl) rfl ?_)
  refine AO.op rfl (AOp.nilCheck rfl rfl (ltb rfl) rfl rfl ?_)
  refine AO.op rfl (AOp.fieldAddr rfl rfl (ltb rfl) rfl fo91_3 ?_)
  refine AO.op rfl (AOp.load1 rfl rfl (ltb rfl) rfl agg3 rfl rfl ?_)
  refine AO.op rfl (AOp.assign rfl rfl (ltb rfl) rfl ?_)
  refine AO.nil ?_
  change AC _ _ _ _
  refine AC.ret ?_
  refine inlret (ob' := [.fix 27 [.d (di .i64 a0.Kind), .d (di .i64 a0.Layout), .d (di .i64 a0.SRID), .d (eS1 a0.Flat), .d (eS2 a0.Ends), .d (eS3 a0.Endss), .d (eS0 a0.Kids)], .fix 27 [.d (di .i64 (0 : Int)), .d (di .i64 (0 : Int)), .d (di .i64 (0 : Int)), .d (.v (.slice none 0 0)), .d (.v (.slice none 0 0)), .d (.v (.slice none 0 0)), .d (.v (.slice none 0 0))], .fix 4 [.d (dbool false)], .dead, .fix 27 [.d (di .i64 a0.Kind), .d (di .i64 a0.Layout), .d (di .i64 a0.SRID), .d (eS1 a0.Flat), .d (eS2 a0.Ends), .d (eS3 a0.Endss), .d (eS0 a0.Kids)], .grow 32 1 (List.map keS1 g68), .fix 116 [.d (di .i64 y60.geom1.geom0.layout), .d (di .i64 y60.geom1.geom0.stride), .own 5, .d (di .i64 a0.SRID)], .dead, .dead, .dead, .frame fr69 [(2, .ptr 1 0), (3, .ptr 2 0)], .fix 27 [.d (di .i64 (0 : Int)), .d (di .i64 (0 : Int)), .d (di .i64 (0 : Int)), .d (.v (.slice none 0 0)), .d (.v (.slice none 0 0)), .d (.v (.slice none 0 0)), .d (.v (.slice none 0 0))], .dead]) (e' := [(0, .ifc 70 (.ptr 6 0)), (2, .ptr 11 0)]) (r := .d (di .i64 a0.SRID)) rfl rfl rfl ?_
  change AO _ _ _ _ _
  refine AO.op rfl (AOp.build rfl rfl (ltb rfl) zero27 rfl places27 rfl rfl ?_)
  refine AO.op rfl (AOp.alloc rfl rfl (ltb rfl) zero27 rfl ?_)
  refine AO.op rfl (AOp.store rfl rfl rfl rfl size27 rfl rfl rfl (leb rfl) ?_)
  refine AO.objs (obs' := [.fix 27 [.d (di .i64 a0.Kind), .d (di .i64 a0.Layout), .d (di .i64 a0.SRID), .d (eS1 a0.Flat), .d (eS2 a0.Ends), .d (eS3 a0.Endss), .d (eS0 a0.Kids)], .fix 27 [.d (di .i64 (0 : Int)), .d (di .i64 (0 : Int)), .d (di .i64 (0 : Int)), .d (.v (.slice none 0 0)), .d (.v (.slice none 0 0)), .d (.v (.slice none 0 0)), .d (.v (.slice none 0 0))], .fix 4 [.d (dbool false)], .dead, .fix 27 [.d (di .i64 a0.Kind), .d (di .i64 a0.Layout), .d (di .i64 a0.SRID), .d (eS1 a0.Flat), .d (eS2 a0.Ends), .d (eS3 a0.Endss), .d (eS0 a0.Kids)], .grow 32 1 (List.map keS1 g68), .fix 116 [.d (di .i64 y60.geom1.geom0.layout), .d (di .i64 y60.geom1.geom0.stride), .own 5, .d (di .i64 a0.SRID)], .dead, .dead, .dead, .frame fr69 [(2, .ptr 1 0), (3, .ptr 2 0)], .fix 27 [.d (di .i64 (0 : Int)), .d (di .i64 (0 : Int)), .d (di .i64 (0 : Int)), .d (.v (.slice none 0 0)), .d (.v (.slice none 0 0)), .d (.v (.slice none 0 0)), .d (.v (.slice none 0 0))], .dead, .fix 27 [.d (di .i64 (0 : Int)), .d (di .i64 (0 : Int)), .d (di .i64 a0.SRID), .d (.v (.slice none 0 0)), .d (.v (.slice none 0 0)), .d (.v (.slice none 0 0)), .d (.v (.slice none 0 0))]]) rfl ?_
  refine AO.nil ?_
  change AC _ _ _ _
  refine AC.seq ?_
  refine AC.seq ?_
  refine AC.region ?_
  refine AO.op rfl (AOp.move rfl rfl (ltb rfl) rfl ?_)
  refine AO.nil ?_
  change AC _ _ _ _
  refine AC.block ?_
  refine AC.seq ?_
  refine AC.region ?_
  refine AO.op rfl (AOp.assertNo rfl rfl (ltb rfl) rfl rfl pass70_64 zero64 ?_)
  first | refine AO.op rfl (AOp.extractD rfl rfl (ltb rfl) rfl rfl ?_) | refine AO.op rfl (AOp.extract rfl rfl (ltb rfl) rfl rfl ?_)
  first | refine AO.op rfl (AOp.extractD rfl rfl (ltb rfl) rfl rfl ?_) | refine AO.op rfl (AOp.extract rfl rfl (ltb rfl) rfl rfl ?_)
  refine AO.nil ?_
  change AC _ _ _ _
  refine AC.condF rfl rfl ?_
  refine AC.seq ?_
  refine AC.region ?_
  refine AO.op rfl (AOp.assertNo rfl rfl (ltb rfl) rfl rfl pass70_67 zero67 ?_)
  first | refine AO.op rfl (AOp.extractD rfl rfl (ltb rfl) rfl rfl ?_) | refine AO.op rfl (AOp.extract rfl rfl (ltb rfl) rfl rfl ?_)
  first | refine AO.op rfl (AOp.extractD rfl rfl (ltb rfl) rfl rfl ?_) | refine AO.op rfl (AOp.extract rfl rfl (ltb rfl) rfl rfl ?_)
  refine AO.nil ?_
  change AC _ _ _ _
  refine AC.condF rfl rfl ?_
  refine AC.seq ?_
  refine AC.region ?_
  refine AO.op rfl (AOp.assertYes rfl rfl (ltb rfl) rfl rfl pass70_70 rfl ?_)
  first | refine AO.op rfl (AOp.extractD rfl rfl (ltb rfl) rfl rfl ?_) | refine AO.op rfl (AOp.extract rfl rfl (ltb rfl) rfl rfl ?_)
  first | refine AO.op rfl (AOp.extractD rfl rfl (ltb rfl) rfl rfl ?_) | refine AO.op rfl (AOp.extract rfl rfl (ltb rfl) rfl rfl ?_)
  refine AO.nil ?_
  change AC _ _ _ _
  refine AC.condT rfl rfl ?_
  refine AC.seq ?_
  refine AC.region ?_
  refine AO.op rfl (AOp.assign rfl rfl (ltb rfl) rfl ?_)
  refine AO.nil ?_
  change AC _ _ _ _
  refine AC.region ?_
  refine AO.op rfl (AOp.fieldAddr rfl rfl (ltb rfl) rfl fo27_0 ?_)
  refine AO.op rfl (AOp.store rfl rfl rfl rfl size3 rfl rfl rfl (leb rfl) ?_)
  refine AO.nil ?_
  change AC _ _ _ _
  refine AC.seq ?_
  refine AC.region ?_
  refine AO.op rfl (AOp.move rfl rfl (ltb rfl) rfl ?_)
  refine AO.op rfl (AOp.inlE [0, 2, 3] (EntersS.meth (by kernel_rfl) rfl rfl rfl meth70_Layout rfl rfl) Try.func88 rfl Try.ntmps88 rfl (ltb rfl) (leb rfl) rfl ?_)
  intro fr71
  refine AC.seq ?_
  refine AC.region ?_
  refine AO.op rfl (AOp.assign rfl rfl (ltb rfl) rfl ?_)
  refine AO.objs (obs' := [.fix 27 [.d (di .i64 a0.Kind), .d (di .i64 a0.Layout), .d (di .i64 a0.SRID), .d (eS1 a0.Flat), .d (eS2 a0.Ends), .d (eS3 a0.Endss), .d (eS0 a0.Kids)], .fix 27 [.d (di .i64 (0 : Int)), .d (di .i64 (0 : Int)), .d (di .i64 (0 : Int)), .d (.v (.slice none 0 0)), .d (.v (.slice none 0 0)), .d (.v (.slice none 0 0)), .d (.v (.slice none 0 0))], .fix 4 [.d (dbool false)], .dead, .fix 27 [.d (di .i64 a0.Kind), .d (di .i64 a0.Layout), .d (di .i64 a0.SRID), .d (eS1 a0.Flat), .d (eS2 a0.Ends), .d (eS3 a0.Endss), .d (eS0 a0.Kids)], .grow 32 1 (List.map keS1 g68), .fix 116 [.d (di .i64 y60.geom1.geom0.layout), .d (di .i64 y60.geom1.geom0.stride), .own 5, .d (di .i64 a0.SRID)], .dead, .dead, .dead, .frame fr69 [(2, .ptr 1 0), (3, .ptr 2 0)], .fix 27 [.d (di .i64 (0 : Int)), .d (di .i64 (0 : Int)), .d (di .i64 (0 : Int)), .d (.v (.slice none 0 0)), .d (.v (.slice none 0 0)), .d (.v (.slice none 0 0)), .d (.v (.slice none 0 0))], .dead, .fix 27 [.d (di .i64 (8 : Int)), .d (di .i64 (0 : Int)), .d (di .i64 a0.SRID), .d (.v (.slice none 0 0)), .d (.v (.slice none 0 0)), .d (.v (.slice none 0 0)), .d (.v (.slice none 0 0))], .frame fr71 [(0, .ifc 70 (.ptr 6 0)), (2, .ptr 11 0), (3, .ptr 13 0)]]) rfl ?_
  refine AO.nil ?_
  change AC _ _ _ _
  refine AC.seq ?_
  refine AC.region ?_
  refine AO.op rfl (AOp.move rfl rfl (ltb rfl) rfl ?_)
  refine AO.op rfl (AOp.nilCheck rfl rfl (ltb rfl) rfl rfl ?_)
  refine AO.op rfl (AOp.fieldAddr rfl rfl (ltb rfl) rfl fo91_0 ?_)
  refine AO.op rfl (AOp.load1 rfl rfl (ltb rfl) rfl agg63 rfl rfl ?_)
  refine AO.op rfl (AOp.assign rfl rfl (ltb rfl) rfl ?_)
  refine AO.nil ?_
  change AC _ _ _ _
  refine AC.ret ?_
  refine inlret (ob' := [.fix 27 [.d (di .i64 a0.Kind), .d (di .i64 a0.Layout), .d (di .i64 a0.SRID), .d (eS1 a0.Flat), .d (eS2 a0.Ends), .d (eS3 a0.Endss), .d (eS0 a0.Kids)], .fix 27 [.d (di .i64 (0 : Int)), .d (di .i64 (0 : Int)), .d (di .i64 (0 : Int)), .d (.v (.slice none 0 0)), .d (.v (.slice none 0 0)), .d (.v (.slice none 0 0)), .d (.v (.slice none 0 0))], .fix 4 [.d (dbool false)], .dead, .fix 27 [.d (di .i64 a0.Kind), .d (di .i64 a0.Layout), .d (di .i64 a0.SRID), .d (eS1 a0.Flat), .d (eS2 a0.Ends), .d (eS3 a0.Endss), .d (eS0 a0.Kids)], .grow 32 1 (List.map keS1 g68), .fix 116 [.d (di .i64 y60.geom1.geom0.layout), .d (di .i64 y60.geom1.geom0.stride), .own 5, .d (di .i64 a0.SRID)], .dead, .dead, .dead, .frame fr69 [(2, .ptr 1 0), (3, .ptr 2 0)], .fix 27 [.d (di .i64 (0 : Int)), .d (di .i64 (0 : Int)), .d (di .i64 (0 : Int)), .d (.v (.slice none 0 0)), .d (.v (.slice none 0 0)), .d (.v (.slice none 0 0)), .d (.v (.slice none 0 0))], .dead, .fix 27 [.d (di .i64 (8 : Int)), .d (di .i64 (0 : Int)), .d (di .i64 a0.SRID), .d (.v (.slice none 0 0)), .d (.v (.slice none 0 0)), .d (.v (.slice none 0 0)), .d (.v (.slice none 0 0))], .dead]) (e' := [(0, .ifc 70 (.ptr 6 0)), (2, .ptr 11 0), (3, .ptr 13 0)]) (r := .d (di .i64 y60.geom1.geom0.layout)) rfl rfl rfl ?_
  change AO _ _ _ _ _
  refine AO.op rfl (AOp.move rfl rfl (ltb rfl) rfl ?_)
  refine AO.op rfl (AOp.inlE [0, 2, 3, 70] (EntersS.meth (by kernel_rfl) rfl rfl rfl meth70_FlatCoords rfl rfl) Try.func87 rfl Try.ntmps87 rfl (ltb rfl) (leb rfl) rfl ?_)
  intro fr72
  refine AC.seq ?_
  refine AC.region ?_
  refine AO.op rfl (AOp.assign rfl rfl (ltb rfl) rfl ?_)
  refine AO.objs (obs' := [.fix 27 [.d (di .i64 a0.Kind), .d (di .i64 a0.Layout), .d (di .i64 a0.SRID), .d (eS1 a0.Flat), .d (eS2 a0.Ends), .d (eS3 a0.Endss), .d (eS0 a0.Kids)], .fix 27 [.d (di .i64 (0 : Int)), .d (di .i64 (0 : Int)), .d (di .i64 (0 : Int)), .d (.v (.slice none 0 0)), .d (.v (.slice none 0 0)), .d (.v (.slice none 0 0)), .d (.v (.slice none 0 0))], .fix 4 [.d (dbool false)], .dead, .fix 27 [.d (di .i64 a0.Kind), .d (di .i64 a0.Layout), .d (di .i64 a0.SRID), .d (eS1 a0.Flat), .d (eS2 a0.Ends), .d (eS3 a0.Endss), .d (eS0 a0.Kids)], .grow 32 1 (List.map keS1 g68), .fix 116 [.d (di .i64 y60.geom1.geom0.layout), .d (di .i64 y60.geom1.geom0.stride), .own 5, .d (di .i64 a0.SRID)], .dead, .dead, .dead, .frame fr69 [(2, .ptr 1 0), (3, .ptr 2 0)], .fix 27 [.d (di .i64 (0 : Int)), .d (di .i64 (0 : Int)), .d (di .i64 (0 : Int)), .d (.v (.slice none 0 0)), .d (.v (.slice none 0 0)), .d (.v (.slice none 0 0)), .d (.v (.slice none 0 0))], .dead, .fix 27 [.d (di .i64 (8 : Int)), .d (di .i64 (0 : Int)), .d (di .i64 a0.SRID), .d (.v (.slice none 0 0)), .d (.v (.slice none 0 0)), .d (.v (.slice none 0 0)), .d (.v (.slice none 0 0))], .dead, .frame fr72 [(0, .ifc 70 (.ptr 6 0)), (2, .ptr 11 0), (3, .ptr 13 0), (70, .d (di .i64 y60.geom1.geom0.layout))]]) rfl ?_
  refine AO.nil ?_
  change AC _ _ _ _
  refine AC.seq ?_
  refine AC.region ?_
  refine AO.op rfl (AOp.move rfl rfl (ltb rfl) rfl ?_)
  refine AO.op rfl (AOp.nilCheck rfl rfl (ltb rfl) rfl rfl ?_)
  refine AO.op rfl (AOp.fieldAddr rfl rfl (ltb rfl) rfl fo91_2 ?_)
  refine AO.op rfl (AOp.load1 rfl rfl (ltb rfl) rfl agg22 rfl rfl ?_)
  refine AO.op rfl (AOp.assign rfl rfl (ltb rfl) rfl ?_)
  refine AO.nil ?_
  change AC _ _ _ _
  refine AC.ret ?_
  refine inlret (ob' := [.fix 27 [.d (di .i64 a0.Kind), .d (di .i64 a0.Layout), .d (di .i64 a0.SRID), .d (eS1 a0.Flat), .d (eS2 a0.Ends), .d (eS3 a0.Endss), .d (eS0 a0.Kids)], .fix 27 [.d (di .i64 (0 : Int)), .d (di .i64 (0 : Int)), .d (di .i64 (0 : Int)), .d (.v (.slice none 0 0)), .d (.v (.slice none 0 0)), .d (.v (.slice none 0 0)), .d (.v (.slice none 0 0))], .fix 4 [.d (dbool false)], .dead, .fix 27 [.d (di .i64 a0.Kind), .d (di .i64 a0.Layout), .d (di .i64 a0.SRID), .d (eS1 a0.Flat), .d (eS2 a0.Ends), .d (eS3 a0.Endss), .d (eS0 a0.Kids)], .grow 32 1 (List.map keS1 g68), .fix 116 [.d (di .i64 y60.geom1.geom0.layout), .d (di .i64 y60.geom1.geom0.stride), .own 5, .d (di .i64 a0.SRID)], .dead, .dead, .dead, .frame fr69 [(2, .ptr 1 0), (3, .ptr 2 0)], .fix 27 [.d (di .i64 (0 : Int)), .d (di .i64 (0 : Int)), .d (di .i64 (0 : Int)), .d (.v (.slice none 0 0)), .d (.v (.slice none 0 0)), .d (.v (.slice none 0 0)), .d (.v (.slice none 0 0))], .dead, .fix 27 [.d (di .i64 (8 : Int)), .d (di .i64 (0 : Int)), .d (di .i64 a0.SRID), .d (.v (.slice none 0 0)), .d (.v (.slice none 0 0)), .d (.v (.slice none 0 0)), .d (.v (.slice none 0 0))], .dead, .dead]) (e' := [(0, .ifc 70 (.ptr 6 0)), (2, .ptr 11 0), (3, .ptr 13 0), (70, .d (di .i64 y60.geom1.geom0.layout))]) (r := .own 5) rfl rfl rfl ?_
  change AO _ _ _ _ _
  refine AO.subO 6 rfl (.cons (SVLe.refl _) (.cons (SVLe.refl _) (.cons (SVLe.any _) (.cons (SVLe.refl _) .nil)))) ?_
  refine AO.freezeG 5 rfl rfl rfl ?_
  obtain ⟨y73, q74, h0⟩ := bind_elim h0
  refine AO.op rfl (AOp.callD rfl rfl (ltb rfl) rfl rfl (w_floats g68 y73 q74) ?_)
  rintro _ rfl
  refine AO.op rfl (AOp.move rfl rfl (ltb rfl) rfl ?_)
  refine AO.op rfl (AOp.inlE [0, 2, 3, 70, 73] (EntersS.meth (by kernel_rfl) rfl rfl rfl meth70_Ends rfl rfl) Try.func94 rfl Try.ntmps94 rfl (ltb rfl) (leb rfl) rfl ?_)
  intro fr75
  refine AC.seq ?_
  refine AC.region ?_
  refine AO.op rfl (AOp.assign rfl rfl (ltb rfl) rfl ?_)
  refine AO.objs (obs' := [.fix 27 [.d (di .i64 a0.Kind), .d (di .i64 a0.Layout), .d (di .i64 a0.SRID), .d (eS1 a0.Flat), .d (eS2 a0.Ends), .d (eS3 a0.Endss), .d (eS0 a0.Kids)], .fix 27 [.d (di .i64 (0 : Int)), .d (di .i64 (0 : Int)), .d (di .i64 (0 : Int)), .d (.v (.slice none 0 0)), .d (.v (.slice none 0 0)), .d (.v (.slice none 0 0)), .d (.v (.slice none 0 0))], .fix 4 [.d (dbool false)], .dead, .fix 27 [.d (di .i64 a0.Kind), .d (di .i64 a0.Layout), .d (di .i64 a0.SRID), .d (eS1 a0.Flat), .d (eS2 a0.Ends), .d (eS3 a0.Endss), .d (eS0 a0.Kids)], .dead, .fix 116 [.d (di .i64 y60.geom1.geom0.layout), .d (di .i64 y60.geom1.geom0.stride), .any, .d (di .i64 a0.SRID)], .dead, .dead, .dead, .frame fr69 [(2, .ptr 1 0), (3, .ptr 2 0)], .fix 27 [.d (di .i64 (0 : Int)), .d (di .i64 (0 : Int)), .d (di .i64 (0 : Int)), .d (.v (.slice none 0 0)), .d (.v (.slice none 0 0)), .d (.v (.slice none 0 0)), .d (.v (.slice none 0 0))], .dead, .fix 27 [.d (di .i64 (8 : Int)), .d (di .i64 (0 : Int)), .d (di .i64 a0.SRID), .d (.v (.slice none 0 0)), .d (.v (.slice none 0 0)), .d (.v (.slice none 0 0)), .d (.v (.slice none 0 0))], .dead, .dead, .frame fr75 [(0, .ifc 70 (.ptr 6 0)), (2, .ptr 11 0), (3, .ptr 13 0), (70, .d (di .i64 y60.geom1.geom0.layout)), (73, .d (eS1 y73))]]) rfl ?_
  refine AO.nil ?_
  change AC _ _ _ _
  refine AC.seq ?_
  refine AC.region ?_
  refine AO.op rfl (AOp.assign rfl rfl (ltb rfl) rfl ?_)
  refine AO.nil ?_
  change AC _ _ _ _
  refine AC.ret ?_
  refine inlret (ob' := [.fix 27 [.d (di .i64 a0.Kind), .d (di .i64 a0.Layout), .d (di .i64 a0.SRID), .d (eS1 a0.Flat), .d (eS2 a0.Ends), .d (eS3 a0.Endss), .d (eS0 a0.Kids)], .fix 27 [.d (di .i64 (0 : Int)), .d (di .i64 (0 : Int)), .d (di .i64 (0 : Int)), .d (.v (.slice none 0 0)), .d (.v (.slice none 0 0)), .d (.v (.slice none 0 0)), .d (.v (.slice none 0 0))], .fix 4 [.d (dbool false)], .dead, .fix 27 [.d (di .i64 a0.Kind), .d (di .i64 a0.Layout), .d (di .i64 a0.SRID), .d (eS1 a0.Flat), .d (eS2 a0.Ends), .d (eS3 a0.Endss), .d (eS0 a0.Kids)], .dead, .fix 116 [.d (di .i64 y60.geom1.geom0.layout), .d (di .i64 y60.geom1.geom0.stride), .any, .d (di .i64 a0.SRID)], .dead, .dead, .dead, .frame fr69 [(2, .ptr 1 0), (3, .ptr 2 0)], .fix 27 [.d (di .i64 (0 : Int)), .d (di .i64 (0 : Int)), .d (di .i64 (0 : Int)), .d (.v (.slice none 0 0)), .d (.v (.slice none 0 0)), .d (.v (.slice none 0 0)), .d (.v (.slice none 0 0))], .dead, .fix 27 [.d (di .i64 (8 : Int)), .d (di .i64 (0 : Int)), .d (di .i64 a0.SRID), .d (.v (.slice none 0 0)), .d (.v (.slice none 0 0)), .d (.v (.slice none 0 0)), .d (.v (.slice none 0 0))], .dead, .dead, .dead]) (e' := [(0, .ifc 70 (.ptr 6 0)), (2, .ptr 11 0), (3, .ptr 13 0), (70, .d (di .i64 y60.geom1.geom0.layout)), (73, .d (eS1 y73))]) (r := .d (.v (.slice none 0 0))) rfl rfl rfl ?_
  change AO _ _ _ _ _
  refine AO.sub 75 rfl (SVLe.nil 1) ?_
  obtain ⟨y76, q77, h0⟩ := bind_elim h0
  refine AO.op rfl (AOp.callD rfl rfl (ltb rfl) rfl rfl (w_ints [] y76 q77) ?_)
  rintro _ rfl
  refine AO.op rfl (AOp.move rfl rfl (ltb rfl) rfl ?_)
  refine AO.op rfl (AOp.inlE [2, 3, 70, 73, 76] (EntersS.meth (by kernel_rfl) rfl rfl rfl meth70_Endss rfl rfl) Try.func86 rfl Try.ntmps86 rfl (ltb rfl) (leb rfl) rfl ?_)
  intro fr78
  refine AC.seq ?_
  refine AC.region ?_
  refine AO.op rfl (AOp.assign rfl rfl (ltb rfl) rfl ?_)
  refine AO.objs (obs' := [.fix 27 [.d (di .i64 a0.Kind), .d (di .i64 a0.Layout), .d (di .i64 a0.SRID), .d (eS1 a0.Flat), .d (eS2 a0.Ends), .d (eS3 a0.Endss), .d (eS0 a0.Kids)], .fix 27 [.d (di .i64 (0 : Int)), .d (di .i64 (0 : Int)), .d (di .i64 (0 : Int)), .d (.v (.slice none 0 0)), .d (.v (.slice none 0 0)), .d (.v (.slice none 0 0)), .d (.v (.slice none 0 0))], .fix 4 [.d (dbool false)], .dead, .fix 27 [.d (di .i64 a0.Kind), .d (di .i64 a0.Layout), .d (di .i64 a0.SRID), .d (eS1 a0.Flat), .d (eS2 a0.Ends), .d (eS3 a0.Endss), .d (eS0 a0.Kids)], .dead, .fix 116 [.d (di .i64 y60.geom1.geom0.layout), .d (di .i64 y60.geom1.geom0.stride), .any, .d (di .i64 a0.SRID)], .dead, .dead, .dead, .frame fr69 [(2, .ptr 1 0), (3, .ptr 2 0)], .fix 27 [.d (di .i64 (0 : Int)), .d (di .i64 (0 : Int)), .d (di .i64 (0 : Int)), .d (.v (.slice none 0 0)), .d (.v (.slice none 0 0)), .d (.v (.slice none 0 0)), .d (.v (.slice none 0 0))], .dead, .fix 27 [.d (di .i64 (8 : Int)), .d (di .i64 (0 : Int)), .d (di .i64 a0.SRID), .d (.v (.slice none 0 0)), .d (.v (.slice none 0 0)), .d (.v (.slice none 0 0)), .d (.v (.slice none 0 0))], .dead, .dead, .dead, .frame fr78 [(2, .ptr 11 0), (3, .ptr 13 0), (70, .d (di .i64 y60.geom1.geom0.layout)), (73, .d (eS1 y73)), (76, .d (eS2 y76))]]) rfl ?_
  refine AO.nil ?_
  change AC _ _ _ _
  refine AC.seq ?_
  refine AC.region ?_
  refine AO.op rfl (AOp.assign rfl rfl (ltb rfl) rfl ?_)
  refine AO.nil ?_
  change AC _ _ _ _
  refine AC.ret ?_
  refine inlret (ob' := [.fix 27 [.d (di .i64 a0.Kind), .d (di .i64 a0.Layout), .d (di .i64 a0.SRID), .d (eS1 a0.Flat), .d (eS2 a0.Ends), .d (eS3 a0.Endss), .d (eS0 a0.Kids)], .fix 27 [.d (di .i64 (0 : Int)), .d (di .i64 (0 : Int)), .d (di .i64 (0 : Int)), .d (.v (.slice none 0 0)), .d (.v (.slice none 0 0)), .d (.v (.slice none 0 0)), .d (.v (.slice none 0 0))], .fix 4 [.d (dbool false)], .dead, .fix 27 [.d (di .i64 a0.Kind), .d (di .i64 a0.Layout), .d (di .i64 a0.SRID), .d (eS1 a0.Flat), .d (eS2 a0.Ends), .d (eS3 a0.Endss), .d (eS0 a0.Kids)], .dead, .fix 116 [.d (di .i64 y60.geom1.geom0.layout), .d (di .i64 y60.geom1.geom0.stride), .any, .d (di .i64 a0.SRID)], .dead, .dead, .dead, .frame fr69 [(2, .ptr 1 0), (3, .ptr 2 0)], .fix 27 [.d (di .i64 (0 : Int)), .d (di .i64 (0 : Int)), .d (di .i64 (0 : Int)), .d (.v (.slice none 0 0)), .d (.v (.slice none 0 0)), .d (.v (.slice none 0 0)), .d (.v (.slice none 0 0))], .dead, .fix 27 [.d (di .i64 (8 : Int)), .d (di .i64 (0 : Int)), .d (di .i64 a0.SRID), .d (.v (.slice none 0 0)), .d (.v (.slice none 0 0)), .d (.v (.slice none 0 0)), .d (.v (.slice none 0 0))], .dead, .dead, .dead, .dead]) (e' := [(2, .ptr 11 0), (3, .ptr 13 0), (70, .d (di .i64 y60.geom1.geom0.layout)), (73, .d (eS1 y73)), (76, .d (eS2 y76))]) (r := .d (.v (.slice none 0 0))) rfl rfl rfl ?_
  change AO _ _ _ _ _
  refine AO.sub 78 rfl (SVLe.nil 1) ?_
  obtain ⟨y79, q80, h0⟩ := bind_elim h0
  refine AO.op rfl (AOp.callD rfl rfl (ltb rfl) rfl rfl (w_intss F [] y79 q80) ?_)
  rintro _ rfl
  refine AO.op rfl (AOp.fieldAddr rfl rfl (ltb rfl) rfl fo27_1 ?_)
  refine AO.op rfl (AOp.store rfl rfl rfl rfl size3 rfl rfl rfl (leb rfl) ?_)
  refine AO.op rfl (AOp.fieldAddr rfl rfl (ltb rfl) rfl fo27_3 ?_)
  refine AO.op rfl (AOp.store rfl rfl rfl rfl size22 rfl rfl rfl (leb rfl) ?_)
  refine AO.op rfl (AOp.fieldAddr rfl rfl (ltb rfl) rfl fo27_4 ?_)
  refine AO.op rfl (AOp.store rfl rfl rfl rfl size23 rfl rfl rfl (leb rfl) ?_)
  refine AO.op rfl (AOp.fieldAddr rfl rfl (ltb rfl) rfl fo27_5 ?_)
  refine AO.op rfl (AOp.store rfl rfl rfl rfl size24 rfl rfl rfl (leb rfl) ?_)
  refine AO.objs (obs' := [.fix 27 [.d (di .i64 a0.Kind), .d (di .i64 a0.Layout), .d (di .i64 a0.SRID), .d (eS1 a0.Flat), .d (eS2 a0.Ends), .d (eS3 a0.Endss), .d (eS0 a0.Kids)], .fix 27 [.d (di .i64 (0 : Int)), .d (di .i64 (0 : Int)), .d (di .i64 (0 : Int)), .d (.v (.slice none 0 0)), .d (.v (.slice none 0 0)), .d (.v (.slice none 0 0)), .d (.v (.slice none 0 0))], .fix 4 [.d (dbool false)], .dead, .fix 27 [.d (di .i64 a0.Kind), .d (di .i64 a0.Layout), .d (di .i64 a0.SRID), .d (eS1 a0.Flat), .d (eS2 a0.Ends), .d (eS3 a0.Endss), .d (eS0 a0.Kids)], .dead, .fix 116 [.d (di .i64 y60.geom1.geom0.layout), .d (di .i64 y60.geom1.geom0.stride), .any, .d (di .i64 a0.SRID)], .dead, .dead, .dead, .frame fr69 [(2, .ptr 1 0), (3, .ptr 2 0)], .fix 27 [.d (di .i64 (0 : Int)), .d (di .i64 (0 : Int)), .d (di .i64 (0 : Int)), .d (.v (.slice none 0 0)), .d (.v (.slice none 0 0)), .d (.v (.slice none 0 0)), .d (.v (.slice none 0 0))], .dead, .fix 27 [.d (di .i64 (8 : Int)), .d (di .i64 y60.geom1.geom0.layout), .d (di .i64 a0.SRID), .d (eS1 y73), .d (eS2 y76), .d (eS3 y79), .d (.v (.slice none 0 0))], .dead, .dead, .dead, .dead]) rfl ?_
  refine AO.nil ?_
  change AC _ _ _ _
  refine AC.seq ?_
  refine AC.region ?_
  refine AO.op rfl (AOp.loadN rfl rfl (ltb rfl) rfl agg27 size27 rfl (leb rfl) rfl ?_)
  refine AO.op rfl (AOp.store rfl rfl rfl rfl size27 rfl rfl rfl (leb rfl) ?_)
  refine AO.nil ?_
  change AC _ _ _ _
  refine AC.ret ?_
  refine inlret (ob' := [.fix 27 [.d (di .i64 a0.Kind), .d (di .i64 a0.Layout), .d (di .i64 a0.SRID), .d (eS1 a0.Flat), .d (eS2 a0.Ends), .d (eS3 a0.Endss), .d (eS0 a0.Kids)], .fix 27 [.d (di .i64 (0 : Int)), .d (di .i64 (0 : Int)), .d (di .i64 (0 : Int)), .d (.v (.slice none 0 0)), .d (.v (.slice none 0 0)), .d (.v (.slice none 0 0)), .d (.v (.slice none 0 0))], .fix 4 [.d (dbool false)], .dead, .fix 27 [.d (di .i64 a0.Kind), .d (di .i64 a0.Layout), .d (di .i64 a0.SRID), .d (eS1 a0.Flat), .d (eS2 a0.Ends), .d (eS3 a0.Endss), .d (eS0 a0.Kids)], .dead, .fix 116 [.d (di .i64 y60.geom1.geom0.layout), .d (di .i64 y60.geom1.geom0.stride), .any, .d (di .i64 a0.SRID)], .dead, .dead, .dead, .dead, .fix 27 [.d (di .i64 (8 : Int)), .d (di .i64 y60.geom1.geom0.layout), .d (di .i64 a0.SRID), .d (eS1 y73), .d (eS2 y76), .d (eS3 y79), .d (.v (.slice none 0 0))], .dead, .fix 27 [.d (di .i64 (8 : Int)), .d (di .i64 y60.geom1.geom0.layout), .d (di .i64 a0.SRID), .d (eS1 y73), .d (eS2 y76), .d (eS3 y79), .d (.v (.slice none 0 0))], .dead, .dead, .dead, .dead]) (e' := [(2, .ptr 1 0), (3, .ptr 2 0)]) (r := .ag [.d (di .i64 (8 : Int)), .d (di .i64 y60.geom1.geom0.layout), .d (di .i64 a0.SRID), .d (eS1 y73), .d (eS2 y76), .d (eS3 y79), .d (.v (.slice none 0 0))]) rfl rfl rfl ?_
  change AO _ _ _ _ _
  refine AO.op rfl (AOp.store rfl rfl rfl rfl size27 rfl rfl rfl (leb rfl) ?_)
  refine AO.op rfl (AOp.store rfl rfl rfl rfl size4 rfl rfl rfl (leb rfl) ?_)
  refine AO.objs (obs' := [.fix 27 [.d (di .i64 a0.Kind), .d (di .i64 a0.Layout), .d (di .i64 a0.SRID), .d (eS1 a0.Flat), .d (eS2 a0.Ends), .d (eS3 a0.Endss), .d (eS0 a0.Kids)], .fix 27 [.d (di .i64 (8 : Int)), .d (di .i64 y60.geom1.geom0.layout), .d (di .i64 a0.SRID), .d (eS1 y73), .d (eS2 y76), .d (eS3 y79), .d (.v (.slice none 0 0))], .fix 4 [.d (dbool true)], .dead, .fix 27 [.d (di .i64 a0.Kind), .d (di .i64 a0.Layout), .d (di .i64 a0.SRID), .d (eS1 a0.Flat), .d (eS2 a0.Ends), .d (eS3 a0.Endss), .d (eS0 a0.Kids)], .dead, .fix 116 [.d (di .i64 y60.geom1.geom0.layout), .d (di .i64 y60.geom1.geom0.stride), .any, .d (di .i64 a0.SRID)], .dead, .dead, .dead, .dead, .fix 27 [.d (di .i64 (8 : Int)), .d (di .i64 y60.geom1.geom0.layout), .d (di .i64 a0.SRID), .d (eS1 y73), .d (eS2 y76), .d (eS3 y79), .d (.v (.slice none 0 0))], .dead, .fix 27 [.d (di .i64 (8 : Int)), .d (di .i64 y60.geom1.geom0.layout), .d (di .i64 a0.SRID), .d (eS1 y73), .d (eS2 y76), .d (eS3 y79), .d (.v (.slice none 0 0))], .dead, .dead, .dead, .dead]) rfl ?_
  refine AO.nil ?_
  change AC _ _ _ _
  refine AC.subO 1 rfl (.cons (SVLe.refl _) (.cons (SVLe.refl _) (.cons (SVLe.refl _) (.cons (SVLe.refl _) (.cons (SVLe.refl _) (.cons (SVLe.refl _) (.cons (SVLe.nil 7) .nil))))))) ?_
  refine AC.ret ?_
  change RetQ _ _ _ .ret _
  obtain rfl := Option.some.inj h0
  refine retq rfl rfl
 exact absurd (hp2.symm.trans q59) (by decide)

set_option maxRecDepth 100000 in
set_option maxHeartbeats 4000000 in
/-- pub-orthodrome/impl.Reverse -/
theorem w_Reverse_c3 (F : Nat) (a0 : TImpl_Geom) (r0 : (TImpl_Geom × Bool)) (h0 : p_Reverse F a0 = some r0) (hp0 : (decide (a0.Kind = (1 : Int))) = false) (hp1 : (decide (a0.Kind = (2 : Int))) = false) (hp2 : (decide (a0.Kind = (8 : Int))) = false) (hp3 : (decide (a0.Kind = (3 : Int))) = true) : FnD Try.prog 14 [e_TImpl_Geom a0] (fun r => r = .tu [e_TImpl_Geom r0.1, dbool r0.2]) := by
 refine FnD.wrap (g := 31) (m := 2) (fun vs w h => idle31 vs w h) (by kernel_rfl) Try.func14 rfl Try.ntmps14 rfl (leb rfl) fun W ok => ?_
 unfold p_Reverse at h0
 refine AW.seq ?_
 refine AC.region ?_
 refine AO.op rfl (AOp.box rfl rfl (ltb rfl) rfl rfl ?_)
 refine AO.op rfl (AOp.alloc rfl rfl (ltb rfl) zero27 rfl ?_)
 refine AO.op rfl (AOp.alloc rfl rfl (ltb rfl) zero4 rfl ?_)
 refine AO.nil ?_
 refine ⟨rfl, ?_⟩
 refine AW.defer (caps := [.tmp 2, .tmp 3]) rfl rfl rfl (ltb rfl) rfl rfl rfl rfl (by kernel_rfl) rfl fun df => ?_
 refine AC.seq ?_
 refine AC.region ?_
 refine AO.op rfl (AOp.loadN rfl rfl (ltb rfl) rfl agg27 size27 rfl (leb rfl) rfl ?_)
 refine AO.op rfl (AOp.inl [2, 3] (by kernel_rfl) Try.func22 rfl Try.ntmps22 rfl rfl (ltb rfl) rfl (leb rfl) rfl ?_)
 intro fr1
 refine AC.seq ?_
 refine AC.region ?_
 refine AO.op rfl (AOp.box rfl rfl (ltb rfl) rfl rfl ?_)
 refine AO.op rfl (AOp.assign rfl rfl (ltb rfl) rfl ?_)
 refine AO.nil ?_
 change AC _ _ _ _
 refine AC.seq ?_
 refine AC.room ?_
 obtain ⟨y2, q3, h0⟩ := bind_elim h0
 refine AC.drawS [0, 1, 2, 3, 4] [4] [5, 6] (fun L => [.fix 27 [.d (di .i64 a0.Kind), .d (di .i64 a0.Layout), .d (di .i64 a0.SRID), .d (eS1 a0.Flat), .d (eS2 a0.Ends), .d (eS3 a0.Endss), .d (eS0 a0.Kids)], .fix 27 [.d (di .i64 (0 : Int)), .d (di .i64 (0 : Int)), .d (di .i64 (0 : Int)), .d (.v (.slice none 0 0)), .d (.v (.slice none 0 0)), .d (.v (.slice none 0 0)), .d (.v (.slice none 0 0))], .fix 4 [.d (dbool false)], .frame fr1 [(2, .ptr 1 0), (3, .ptr 2 0)], .fix 27 [.d (di .i64 a0.Kind), .d (di .i64 a0.Layout), .d (di .i64 a0.SRID), .d (eS1 a0.Flat), .d (eS2 a0.Ends), .d (eS3 a0.Endss), .d (eS0 a0.Kids)], bif L 4 then .grow 32 1 (List.map keS1 y2) else .dead]) [(4, SV.noO2 5 6)] mixed (by kernel_rfl) (fun L L' h => by simp only [h 4 (by decide)]) rfl ?_
 refine AS.op [1] [] [] [4] rfl rfl rfl (by kernel_rfl) (by kernel_rfl) rfl rfl (fun _ _ _ h => AOp.fieldAddr rfl rfl (ltb rfl) rfl fo27_1 h) (by kernel_rfl) ?_
 refine AS.op [8] [] [] [4] rfl rfl rfl (by kernel_rfl) (by kernel_rfl) rfl rfl (fun _ _ _ h => AOp.load1 rfl rfl (ltb rfl) rfl agg3 rfl rfl h) (by kernel_rfl) ?_
 refine AS.op [1] [] [4] [] rfl rfl rfl (by kernel_rfl) (by kernel_rfl) rfl rfl (fun _ _ _ h => AOp.fieldAddr rfl rfl (ltb rfl) rfl fo27_3 h) (by kernel_rfl) ?_
 refine AS.op [10] [] [4] [] rfl rfl rfl (by kernel_rfl) (by kernel_rfl) rfl rfl (fun _ _ _ h => AOp.load1 rfl rfl (ltb rfl) rfl agg22 rfl rfl h) (by kernel_rfl) ?_
 refine AS.mid [11] [] [4] [] rfl rfl rfl rfl (by kernel_rfl) (by kernel_rfl) rfl rfl (fun _ _ _ h => AOp.callNew rfl rfl (ltb rfl) rfl rfl (wn_floats a0.Flat y2 q3) (AO.sink 5 6 rfl rfl rfl (.cons rfl (.cons rfl (.cons rfl (.cons rfl (.cons rfl (.cons (noO2_cond rfl rfl) .nil)))))) rfl h)) (by kernel_rfl) rfl ?_
 refine AS.done ?_
 refine AO.objs (obs' := [.fix 27 [.d (di .i64 a0.Kind), .d (di .i64 a0.Layout), .d (di .i64 a0.SRID), .d (eS1 a0.Flat), .d (eS2 a0.Ends), .d (eS3 a0.Endss), .d (eS0 a0.Kids)], .fix 27 [.d (di .i64 (0 : Int)), .d (di .i64 (0 : Int)), .d (di .i64 (0 : Int)), .d (.v (.slice none 0 0)), .d (.v (.slice none 0 0)), .d (.v (.slice none 0 0)), .d (.v (.slice none 0 0))], .fix 4 [.d (dbool false)], .frame fr1 [(2, .ptr 1 0), (3, .ptr 2 0)], .fix 27 [.d (di .i64 a0.Kind), .d (di .i64 a0.Layout), .d (di .i64 a0.SRID), .d (eS1 a0.Flat), .d (eS2 a0.Ends), .d (eS3 a0.Endss), .d (eS0 a0.Kids)], .grow 32 1 (List.map keS1 y2)]) rfl ?_
 refine AO.op rfl (AOp.assign rfl rfl (ltb rfl) rfl ?_)
 refine AO.op rfl (AOp.assign rfl rfl (ltb rfl) rfl ?_)
 refine AO.objs (obs' := [.fix 27 [.d (di .i64 a0.Kind), .d (di .i64 a0.Layout), .d (di .i64 a0.SRID), .d (eS1 a0.Flat), .d (eS2 a0.Ends), .d (eS3 a0.Endss), .d (eS0 a0.Kids)], .fix 27 [.d (di .i64 (0 : Int)), .d (di .i64 (0 : Int)), .d (di .i64 (0 : Int)), .d (.v (.slice none 0 0)), .d (.v (.slice none 0 0)), .d (.v (.slice none 0 0)), .d (.v (.slice none 0 0))], .fix 4 [.d (dbool false)], .frame fr1 [(2, .ptr 1 0), (3, .ptr 2 0)], .fix 27 [.d (di .i64 a0.Kind), .d (di .i64 a0.Layout), .d (di .i64 a0.SRID), .d (eS1 a0.Flat), .d (eS2 a0.Ends), .d (eS3 a0.Endss), .d (eS0 a0.Kids)], .grow 32 1 (List.map keS1 y2)]) rfl ?_
 refine AO.nil ?_
 change AC _ _ _ _
 refine AC.seq ?_
 refine AC.seq ?_
 refine AC.region ?_
 refine AO.op rfl (AOp.fieldAddr rfl rfl (ltb rfl) rfl fo27_0 ?_)
 refine AO.op rfl (AOp.load1 rfl rfl (ltb rfl) rfl agg3 rfl rfl ?_)
 refine AO.nil ?_
 change AC _ _ _ _
 refine AC.block ?_
 refine AC.seq ?_
 refine AC.region ?_
 refine AO.op rfl (AOp.ieql rfl rfl (ltb rfl) rfl rfl ?_)
 refine AO.op rfl (AOp.assign rfl rfl (ltb rfl) rfl ?_)
 refine AO.nil ?_
 change AC _ _ _ _
 refine AC.cond rfl (fun q4 => ?_) (fun q4 => ?_)
 ·exact absurd (hp0.symm.trans q4) (by decide)
 replace h0 := cF h0 q4
 refine AC.seq ?_
 refine AC.region ?_
 refine AO.op rfl (AOp.ieql rfl rfl (ltb rfl) rfl rfl ?_)
 refine AO.op rfl (AOp.assign rfl rfl (ltb rfl) rfl ?_)
 refine AO.nil ?_
 change AC _ _ _ _
 refine AC.cond rfl (fun q5 => ?_) (fun q5 => ?_)
 ·exact absurd (hp1.symm.trans q5) (by decide)
 replace h0 := cF h0 q5
 refine AC.seq ?_
 refine AC.region ?_
 refine AO.op rfl (AOp.ieql rfl rfl (ltb rfl) rfl rfl ?_)
 refine AO.op rfl (AOp.assign rfl rfl (ltb rfl) rfl ?_)
 refine AO.nil ?_
 change AC _ _ _ _
 refine AC.cond rfl (fun q59 => ?_) (fun q59 => ?_)
 ·exact absurd (hp2.symm.trans q59) (by decide)
 replace h0 := cF h0 q59
 refine AC.seq ?_
 refine AC.region ?_
 refine AO.op rfl (AOp.ieql rfl rfl (ltb rfl) rfl rfl ?_)
 refine AO.op rfl (AOp.assign rfl rfl (ltb rfl) rfl ?_)
 refine AO.nil ?_
 change AC _ _ _ _
 refine AC.cond rfl (fun q113 => ?_) (fun q113 => ?_)
 ·replace h0 := cT h0 q113
  refine AC.seq ?_
  refine AC.room ?_
  obtain ⟨y114, q115, h0⟩ := bind_elim h0
  obtain ⟨y116, q117, h0⟩ := bind_elim h0
  refine AC.drawS [0, 1, 2, 3, 4, 5, 6, 7] [5] [8, 9, 10] (fun L => [.fix 27 [.d (di .i64 a0.Kind), .d (di .i64 a0.Layout), .d (di .i64 a0.SRID), .d (eS1 a0.Flat), .d (eS2 a0.Ends), .d (eS3 a0.Endss), .d (eS0 a0.Kids)], .fix 27 [.d (di .i64 (0 : Int)), .d (di .i64 (0 : Int)), .d (di .i64 (0 : Int)), .d (.v (.slice none 0 0)), .d (.v (.slice none 0 0)), .d (.v (.slice none 0 0)), .d (.v (.slice none 0 0))], .fix 4 [.d (dbool false)], .frame fr1 [(2, .ptr 1 0), (3, .ptr 2 0)], .fix 27 [.d (di .i64 a0.Kind), .d (di .i64 a0.Layout), .d (di .i64 a0.SRID), .d (eS1 a0.Flat), .d (eS2 a0.Ends), .d (eS3 a0.Endss), .d (eS0 a0.Kids)], .grow 32 1 (List.map keS1 y2), bif L 5 then .fix 97 [.d (di .i64 y116.geom2.geom1.geom0.layout), .d (di .i64 y116.geom2.geom1.geom0.stride), .own 5, .d (di .i64 y116.geom2.geom1.geom0.srid), .d (eS2 y116.geom2.ends)] else .dead]) [(5, SV.noO2 6 7)] mixed (by kernel_rfl) (fun L L' h => by simp only [h 5 (by decide)]) rfl ?_
  refine AS.op [3] [] [5] [] rfl rfl rfl (by kernel_rfl) (by kernel_rfl) rfl rfl (fun _ _ _ h => AOp.move rfl rfl (ltb rfl) rfl h) (by kernel_rfl) ?_
  refine AS.op [4] [] [5] [] rfl rfl rfl (by kernel_rfl) (by kernel_rfl) rfl rfl (fun _ _ _ h => AOp.move rfl rfl (ltb rfl) rfl h) (by kernel_rfl) ?_
  refine AS.op [1] [] [5] [] rfl rfl rfl (by kernel_rfl) (by kernel_rfl) rfl rfl (fun _ _ _ h => AOp.fieldAddr rfl rfl (ltb rfl) rfl fo27_4 h) (by kernel_rfl) ?_
  refine AS.op [46] [] [5] [] rfl rfl rfl (by kernel_rfl) (by kernel_rfl) rfl rfl (fun _ _ _ h => AOp.load1 rfl rfl (ltb rfl) rfl agg23 rfl rfl h) (by kernel_rfl) ?_
  refine AS.op [47] [] [5] [] rfl rfl rfl (by kernel_rfl) (by kernel_rfl) rfl rfl (fun _ _ _ h => AOp.callD rfl rfl (ltb rfl) rfl rfl (w_ints a0.Ends y114 q115) (by rintro _ rfl; exact h)) (by kernel_rfl) ?_
  refine AS.mid [44, 45, 48] [] [5] [] rfl rfl rfl rfl (by kernel_rfl) (by kernel_rfl) rfl rfl (fun _ _ _ h => AOp.callAT (p := 5) (n := y2.length) (cz := [some (di .i64 y116.geom2.geom1.geom0.layout), some (di .i64 y116.geom2.geom1.geom0.stride), none, some (di .i64 y116.geom2.geom1.geom0.srid), some (eS2 y116.geom2.ends)]) rfl rfl (ltb rfl) rfl rfl rfl (by decide) (len1 _ _) (fun sa sc => wt_NewPolygonFlat sa sc a0.Layout y2.length y114 y116 q117) rfl (AO.sink 6 7 rfl rfl rfl (.cons rfl (.cons rfl (.cons rfl (.cons rfl (.cons rfl (.cons rfl (.cons (noO2_cond rfl rfl) .nil))))))) rfl h)) (by kernel_rfl) rfl ?_
  refine AS.op [1] [] [] [5] rfl rfl rfl (by kernel_rfl) (by kernel_rfl) rfl rfl (fun _ _ _ h => AOp.fieldAddr rfl rfl (ltb rfl) rfl fo27_2 h) (by kernel_rfl) ?_
  refine AS.op [50] [] [] [5] rfl rfl rfl (by kernel_rfl) (by kernel_rfl) rfl rfl (fun _ _ _ h => AOp.load1 rfl rfl (ltb rfl) rfl agg3 rfl rfl h) (by kernel_rfl) ?_
  refine AS.done ?_
  refine AO.objs (obs' := [.fix 27 [.d (di .i64 a0.Kind), .d (di .i64 a0.Layout), .d (di .i64 a0.SRID), .d (eS1 a0.Flat), .d (eS2 a0.Ends), .d (eS3 a0.Endss), .d (eS0 a0.Kids)], .fix 27 [.d (di .i64 (0 : Int)), .d (di .i64 (0 : Int)), .d (di .i64 (0 : Int)), .d (.v (.slice none 0 0)), .d (.v (.slice none 0 0)), .d (.v (.slice none 0 0)), .d (.v (.slice none 0 0))], .fix 4 [.d (dbool false)], .frame fr1 [(2, .ptr 1 0), (3, .ptr 2 0)], .fix 27 [.d (di .i64 a0.Kind), .d (di .i64 a0.Layout), .d (di .i64 a0.SRID), .d (eS1 a0.Flat), .d (eS2 a0.Ends), .d (eS3 a0.Endss), .d (eS0 a0.Kids)], .grow 32 1 (List.map keS1 y2), .fix 97 [.d (di .i64 y116.geom2.geom1.geom0.layout), .d (di .i64 y116.geom2.geom1.geom0.stride), .own 5, .d (di .i64 y116.geom2.geom1.geom0.srid), .d (eS2 y116.geom2.ends)]]) rfl ?_
  refine AO.op rfl (AOp.inl [2] (by kernel_rfl) Try.func47 rfl Try.ntmps47 rfl rfl (ltb rfl) rfl (leb rfl) rfl ?_)
  intro fr118
  refine AC.seq ?_
  refine AC.region ?_
  refine AO.op rfl (AOp.assign rfl rfl (ltb rfl) rfl ?_)
  refine AO.objs (obs' := [.fix 27 [.d (di .i64 a0.Kind), .d (di .i64 a0.Layout), .d (di .i64 a0.SRID), .d (eS1 a0.Flat), .d (eS2 a0.Ends), .d (eS3 a0.Endss), .d (eS0 a0.Kids)], .fix 27 [.d (di .i64 (0 : Int)), .d (di .i64 (0 : Int)), .d (di .i64 (0 : Int)), .d (.v (.slice none 0 0)), .d (.v (.slice none 0 0)), .d (.v (.slice none 0 0)), .d (.v (.slice none 0 0))], .fix 4 [.d (dbool false)], .frame fr1 [(2, .ptr 1 0), (3, .ptr 2 0)], .fix 27 [.d (di .i64 a0.Kind), .d (di .i64 a0.Layout), .d (di .i64 a0.SRID), .d (eS1 a0.Flat), .d (eS2 a0.Ends), .d (eS3 a0.Endss), .d (eS0 a0.Kids)], .grow 32 1 (List.map keS1 y2), .fix 97 [.d (di .i64 y116.geom2.geom1.geom0.layout), .d (di .i64 y116.geom2.geom1.geom0.stride), .own 5, .d (di .i64 y116.geom2.geom1.geom0.srid), .d (eS2 y116.geom2.ends)], .frame fr118 [(2, .d (.v (.nilIface)))]]) rfl ?_
  refine AO.nil ?_
  change AC _ _ _ _
  refine AC.seq ?_
  refine AC.region ?_
  refine AO.op rfl (AOp.move rfl rfl (ltb rfl) rfl ?_)
  refine AO.op rfl (AOp.move rfl rfl (ltb rfl) rfl ?_)
  refine AO.op rfl (AOp.nilCheck rfl rfl (ltb rfl) rfl rfl ?_)
  refine AO.op rfl (AOp.fieldAddr rfl rfl (ltb rfl) rfl fo97_0 ?_)
  refine AO.op rfl (AOp.fieldAddr rfl rfl (ltb rfl) rfl fo95_0 ?_)
  refine AO.op rfl (AOp.fieldAddr rfl rfl (ltb rfl) rfl fo93_0 ?_)
  refine AO.op rfl (AOp.fieldAddr rfl rfl (ltb rfl) rfl fo91_3 ?_)
  refine AO.op rfl (AOp.store rfl rfl rfl rfl size3 rfl rfl rfl (leb rfl) ?_)
  refine AO.nil ?_
  change AC _ _ _ _
  refine AC.seq ?_
  refine AC.region ?_
  refine AO.op rfl (AOp.move rfl rfl (ltb rfl) rfl ?_)
  refine AO.op rfl (AOp.assign rfl rfl (ltb rfl) rfl ?_)
  refine AO.nil ?_
  change AC _ _ _ _
  refine AC.ret ?_
  refine inlret (ob' := [.fix 27 [.d (di .i64 a0.Kind), .d (di .i64 a0.Layout), .d (di .i64 a0.SRID), .d (eS1 a0.Flat), .d (eS2 a0.Ends), .d (eS3 a0.Endss), .d (eS0 a0.Kids)], .fix 27 [.d (di .i64 (0 : Int)), .d (di .i64 (0 : Int)), .d (di .i64 (0 : Int)), .d (.v (.slice none 0 0)), .d (.v (.slice none 0 0)), .d (.v (.slice none 0 0)), .d (.v (.slice none 0 0))], .fix 4 [.d (dbool false)], .frame fr1 [(2, .ptr 1 0), (3, .ptr 2 0)], .fix 27 [.d (di .i64 a0.Kind), .d (di .i64 a0.Layout), .d (di .i64 a0.SRID), .d (eS1 a0.Flat), .d (eS2 a0.Ends), .d (eS3 a0.Endss), .d (eS0 a0.Kids)], .grow 32 1 (List.map keS1 y2), .fix 97 [.d (di .i64 y116.geom2.geom1.geom0.layout), .d (di .i64 y116.geom2.geom1.geom0.stride), .own 5, .d (di .i64 a0.SRID), .d (eS2 y116.geom2.ends)], .dead]) (e' := [(2, .d (.v (.nilIface)))]) (r := .ptr 6 0) rfl rfl rfl ?_
  change AO _ _ _ _ _
  refine AO.op rfl (AOp.makeIfc rfl rfl (ltb rfl) rfl conc49 ?_)
  refine AO.op rfl (AOp.assign rfl rfl (ltb rfl) rfl ?_)
  refine AO.objs (obs' := [.fix 27 [.d (di .i64 a0.Kind), .d (di .i64 a0.Layout), .d (di .i64 a0.SRID), .d (eS1 a0.Flat), .d (eS2 a0.Ends), .d (eS3 a0.Endss), .d (eS0 a0.Kids)], .fix 27 [.d (di .i64 (0 : Int)), .d (di .i64 (0 : Int)), .d (di .i64 (0 : Int)), .d (.v (.slice none 0 0)), .d (.v (.slice none 0 0)), .d (.v (.slice none 0 0)), .d (.v (.slice none 0 0))], .fix 4 [.d (dbool false)], .frame fr1 [(2, .ptr 1 0), (3, .ptr 2 0)], .fix 27 [.d (di .i64 a0.Kind), .d (di .i64 a0.Layout), .d (di .i64 a0.SRID), .d (eS1 a0.Flat), .d (eS2 a0.Ends), .d (eS3 a0.Endss), .d (eS0 a0.Kids)], .grow 32 1 (List.map keS1 y2), .fix 97 [.d (di .i64 y116.geom2.geom1.geom0.layout), .d (di .i64 y116.geom2.geom1.geom0.stride), .own 5, .d (di .i64 a0.SRID), .d (eS2 y116.geom2.ends)], .dead]) rfl ?_
  refine AO.nil ?_
  change AC _ _ _ _
  refine AC.ret ?_
  refine inlret (ob' := [.fix 27 [.d (di .i64 a0.Kind), .d (di .i64 a0.Layout), .d (di .i64 a0.SRID), .d (eS1 a0.Flat), .d (eS2 a0.Ends), .d (eS3 a0.Endss), .d (eS0 a0.Kids)], .fix 27 [.d (di .i64 (0 : Int)), .d (di .i64 (0 : Int)), .d (di .i64 (0 : Int)), .d (.v (.slice none 0 0)), .d (.v (.slice none 0 0)), .d (.v (.slice none 0 0)), .d (.v (.slice none 0 0))], .fix 4 [.d (dbool false)], .dead, .fix 27 [.d (di .i64 a0.Kind), .d (di .i64 a0.Layout), .d (di .i64 a0.SRID), .d (eS1 a0.Flat), .d (eS2 a0.Ends), .d (eS3 a0.Endss), .d (eS0 a0.Kids)], .grow 32 1 (List.map keS1 y2), .fix 97 [.d (di .i64 y116.geom2.geom1.geom0.layout), .d (di .i64 y116.geom2.geom1.geom0.stride), .own 5, .d (di .i64 a0.SRID), .d (eS2 y116.geom2.ends)], .dead]) (e' := [(2, .ptr 1 0), (3, .ptr 2 0)]) (r := .ifc 49 (.ptr 6 0)) rfl rfl rfl ?_
  change AO _ _ _ _ _
  refine AO.op rfl (AOp.assign rfl rfl (ltb rfl) rfl ?_)
  refine AO.objs (obs' := [.fix 27 [.d (di .i64 a0.Kind), .d (di .i64 a0.Layout), .d (di .i64 a0.SRID), .d (eS1 a0.Flat), .d (eS2 a0.Ends), .d (eS3 a0.Endss), .d (eS0 a0.Kids)], .fix 27 [.d (di .i64 (0 : Int)), .d (di .i64 (0 : Int)), .d (di .i64 (0 : Int)), .d (.v (.slice none 0 0)), .d (.v (.slice none 0 0)), .d (.v (.slice none 0 0)), .d (.v (.slice none 0 0))], .fix 4 [.d (dbool false)], .dead, .fix 27 [.d (di .i64 a0.Kind), .d (di .i64 a0.Layout), .d (di .i64 a0.SRID), .d (eS1 a0.Flat), .d (eS2 a0.Ends), .d (eS3 a0.Endss), .d (eS0 a0.Kids)], .grow 32 1 (List.map keS1 y2), .fix 97 [.d (di .i64 y116.geom2.geom1.geom0.layout), .d (di .i64 y116.geom2.geom1.geom0.stride), .own 5, .d (di .i64 a0.SRID), .d (eS2 y116.geom2.ends)], .dead]) rfl ?_
  refine AO.nil ?_
  change AC _ _ _ _
  refine AC.seq ?_
  refine AC.region ?_
  refine AO.op rfl (AOp.move rfl rfl (ltb rfl) rfl ?_)
  refine AO.op rfl (AOp.assertYes rfl rfl (ltb rfl) rfl rfl pass49_55 rfl ?_)
  refine AO.op rfl (AOp.move rfl rfl (ltb rfl) rfl ?_)
  first | refine AO.op rfl (AOp.extractD rfl rfl (ltb rfl) rfl rfl ?_) | refine AO.op rfl (AOp.extract rfl rfl (ltb rfl) rfl rfl ?_)
  first | refine AO.op rfl (AOp.extractD rfl rfl (ltb rfl) rfl rfl ?_) | refine AO.op rfl (AOp.extract rfl rfl (ltb rfl) rfl rfl ?_)
  refine AO.op rfl (AOp.assign rfl rfl (ltb rfl) rfl ?_)
  refine AO.op rfl (AOp.assign rfl rfl (ltb rfl) rfl ?_)
  refine AO.nil ?_
  change AC _ _ _ _
  refine AC.seq ?_
  refine AC.seq ?_
  refine AC.region ?_
  refine AO.op rfl (AOp.move rfl rfl (ltb rfl) rfl ?_)
  refine AO.op rfl (AOp.bnot rfl rfl (ltb rfl) rfl ?_)
  refine AO.nil ?_
  change AC _ _ _ _
  refine AC.condF rfl rfl ?_
  refine AC.skip ?_
  change AC _ _ _ _
  refine AC.seq ?_
  refine AC.region ?_
  refine AO.op rfl (AOp.move rfl rfl (ltb rfl) rfl ?_)
  refine AO.op rfl (AOp.inlE [2, 3, 4] (EntersS.meth (by kernel_rfl) rfl rfl rfl meth49_Reverse rfl rfl) Try.func89 rfl Try.ntmps89 rfl (ltb rfl) (leb rfl) rfl ?_)
  intro fr119
  refine AC.draw 16 mixed (by kernel_rfl) ?_
  refine AD.op [0] rfl (by kernel_rfl) rfl rfl (fun _ _ h => AOp.move rfl rfl (ltb rfl) rfl h) ?_
  refine AD.op [2] rfl (by kernel_rfl) rfl rfl (fun _ _ h => AOp.nilCheck rfl rfl (ltb rfl) rfl rfl h) ?_
  refine AD.op [3] rfl (by kernel_rfl) rfl rfl (fun _ _ h => AOp.fieldAddr rfl rfl (ltb rfl) rfl fo95_0 h) ?_
  refine AD.op [4] rfl (by kernel_rfl) rfl rfl (fun _ _ h => AOp.fieldAddr rfl rfl (ltb rfl) rfl fo93_0 h) ?_
  refine AD.op [5] rfl (by kernel_rfl) rfl rfl (fun _ _ h => AOp.fieldAddr rfl rfl (ltb rfl) rfl fo91_2 h) ?_
  refine AD.op [6] rfl (by kernel_rfl) rfl rfl (fun _ _ h => AOp.load1 rfl rfl (ltb rfl) rfl agg22 rfl rfl h) ?_
  refine AD.op [0] rfl (by kernel_rfl) rfl rfl (fun _ _ h => AOp.move rfl rfl (ltb rfl) rfl h) ?_
  refine AD.op [8] rfl (by kernel_rfl) rfl rfl (fun _ _ h => AOp.nilCheck rfl rfl (ltb rfl) rfl rfl h) ?_
  refine AD.op [9] rfl (by kernel_rfl) rfl rfl (fun _ _ h => AOp.fieldAddr rfl rfl (ltb rfl) rfl fo95_1 h) ?_
  refine AD.op [10] rfl (by kernel_rfl) rfl rfl (fun _ _ h => AOp.load1 rfl rfl (ltb rfl) rfl agg23 rfl rfl h) ?_
  refine AD.op [0] rfl (by kernel_rfl) rfl rfl (fun _ _ h => AOp.move rfl rfl (ltb rfl) rfl h) ?_
  refine AD.op [12] rfl (by kernel_rfl) rfl rfl (fun _ _ h => AOp.nilCheck rfl rfl (ltb rfl) rfl rfl h) ?_
  refine AD.op [13] rfl (by kernel_rfl) rfl rfl (fun _ _ h => AOp.fieldAddr rfl rfl (ltb rfl) rfl fo95_0 h) ?_
  refine AD.op [14] rfl (by kernel_rfl) rfl rfl (fun _ _ h => AOp.fieldAddr rfl rfl (ltb rfl) rfl fo93_0 h) ?_
  refine AD.op [15] rfl (by kernel_rfl) rfl rfl (fun _ _ h => AOp.fieldAddr rfl rfl (ltb rfl) rfl fo91_1 h) ?_
  refine AD.op [16] rfl (by kernel_rfl) rfl rfl (fun _ _ h => AOp.load1 rfl rfl (ltb rfl) rfl agg3 rfl rfl h) ?_
  refine AD.done ?_
  refine AO.op rfl (AOp.inl [] (by kernel_rfl) Try.func92 rfl Try.ntmps92 rfl rfl (ltb rfl) rfl (leb rfl) rfl ?_)
  intro fr120
  refine AC.seq ?_
  refine AC.region ?_
  refine AO.op rfl (AOp.move rfl rfl (ltb rfl) rfl ?_)
  refine AO.op rfl (AOp.lenDs (n := y116.geom2.ends.length) (cells := (List.map keS2 y116.geom2.ends)) rfl rfl (ltb rfl) rfl el23 (by decide) (len1 _ _) ?_)
  refine AO.op rfl (AOp.move rfl rfl (ltb rfl) rfl ?_)
  refine AO.objs (obs' := [.fix 27 [.d (di .i64 a0.Kind), .d (di .i64 a0.Layout), .d (di .i64 a0.SRID), .d (eS1 a0.Flat), .d (eS2 a0.Ends), .d (eS3 a0.Endss), .d (eS0 a0.Kids)], .fix 27 [.d (di .i64 (0 : Int)), .d (di .i64 (0 : Int)), .d (di .i64 (0 : Int)), .d (.v (.slice none 0 0)), .d (.v (.slice none 0 0)), .d (.v (.slice none 0 0)), .d (.v (.slice none 0 0))], .fix 4 [.d (dbool false)], .dead, .fix 27 [.d (di .i64 a0.Kind), .d (di .i64 a0.Layout), .d (di .i64 a0.SRID), .d (eS1 a0.Flat), .d (eS2 a0.Ends), .d (eS3 a0.Endss), .d (eS0 a0.Kids)], .grow 32 1 (List.map keS1 y2), .fix 97 [.d (di .i64 y116.geom2.geom1.geom0.layout), .d (di .i64 y116.geom2.geom1.geom0.stride), .own 5, .d (di .i64 a0.SRID), .d (eS2 y116.geom2.ends)], .dead, .frame fr119 [(2, .ptr 1 0), (3, .ptr 2 0), (4, .ifc 49 (.ptr 6 0))], .frame fr120 []]) rfl ?_
  refine AO.nil ?_
  change AC _ _ _ _
  obtain ⟨o121, l122, h0⟩ := bind_elim h0
  refine AC.joinE (V := (List Nat)) [] [] 10 (fun g123 => []) (fun g123 => [.fix 27 [.d (di .i64 a0.Kind), .d (di .i64 a0.Layout), .d (di .i64 a0.SRID), .d (eS1 a0.Flat), .d (eS2 a0.Ends), .d (eS3 a0.Endss), .d (eS0 a0.Kids)], .fix 27 [.d (di .i64 (0 : Int)), .d (di .i64 (0 : Int)), .d (di .i64 (0 : Int)), .d (.v (.slice none 0 0)), .d (.v (.slice none 0 0)), .d (.v (.slice none 0 0)), .d (.v (.slice none 0 0))], .fix 4 [.d (dbool false)], .dead, .fix 27 [.d (di .i64 a0.Kind), .d (di .i64 a0.Layout), .d (di .i64 a0.SRID), .d (eS1 a0.Flat), .d (eS2 a0.Ends), .d (eS3 a0.Endss), .d (eS0 a0.Kids)], .grow 32 1 (List.map keS1 g123), .fix 97 [.d (di .i64 y116.geom2.geom1.geom0.layout), .d (di .i64 y116.geom2.geom1.geom0.stride), .own 5, .d (di .i64 a0.SRID), .d (eS2 y116.geom2.ends)], .dead, .frame fr119 [(2, .ptr 1 0), (3, .ptr 2 0), (4, .ifc 49 (.ptr 6 0))], .frame fr120 []]) (fun g123 => (p_Reverse_k9 a0 F y116) g123 = some r0) rfl ?_ ?_
  ·refine AC.block ?_
   refine AC.loopP (V := (Int × Int × (List Nat))) (p_Reverse_l10 F y116) o121 [0, 3, 10, 11] [1, 12] 10 (fun g136 => [(1, .d (di .i64 g136.1)), (12, .d (di .i64 g136.2.1))]) (fun g136 => [.fix 27 [.d (di .i64 a0.Kind), .d (di .i64 a0.Layout), .d (di .i64 a0.SRID), .d (eS1 a0.Flat), .d (eS2 a0.Ends), .d (eS3 a0.Endss), .d (eS0 a0.Kids)], .fix 27 [.d (di .i64 (0 : Int)), .d (di .i64 (0 : Int)), .d (di .i64 (0 : Int)), .d (.v (.slice none 0 0)), .d (.v (.slice none 0 0)), .d (.v (.slice none 0 0)), .d (.v (.slice none 0 0))], .fix 4 [.d (dbool false)], .dead, .fix 27 [.d (di .i64 a0.Kind), .d (di .i64 a0.Layout), .d (di .i64 a0.SRID), .d (eS1 a0.Flat), .d (eS2 a0.Ends), .d (eS3 a0.Endss), .d (eS0 a0.Kids)], .grow 32 1 (List.map keS1 g136.2.2), .fix 97 [.d (di .i64 y116.geom2.geom1.geom0.layout), .d (di .i64 y116.geom2.geom1.geom0.stride), .own 5, .d (di .i64 a0.SRID), .d (eS2 y116.geom2.ends)], .dead, .frame fr119 [(2, .ptr 1 0), (3, .ptr 2 0), (4, .ifc 49 (.ptr 6 0))], .frame fr120 []]) F ((0 : Int), (0 : Int), y2) l122 rfl rfl (LeL.refl _) rfl rfl ?_
   intro n138 g136 h1
   unfold p_Reverse_l10 at h1
   refine AC.seq ?_
   refine AC.region ?_
   refine AO.op rfl (AOp.ilss rfl rfl (ltb rfl) rfl rfl ?_)
   refine AO.nil ?_
   change AC _ _ _ _
   refine AC.seq ?_
   refine AC.cond rfl (fun q139 => ?_) (fun q139 => ?_)
   ·replace h1 := cT h1 q139
    refine AC.skip ?_
    change AC _ _ _ _
    refine AC.seq ?_
    refine AC.block ?_
    refine AC.seq ?_
    refine AC.region ?_
    obtain ⟨x140, q141, h1⟩ := idx_elim h1
    refine AO.op rfl (AOp.indexDs (cells := (List.map keS2 y116.geom2.ends)) rfl rfl (ltb rfl) rfl rfl el23 (by decide) q141.1 (lt1 q141.2) ?_)
    refine AO.op rfl (AOp.loadEp rfl rfl (ltb rfl) rfl agg3 (at1 q141.2) ?_)
    refine AO.op rfl (AOp.assign rfl rfl (ltb rfl) rfl ?_)
    refine AO.nil ?_
    change AC _ _ _ _
    refine AC.seq ?_
    refine AC.region ?_
    refine AO.op rfl (AOp.move rfl rfl (ltb rfl) rfl ?_)
    refine AO.op rfl (AOp.move rfl rfl (ltb rfl) rfl ?_)
    refine AO.op rfl (AOp.move rfl rfl (ltb rfl) rfl ?_)
    refine AO.op rfl (AOp.move rfl rfl (ltb rfl) rfl ?_)
    refine AO.op rfl (AOp.inl [0, 3, 9, 10, 11, 12] (by kernel_rfl) Try.func93 rfl Try.ntmps93 rfl rfl (ltb rfl) rfl (leb rfl) rfl ?_)
    intro fr142
    refine AC.seq ?_
    refine AC.region ?_
    refine AO.op rfl (AOp.move rfl rfl (ltb rfl) rfl ?_)
    refine AO.op rfl (AOp.move rfl rfl (ltb rfl) rfl ?_)
    obtain ⟨q143, h1⟩ := need_elim h1
    refine AO.op rfl (AOp.iadd rfl rfl (ltb rfl) rfl rfl rfl q143.1 q143.2 ?_)
    refine AO.op rfl (AOp.move rfl rfl (ltb rfl) rfl ?_)
    refine AO.op rfl (AOp.assign rfl rfl (ltb rfl) rfl ?_)
    refine AO.op rfl (AOp.assign rfl rfl (ltb rfl) rfl ?_)
    refine AO.objs (obs' := [.fix 27 [.d (di .i64 a0.Kind), .d (di .i64 a0.Layout), .d (di .i64 a0.SRID), .d (eS1 a0.Flat), .d (eS2 a0.Ends), .d (eS3 a0.Endss), .d (eS0 a0.Kids)], .fix 27 [.d (di .i64 (0 : Int)), .d (di .i64 (0 : Int)), .d (di .i64 (0 : Int)), .d (.v (.slice none 0 0)), .d (.v (.slice none 0 0)), .d (.v (.slice none 0 0)), .d (.v (.slice none 0 0))], .fix 4 [.d (dbool false)], .dead, .fix 27 [.d (di .i64 a0.Kind), .d (di .i64 a0.Layout), .d (di .i64 a0.SRID), .d (eS1 a0.Flat), .d (eS2 a0.Ends), .d (eS3 a0.Endss), .d (eS0 a0.Kids)], .grow 32 1 (List.map keS1 g136.2.2), .fix 97 [.d (di .i64 y116.geom2.geom1.geom0.layout), .d (di .i64 y116.geom2.geom1.geom0.stride), .own 5, .d (di .i64 a0.SRID), .d (eS2 y116.geom2.ends)], .dead, .frame fr119 [(2, .ptr 1 0), (3, .ptr 2 0), (4, .ifc 49 (.ptr 6 0))], .frame fr120 [], .frame fr142 [(0, .own 5), (3, .d (di .i64 y116.geom2.geom1.geom0.stride)), (9, .d (di .i64 x140)), (10, .d (eS2 y116.geom2.ends)), (11, .d (di .i64 ((y116.geom2.ends.length : Nat) : Int))), (12, .d (di .i64 g136.2.1))]]) rfl ?_
    refine AO.nil ?_
    change AC _ _ _ _
    obtain ⟨o144, l145, h1⟩ := bind_elim h1
    refine AC.joinE (V := (List Nat)) [] [] 11 (fun g146 => []) (fun g146 => [.fix 27 [.d (di .i64 a0.Kind), .d (di .i64 a0.Layout), .d (di .i64 a0.SRID), .d (eS1 a0.Flat), .d (eS2 a0.Ends), .d (eS3 a0.Endss), .d (eS0 a0.Kids)], .fix 27 [.d (di .i64 (0 : Int)), .d (di .i64 (0 : Int)), .d (di .i64 (0 : Int)), .d (.v (.slice none 0 0)), .d (.v (.slice none 0 0)), .d (.v (.slice none 0 0)), .d (.v (.slice none 0 0))], .fix 4 [.d (dbool false)], .dead, .fix 27 [.d (di .i64 a0.Kind), .d (di .i64 a0.Layout), .d (di .i64 a0.SRID), .d (eS1 a0.Flat), .d (eS2 a0.Ends), .d (eS3 a0.Endss), .d (eS0 a0.Kids)], .grow 32 1 (List.map keS1 g146), .fix 97 [.d (di .i64 y116.geom2.geom1.geom0.layout), .d (di .i64 y116.geom2.geom1.geom0.stride), .own 5, .d (di .i64 a0.SRID), .d (eS2 y116.geom2.ends)], .dead, .frame fr119 [(2, .ptr 1 0), (3, .ptr 2 0), (4, .ifc 49 (.ptr 6 0))], .frame fr120 [], .frame fr142 [(0, .own 5), (3, .d (di .i64 y116.geom2.geom1.geom0.stride)), (9, .d (di .i64 x140)), (10, .d (eS2 y116.geom2.ends)), (11, .d (di .i64 ((y116.geom2.ends.length : Nat) : Int))), (12, .d (di .i64 g136.2.1))]]) (fun g146 => (p_Reverse_k11 g136 (iter (p_Reverse_l10 F y116) n138) x140) g146 = some o121) rfl ?_ ?_
    ·refine AC.block ?_
     refine AC.loopP (V := (Int × Int × (List Nat))) (p_Reverse_l12 F y116) o144 [0, 3] [8, 9] 11 (fun g148 => [(8, .d (di .i64 g148.1)), (9, .d (di .i64 g148.2.1))]) (fun g148 => [.fix 27 [.d (di .i64 a0.Kind), .d (di .i64 a0.Layout), .d (di .i64 a0.SRID), .d (eS1 a0.Flat), .d (eS2 a0.Ends), .d (eS3 a0.Endss), .d (eS0 a0.Kids)], .fix 27 [.d (di .i64 (0 : Int)), .d (di .i64 (0 : Int)), .d (di .i64 (0 : Int)), .d (.v (.slice none 0 0)), .d (.v (.slice none 0 0)), .d (.v (.slice none 0 0)), .d (.v (.slice none 0 0))], .fix 4 [.d (dbool false)], .dead, .fix 27 [.d (di .i64 a0.Kind), .d (di .i64 a0.Layout), .d (di .i64 a0.SRID), .d (eS1 a0.Flat), .d (eS2 a0.Ends), .d (eS3 a0.Endss), .d (eS0 a0.Kids)], .grow 32 1 (List.map keS1 g148.2.2), .fix 97 [.d (di .i64 y116.geom2.geom1.geom0.layout), .d (di .i64 y116.geom2.geom1.geom0.stride), .own 5, .d (di .i64 a0.SRID), .d (eS2 y116.geom2.ends)], .dead, .frame fr119 [(2, .ptr 1 0), (3, .ptr 2 0), (4, .ifc 49 (.ptr 6 0))], .frame fr120 [], .frame fr142 [(0, .own 5), (3, .d (di .i64 y116.geom2.geom1.geom0.stride)), (9, .d (di .i64 x140)), (10, .d (eS2 y116.geom2.ends)), (11, .d (di .i64 ((y116.geom2.ends.length : Nat) : Int))), (12, .d (di .i64 g136.2.1))]]) F ((g136.1 + y116.geom2.geom1.geom0.stride), x140, g136.2.2) l145 rfl rfl (LeL.refl _) rfl rfl ?_
     intro n150 g148 h2
     unfold p_Reverse_l12 at h2
     refine AC.seq ?_
     refine AC.seq ?_
     refine AC.region ?_
     refine AO.op rfl (AOp.move rfl rfl (ltb rfl) rfl ?_)
     refine AO.op rfl (AOp.move rfl rfl (ltb rfl) rfl ?_)
     refine AO.op rfl (AOp.ileq rfl rfl (ltb rfl) rfl rfl ?_)
     refine AO.nil ?_
     change AC _ _ _ _
     refine AC.cond rfl (fun q151 => ?_) (fun q151 => ?_)
     ·replace h2 := cT h2 q151
      refine AC.skip ?_
      change AC _ _ _ _
      refine AC.seq ?_
      refine AC.block ?_
      refine AC.seq ?_
      refine AC.region ?_
      refine AO.op rfl (AOp.move rfl rfl (ltb rfl) rfl ?_)
      refine AO.op rfl (AOp.move rfl rfl (ltb rfl) rfl ?_)
      refine AO.nil ?_
      change AC _ _ _ _
      obtain ⟨o152, l153, h2⟩ := bind_elim h2
      refine AC.joinE (V := (List Nat)) [0, 3, 8, 9] [] 11 (fun g154 => []) (fun g154 => [.fix 27 [.d (di .i64 a0.Kind), .d (di .i64 a0.Layout), .d (di .i64 a0.SRID), .d (eS1 a0.Flat), .d (eS2 a0.Ends), .d (eS3 a0.Endss), .d (eS0 a0.Kids)], .fix 27 [.d (di .i64 (0 : Int)), .d (di .i64 (0 : Int)), .d (di .i64 (0 : Int)), .d (.v (.slice none 0 0)), .d (.v (.slice none 0 0)), .d (.v (.slice none 0 0)), .d (.v (.slice none 0 0))], .fix 4 [.d (dbool false)], .dead, .fix 27 [.d (di .i64 a0.Kind), .d (di .i64 a0.Layout), .d (di .i64 a0.SRID), .d (eS1 a0.Flat), .d (eS2 a0.Ends), .d (eS3 a0.Endss), .d (eS0 a0.Kids)], .grow 32 1 (List.map keS1 g154), .fix 97 [.d (di .i64 y116.geom2.geom1.geom0.layout), .d (di .i64 y116.geom2.geom1.geom0.stride), .own 5, .d (di .i64 a0.SRID), .d (eS2 y116.geom2.ends)], .dead, .frame fr119 [(2, .ptr 1 0), (3, .ptr 2 0), (4, .ifc 49 (.ptr 6 0))], .frame fr120 [], .frame fr142 [(0, .own 5), (3, .d (di .i64 y116.geom2.geom1.geom0.stride)), (9, .d (di .i64 x140)), (10, .d (eS2 y116.geom2.ends)), (11, .d (di .i64 ((y116.geom2.ends.length : Nat) : Int))), (12, .d (di .i64 g136.2.1))]]) (fun g154 => (p_Reverse_k13 y116 g148 (iter (p_Reverse_l12 F y116) n150)) g154 = some o144) rfl ?_ ?_
      ·refine AC.block ?_
       refine AC.loopP (V := (Int × (List Nat))) (p_Reverse_l14 y116 g148) o152 [0, 3, 8, 9, 24] [25] 11 (fun g157 => [(25, .d (di .i64 g157.1))]) (fun g157 => [.fix 27 [.d (di .i64 a0.Kind), .d (di .i64 a0.Layout), .d (di .i64 a0.SRID), .d (eS1 a0.Flat), .d (eS2 a0.Ends), .d (eS3 a0.Endss), .d (eS0 a0.Kids)], .fix 27 [.d (di .i64 (0 : Int)), .d (di .i64 (0 : Int)), .d (di .i64 (0 : Int)), .d (.v (.slice none 0 0)), .d (.v (.slice none 0 0)), .d (.v (.slice none 0 0)), .d (.v (.slice none 0 0))], .fix 4 [.d (dbool false)], .dead, .fix 27 [.d (di .i64 a0.Kind), .d (di .i64 a0.Layout), .d (di .i64 a0.SRID), .d (eS1 a0.Flat), .d (eS2 a0.Ends), .d (eS3 a0.Endss), .d (eS0 a0.Kids)], .grow 32 1 (List.map keS1 g157.2), .fix 97 [.d (di .i64 y116.geom2.geom1.geom0.layout), .d (di .i64 y116.geom2.geom1.geom0.stride), .own 5, .d (di .i64 a0.SRID), .d (eS2 y116.geom2.ends)], .dead, .frame fr119 [(2, .ptr 1 0), (3, .ptr 2 0), (4, .ifc 49 (.ptr 6 0))], .frame fr120 [], .frame fr142 [(0, .own 5), (3, .d (di .i64 y116.geom2.geom1.geom0.stride)), (9, .d (di .i64 x140)), (10, .d (eS2 y116.geom2.ends)), (11, .d (di .i64 ((y116.geom2.ends.length : Nat) : Int))), (12, .d (di .i64 g136.2.1))]]) F ((0 : Int), g148.2.2) l153 rfl rfl (LeL.refl _) rfl rfl ?_
       intro n159 g157 h3
       unfold p_Reverse_l14 at h3
       refine AC.seq ?_
       refine AC.region ?_
       refine AO.op rfl (AOp.ilss rfl rfl (ltb rfl) rfl rfl ?_)
       refine AO.nil ?_
       change AC _ _ _ _
       refine AC.seq ?_
       refine AC.cond rfl (fun q160 => ?_) (fun q160 => ?_)
       ·replace h3 := cT h3 q160
        refine AC.skip ?_
        change AC _ _ _ _
        refine AC.seq ?_
        refine AC.block ?_
        refine AC.seq ?_
        refine AC.region ?_
        refine AO.op rfl (AOp.move rfl rfl (ltb rfl) rfl ?_)
        refine AO.op rfl (AOp.assign rfl rfl (ltb rfl) rfl ?_)
        refine AO.nil ?_
        change AC _ _ _ _
        obtain ⟨q161, h3⟩ := need_elim h3
        obtain ⟨q162, h3⟩ := need_elim h3
        obtain ⟨q163, h3⟩ := need_elim h3
        obtain ⟨q164, h3⟩ := need_elim h3
        obtain ⟨q165, h3⟩ := need_elim h3
        obtain ⟨q166, h3⟩ := need_elim h3
        obtain ⟨q167, h3⟩ := need_elim h3
        obtain ⟨x168, q169, h3⟩ := idx_elim h3
        obtain ⟨q170, h3⟩ := need_elim h3
        obtain ⟨q171, h3⟩ := need_elim h3
        obtain ⟨q172, h3⟩ := need_elim h3
        obtain ⟨x173, q174, h3⟩ := idx_elim h3
        obtain ⟨q175, h3⟩ := need_elim h3
        obtain ⟨q176, h3⟩ := need_elim h3
        refine AC.drawS [0, 1, 2, 3, 4, 5, 6, 7, 8, 9, 10, 11, 12, 13, 14, 15, 16, 17, 18, 19, 20, 21, 22, 23, 24, 25, 26, 27, 28, 29] [29] [30, 31] (fun L => [.fix 27 [.d (di .i64 a0.Kind), .d (di .i64 a0.Layout), .d (di .i64 a0.SRID), .d (eS1 a0.Flat), .d (eS2 a0.Ends), .d (eS3 a0.Endss), .d (eS0 a0.Kids)], .fix 27 [.d (di .i64 (0 : Int)), .d (di .i64 (0 : Int)), .d (di .i64 (0 : Int)), .d (.v (.slice none 0 0)), .d (.v (.slice none 0 0)), .d (.v (.slice none 0 0)), .d (.v (.slice none 0 0))], .fix 4 [.d (dbool false)], .dead, .fix 27 [.d (di .i64 a0.Kind), .d (di .i64 a0.Layout), .d (di .i64 a0.SRID), .d (eS1 a0.Flat), .d (eS2 a0.Ends), .d (eS3 a0.Endss), .d (eS0 a0.Kids)], bif L 29 then .grow 32 1 (List.map keS1 (g157.2.set (((g148.1 - y116.geom2.geom1.geom0.stride) + g157.1)).toNat x168)) else .grow 32 1 (List.map keS1 g157.2), .fix 97 [.d (di .i64 y116.geom2.geom1.geom0.layout), .d (di .i64 y116.geom2.geom1.geom0.stride), .own 5, .d (di .i64 a0.SRID), .d (eS2 y116.geom2.ends)], .dead, .frame fr119 [(2, .ptr 1 0), (3, .ptr 2 0), (4, .ifc 49 (.ptr 6 0))], .frame fr120 [], .frame fr142 [(0, .own 5), (3, .d (di .i64 y116.geom2.geom1.geom0.stride)), (9, .d (di .i64 x140)), (10, .d (eS2 y116.geom2.ends)), (11, .d (di .i64 ((y116.geom2.ends.length : Nat) : Int))), (12, .d (di .i64 g136.2.1))]]) [(29, (fun _ => true))] mixed (by kernel_rfl) (fun L L' h => by simp only [h 29 (by decide)]) rfl ?_
        refine AS.op [0] [] [29] [] rfl rfl rfl (by kernel_rfl) (by kernel_rfl) rfl rfl (fun _ _ _ h => AOp.move rfl rfl (ltb rfl) rfl h) (by kernel_rfl) ?_
        refine AS.op [8] [] [29] [] rfl rfl rfl (by kernel_rfl) (by kernel_rfl) rfl rfl (fun _ _ _ h => AOp.move rfl rfl (ltb rfl) rfl h) (by kernel_rfl) ?_
        refine AS.op [3] [] [29] [] rfl rfl rfl (by kernel_rfl) (by kernel_rfl) rfl rfl (fun _ _ _ h => AOp.move rfl rfl (ltb rfl) rfl h) (by kernel_rfl) ?_
        refine AS.op [29, 30] [] [29] [] rfl rfl rfl (by kernel_rfl) (by kernel_rfl) rfl rfl (fun _ _ _ h => AOp.isub rfl rfl (ltb rfl) rfl rfl rfl q161.1 q161.2 h) (by kernel_rfl) ?_
        refine AS.op [10] [] [29] [] rfl rfl rfl (by kernel_rfl) (by kernel_rfl) rfl rfl (fun _ _ _ h => AOp.move rfl rfl (ltb rfl) rfl h) (by kernel_rfl) ?_
        refine AS.op [31, 32] [] [29] [] rfl rfl rfl (by kernel_rfl) (by kernel_rfl) rfl rfl (fun _ _ _ h => AOp.iadd rfl rfl (ltb rfl) rfl rfl rfl q162.1 q162.2 h) (by kernel_rfl) ?_
        refine AS.op [0] [] [] [29] rfl rfl rfl (by kernel_rfl) (by kernel_rfl) rfl rfl (fun _ _ _ h => AOp.move rfl rfl (ltb rfl) rfl h) (by kernel_rfl) ?_
        refine AS.op [9] [] [] [29] rfl rfl rfl (by kernel_rfl) (by kernel_rfl) rfl rfl (fun _ _ _ h => AOp.move rfl rfl (ltb rfl) rfl h) (by kernel_rfl) ?_
        refine AS.op [3] [] [] [29] rfl rfl rfl (by kernel_rfl) (by kernel_rfl) rfl rfl (fun _ _ _ h => AOp.move rfl rfl (ltb rfl) rfl h) (by kernel_rfl) ?_
        refine AS.op [35, 36] [] [] [29] rfl rfl rfl (by kernel_rfl) (by kernel_rfl) rfl rfl (fun _ _ _ h => AOp.isub rfl rfl (ltb rfl) rfl rfl rfl q163.1 q163.2 h) (by kernel_rfl) ?_
        refine AS.op [10] [] [] [29] rfl rfl rfl (by kernel_rfl) (by kernel_rfl) rfl rfl (fun _ _ _ h => AOp.move rfl rfl (ltb rfl) rfl h) (by kernel_rfl) ?_
        refine AS.op [37, 38] [] [] [29] rfl rfl rfl (by kernel_rfl) (by kernel_rfl) rfl rfl (fun _ _ _ h => AOp.iadd rfl rfl (ltb rfl) rfl rfl rfl q164.1 q164.2 h) (by kernel_rfl) ?_
        refine AS.op [0] [] [29] [] rfl rfl rfl (by kernel_rfl) (by kernel_rfl) rfl rfl (fun _ _ _ h => AOp.move rfl rfl (ltb rfl) rfl h) (by kernel_rfl) ?_
        refine AS.op [9] [] [29] [] rfl rfl rfl (by kernel_rfl) (by kernel_rfl) rfl rfl (fun _ _ _ h => AOp.move rfl rfl (ltb rfl) rfl h) (by kernel_rfl) ?_
        refine AS.op [3] [] [29] [] rfl rfl rfl (by kernel_rfl) (by kernel_rfl) rfl rfl (fun _ _ _ h => AOp.move rfl rfl (ltb rfl) rfl h) (by kernel_rfl) ?_
        refine AS.op [41, 42] [] [29] [] rfl rfl rfl (by kernel_rfl) (by kernel_rfl) rfl rfl (fun _ _ _ h => AOp.isub rfl rfl (ltb rfl) rfl rfl rfl q165.1 q165.2 h) (by kernel_rfl) ?_
        refine AS.op [10] [] [29] [] rfl rfl rfl (by kernel_rfl) (by kernel_rfl) rfl rfl (fun _ _ _ h => AOp.move rfl rfl (ltb rfl) rfl h) (by kernel_rfl) ?_
        refine AS.op [43, 44] [] [29] [] rfl rfl rfl (by kernel_rfl) (by kernel_rfl) rfl rfl (fun _ _ _ h => AOp.iadd rfl rfl (ltb rfl) rfl rfl rfl q166.1 q166.2 h) (by kernel_rfl) ?_
        refine AS.op [40, 45] [] [29] [] rfl rfl rfl (by kernel_rfl) (by kernel_rfl) rfl rfl (fun _ _ _ h => AOp.indexOwn (cells := (List.map keS1 g157.2)) (n := g157.2.length) rfl rfl (ltb rfl) rfl rfl el22 rfl (by decide) (len1 _ _) q167.1 q167.2 h) (by kernel_rfl) ?_
        refine AS.op [46] [] [29] [] rfl rfl rfl (by kernel_rfl) (by kernel_rfl) rfl rfl (fun _ _ _ h => AOp.loadO1 rfl rfl (ltb rfl) rfl agg32 rfl (at1 q169.2) h) (by kernel_rfl) ?_
        refine AS.op [0] [] [29] [] rfl rfl rfl (by kernel_rfl) (by kernel_rfl) rfl rfl (fun _ _ _ h => AOp.move rfl rfl (ltb rfl) rfl h) (by kernel_rfl) ?_
        refine AS.op [8] [] [29] [] rfl rfl rfl (by kernel_rfl) (by kernel_rfl) rfl rfl (fun _ _ _ h => AOp.move rfl rfl (ltb rfl) rfl h) (by kernel_rfl) ?_
        refine AS.op [3] [] [29] [] rfl rfl rfl (by kernel_rfl) (by kernel_rfl) rfl rfl (fun _ _ _ h => AOp.move rfl rfl (ltb rfl) rfl h) (by kernel_rfl) ?_
        refine AS.op [49, 50] [] [29] [] rfl rfl rfl (by kernel_rfl) (by kernel_rfl) rfl rfl (fun _ _ _ h => AOp.isub rfl rfl (ltb rfl) rfl rfl rfl q170.1 q170.2 h) (by kernel_rfl) ?_
        refine AS.op [10] [] [29] [] rfl rfl rfl (by kernel_rfl) (by kernel_rfl) rfl rfl (fun _ _ _ h => AOp.move rfl rfl (ltb rfl) rfl h) (by kernel_rfl) ?_
        refine AS.op [51, 52] [] [29] [] rfl rfl rfl (by kernel_rfl) (by kernel_rfl) rfl rfl (fun _ _ _ h => AOp.iadd rfl rfl (ltb rfl) rfl rfl rfl q171.1 q171.2 h) (by kernel_rfl) ?_
        refine AS.op [48, 53] [] [29] [] rfl rfl rfl (by kernel_rfl) (by kernel_rfl) rfl rfl (fun _ _ _ h => AOp.indexOwn (cells := (List.map keS1 g157.2)) (n := g157.2.length) rfl rfl (ltb rfl) rfl rfl el22 rfl (by decide) (len1 _ _) q172.1 q172.2 h) (by kernel_rfl) ?_
        refine AS.op [54] [] [29] [] rfl rfl rfl (by kernel_rfl) (by kernel_rfl) rfl rfl (fun _ _ _ h => AOp.loadO1 rfl rfl (ltb rfl) rfl agg32 rfl (at1 q174.2) h) (by kernel_rfl) ?_
        refine AS.op [28, 33] [] [29] [] rfl rfl rfl (by kernel_rfl) (by kernel_rfl) rfl rfl (fun _ _ _ h => AOp.indexOwn (cells := (List.map keS1 g157.2)) (n := g157.2.length) rfl rfl (ltb rfl) rfl rfl el22 rfl (by decide) (len1 _ _) q175.1 q175.2 h) (by kernel_rfl) ?_
        refine AS.mid0 [47, 56] [] [29] [] rfl rfl rfl rfl (by kernel_rfl) (by kernel_rfl) rfl rfl (fun _ _ _ h => AOp.storeOL (f := keS1) (l := g157.2) (i := (((g148.1 - y116.geom2.geom1.geom0.stride) + g157.1)).toNat) (v := x168) rfl rfl rfl rfl size32 rfl rfl rfl q176 (AO.dropT h)) (by kernel_rfl) rfl ?_
        refine AS.done ?_
        refine AO.objs (obs' := [.fix 27 [.d (di .i64 a0.Kind), .d (di .i64 a0.Layout), .d (di .i64 a0.SRID), .d (eS1 a0.Flat), .d (eS2 a0.Ends), .d (eS3 a0.Endss), .d (eS0 a0.Kids)], .fix 27 [.d (di .i64 (0 : Int)), .d (di .i64 (0 : Int)), .d (di .i64 (0 : Int)), .d (.v (.slice none 0 0)), .d (.v (.slice none 0 0)), .d (.v (.slice none 0 0)), .d (.v (.slice none 0 0))], .fix 4 [.d (dbool false)], .dead, .fix 27 [.d (di .i64 a0.Kind), .d (di .i64 a0.Layout), .d (di .i64 a0.SRID), .d (eS1 a0.Flat), .d (eS2 a0.Ends), .d (eS3 a0.Endss), .d (eS0 a0.Kids)], .grow 32 1 (List.map keS1 (g157.2.set (((g148.1 - y116.geom2.geom1.geom0.stride) + g157.1)).toNat x168)), .fix 97 [.d (di .i64 y116.geom2.geom1.geom0.layout), .d (di .i64 y116.geom2.geom1.geom0.stride), .own 5, .d (di .i64 a0.SRID), .d (eS2 y116.geom2.ends)], .dead, .frame fr119 [(2, .ptr 1 0), (3, .ptr 2 0), (4, .ifc 49 (.ptr 6 0))], .frame fr120 [], .frame fr142 [(0, .own 5), (3, .d (di .i64 y116.geom2.geom1.geom0.stride)), (9, .d (di .i64 x140)), (10, .d (eS2 y116.geom2.ends)), (11, .d (di .i64 ((y116.geom2.ends.length : Nat) : Int))), (12, .d (di .i64 g136.2.1))]]) rfl ?_
        obtain ⟨q177, h3⟩ := need_elim h3
        refine AO.op rfl (AOp.indexOwn (cells := (List.map keS1 (g157.2.set (((g148.1 - y116.geom2.geom1.geom0.stride) + g157.1)).toNat x168))) (n := (g157.2.set (((g148.1 - y116.geom2.geom1.geom0.stride) + g157.1)).toNat x168).length) rfl rfl (ltb rfl) rfl rfl el22 rfl (by decide) (len1 _ _) q177.1 q177.2 ?_)
        obtain ⟨q178, h3⟩ := need_elim h3
        refine AO.op rfl (AOp.storeOL (f := keS1) (l := (g157.2.set (((g148.1 - y116.geom2.geom1.geom0.stride) + g157.1)).toNat x168)) (i := (((g148.2.1 - y116.geom2.geom1.geom0.stride) + g157.1)).toNat) (v := x173) rfl rfl rfl rfl size32 rfl rfl rfl q178 ?_)
        refine AO.nil ?_
        change AC _ _ _ _
        refine AC.region ?_
        obtain ⟨q179, h3⟩ := need_elim h3
        refine AO.op rfl (AOp.iadd rfl rfl (ltb rfl) rfl rfl rfl q179.1 q179.2 ?_)
        refine AO.op rfl (AOp.move rfl rfl (ltb rfl) rfl ?_)
        refine AO.nil ?_
        exact ⟨((g157.1 + (1 : Int)), ((g157.2.set (((g148.1 - y116.geom2.geom1.geom0.stride) + g157.1)).toNat x168).set (((g148.2.1 - y116.geom2.geom1.geom0.stride) + g157.1)).toNat x173)), _, rfl, (LeL.refl _), rfl, rfl, h3⟩
       replace h3 := cF h3 q160
       refine AC.exit ?_
       obtain rfl := Option.some.inj h3
       exact ⟨g157.2, _, rfl, (LeL.refl _), rfl, rfl, aftL h2⟩
      intro g154 h2
      unfold p_Reverse_k13 at h2
      change AC _ _ _ _
      refine AC.region ?_
      refine AO.op rfl (AOp.move rfl rfl (ltb rfl) rfl ?_)
      refine AO.op rfl (AOp.move rfl rfl (ltb rfl) rfl ?_)
      obtain ⟨q155, h2⟩ := need_elim h2
      refine AO.op rfl (AOp.iadd rfl rfl (ltb rfl) rfl rfl rfl q155.1 q155.2 ?_)
      refine AO.op rfl (AOp.move rfl rfl (ltb rfl) rfl ?_)
      refine AO.op rfl (AOp.move rfl rfl (ltb rfl) rfl ?_)
      obtain ⟨q156, h2⟩ := need_elim h2
      refine AO.op rfl (AOp.isub rfl rfl (ltb rfl) rfl rfl rfl q156.1 q156.2 ?_)
      refine AO.op rfl (AOp.assign rfl rfl (ltb rfl) rfl ?_)
      refine AO.op rfl (AOp.assign rfl rfl (ltb rfl) rfl ?_)
      refine AO.nil ?_
      exact ⟨((g148.1 + y116.geom2.geom1.geom0.stride), (g148.2.1 - y116.geom2.geom1.geom0.stride), g154), _, rfl, (LeL.refl _), rfl, rfl, h2⟩
     replace h2 := cF h2 q151
     refine AC.exit ?_
     obtain rfl := Option.some.inj h2
     exact ⟨g148.2.2, _, rfl, (LeL.refl _), rfl, rfl, aftL h1⟩
    intro g146 h1
    unfold p_Reverse_k11 at h1
    refine inlend (ob' := [.fix 27 [.d (di .i64 a0.Kind), .d (di .i64 a0.Layout), .d (di .i64 a0.SRID), .d (eS1 a0.Flat), .d (eS2 a0.Ends), .d (eS3 a0.Endss), .d (eS0 a0.Kids)], .fix 27 [.d (di .i64 (0 : Int)), .d (di .i64 (0 : Int)), .d (di .i64 (0 : Int)), .d (.v (.slice none 0 0)), .d (.v (.slice none 0 0)), .d (.v (.slice none 0 0)), .d (.v (.slice none 0 0))], .fix 4 [.d (dbool false)], .dead, .fix 27 [.d (di .i64 a0.Kind), .d (di .i64 a0.Layout), .d (di .i64 a0.SRID), .d (eS1 a0.Flat), .d (eS2 a0.Ends), .d (eS3 a0.Endss), .d (eS0 a0.Kids)], .grow 32 1 (List.map keS1 g146), .fix 97 [.d (di .i64 y116.geom2.geom1.geom0.layout), .d (di .i64 y116.geom2.geom1.geom0.stride), .own 5, .d (di .i64 a0.SRID), .d (eS2 y116.geom2.ends)], .dead, .frame fr119 [(2, .ptr 1 0), (3, .ptr 2 0), (4, .ifc 49 (.ptr 6 0))], .frame fr120 [], .dead]) (e' := [(0, .own 5), (3, .d (di .i64 y116.geom2.geom1.geom0.stride)), (9, .d (di .i64 x140)), (10, .d (eS2 y116.geom2.ends)), (11, .d (di .i64 ((y116.geom2.ends.length : Nat) : Int))), (12, .d (di .i64 g136.2.1))]) (r := .tu []) rfl rfl rfl ?_
    change AO _ _ _ _ _
    refine AO.objs (obs' := [.fix 27 [.d (di .i64 a0.Kind), .d (di .i64 a0.Layout), .d (di .i64 a0.SRID), .d (eS1 a0.Flat), .d (eS2 a0.Ends), .d (eS3 a0.Endss), .d (eS0 a0.Kids)], .fix 27 [.d (di .i64 (0 : Int)), .d (di .i64 (0 : Int)), .d (di .i64 (0 : Int)), .d (.v (.slice none 0 0)), .d (.v (.slice none 0 0)), .d (.v (.slice none 0 0)), .d (.v (.slice none 0 0))], .fix 4 [.d (dbool false)], .dead, .fix 27 [.d (di .i64 a0.Kind), .d (di .i64 a0.Layout), .d (di .i64 a0.SRID), .d (eS1 a0.Flat), .d (eS2 a0.Ends), .d (eS3 a0.Endss), .d (eS0 a0.Kids)], .grow 32 1 (List.map keS1 g146), .fix 97 [.d (di .i64 y116.geom2.geom1.geom0.layout), .d (di .i64 y116.geom2.geom1.geom0.stride), .own 5, .d (di .i64 a0.SRID), .d (eS2 y116.geom2.ends)], .dead, .frame fr119 [(2, .ptr 1 0), (3, .ptr 2 0), (4, .ifc 49 (.ptr 6 0))], .frame fr120 [], .dead]) rfl ?_
    refine AO.nil ?_
    change AC _ _ _ _
    refine AC.region ?_
    refine AO.op rfl (AOp.move rfl rfl (ltb rfl) rfl ?_)
    refine AO.op rfl (AOp.assign rfl rfl (ltb rfl) rfl ?_)
    refine AO.nil ?_
    change AC _ _ _ _
    refine AC.region ?_
    obtain ⟨q147, h1⟩ := need_elim h1
    refine AO.op rfl (AOp.iadd rfl rfl (ltb rfl) rfl rfl rfl q147.1 q147.2 ?_)
    refine AO.op rfl (AOp.move rfl rfl (ltb rfl) rfl ?_)
    refine AO.nil ?_
    exact ⟨(x140, (g136.2.1 + (1 : Int)), g146), _, rfl, (LeL.refl _), rfl, rfl, h1⟩
   replace h1 := cF h1 q139
   refine AC.exit ?_
   obtain rfl := Option.some.inj h1
   exact ⟨g136.2.2, _, rfl, (LeL.refl _), rfl, rfl, aftL h0⟩
  intro g123 h0
  unfold p_Reverse_k9 at h0
  refine inlend (ob' := [.fix 27 [.d (di .i64 a0.Kind), .d (di .i64 a0.Layout), .d (di .i64 a0.SRID), .d (eS1 a0.Flat), .d (eS2 a0.Ends), .d (eS3 a0.Endss), .d (eS0 a0.Kids)], .fix 27 [.d (di .i64 (0 : Int)), .d (di .i64 (0 : Int)), .d (di .i64 (0 : Int)), .d (.v (.slice none 0 0)), .d (.v (.slice none 0 0)), .d (.v (.slice none 0 0)), .d (.v (.slice none 0 0))], .fix 4 [.d (dbool false)], .dead, .fix 27 [.d (di .i64 a0.Kind), .d (di .i64 a0.Layout), .d (di .i64 a0.SRID), .d (eS1 a0.Flat), .d (eS2 a0.Ends), .d (eS3 a0.Endss), .d (eS0 a0.Kids)], .grow 32 1 (List.map keS1 g123), .fix 97 [.d (di .i64 y116.geom2.geom1.geom0.layout), .d (di .i64 y116.geom2.geom1.geom0.stride), .own 5, .d (di .i64 a0.SRID), .d (eS2 y116.geom2.ends)], .dead, .frame fr119 [(2, .ptr 1 0), (3, .ptr 2 0), (4, .ifc 49 (.ptr 6 0))], .dead]) (e' := []) (r := .tu []) rfl rfl rfl ?_
  change AO _ _ _ _ _
  refine AO.objs (obs' := [.fix 27 [.d (di .i64 a0.Kind), .d (di .i64 a0.Layout), .d (di .i64 a0.SRID), .d (eS1 a0.Flat), .d (eS2 a0.Ends), .d (eS3 a0.Endss), .d (eS0 a0.Kids)], .fix 27 [.d (di .i64 (0 : Int)), .d (di .i64 (0 : Int)), .d (di .i64 (0 : Int)), .d (.v (.slice none 0 0)), .d (.v (.slice none 0 0)), .d (.v (.slice none 0 0)), .d (.v (.slice none 0 0))], .fix 4 [.d (dbool false)], .dead, .fix 27 [.d (di .i64 a0.Kind), .d (di .i64 a0.Layout), .d (di .i64 a0.SRID), .d (eS1 a0.Flat), .d (eS2 a0.Ends), .d (eS3 a0.Endss), .d (eS0 a0.Kids)], .grow 32 1 (List.map keS1 g123), .fix 97 [.d (di .i64 y116.geom2.geom1.geom0.layout), .d (di .i64 y116.geom2.geom1.geom0.stride), .own 5, .d (di .i64 a0.SRID), .d (eS2 y116.geom2.ends)], .dead, .frame fr119 [(2, .ptr 1 0), (3, .ptr 2 0), (4, .ifc 49 (.ptr 6 0))], .dead]) rfl ?_
  refine AO.nil ?_
  refine inlend (ob' := [.fix 27 [.d (di .i64 a0.Kind), .d (di .i64 a0.Layout), .d (di .i64 a0.SRID), .d (eS1 a0.Flat), .d (eS2 a0.Ends), .d (eS3 a0.Endss), .d (eS0 a0.Kids)], .fix 27 [.d (di .i64 (0 : Int)), .d (di .i64 (0 : Int)), .d (di .i64 (0 : Int)), .d (.v (.slice none 0 0)), .d (.v (.slice none 0 0)), .d (.v (.slice none 0 0)), .d (.v (.slice none 0 0))], .fix 4 [.d (dbool false)], .dead, .fix 27 [.d (di .i64 a0.Kind), .d (di .i64 a0.Layout), .d (di .i64 a0.SRID), .d (eS1 a0.Flat), .d (eS2 a0.Ends), .d (eS3 a0.Endss), .d (eS0 a0.Kids)], .grow 32 1 (List.map keS1 g123), .fix 97 [.d (di .i64 y116.geom2.geom1.geom0.layout), .d (di .i64 y116.geom2.geom1.geom0.stride), .own 5, .d (di .i64 a0.SRID), .d (eS2 y116.geom2.ends)], .dead, .dead, .dead]) (e' := [(2, .ptr 1 0), (3, .ptr 2 0), (4, .ifc 49 (.ptr 6 0))]) (r := .tu []) rfl rfl rfl ?_
  change AO _ _ _ _ _
  refine AO.objs (obs' := [.fix 27 [.d (di .i64 a0.Kind), .d (di .i64 a0.Layout), .d (di .i64 a0.SRID), .d (eS1 a0.Flat), .d (eS2 a0.Ends), .d (eS3 a0.Endss), .d (eS0 a0.Kids)], .fix 27 [.d (di .i64 (0 : Int)), .d (di .i64 (0 : Int)), .d (di .i64 (0 : Int)), .d (.v (.slice none 0 0)), .d (.v (.slice none 0 0)), .d (.v (.slice none 0 0)), .d (.v (.slice none 0 0))], .fix 4 [.d (dbool false)], .dead, .fix 27 [.d (di .i64 a0.Kind), .d (di .i64 a0.Layout), .d (di .i64 a0.SRID), .d (eS1 a0.Flat), .d (eS2 a0.Ends), .d (eS3 a0.Endss), .d (eS0 a0.Kids)], .grow 32 1 (List.map keS1 g123), .fix 97 [.d (di .i64 y116.geom2.geom1.geom0.layout), .d (di .i64 y116.geom2.geom1.geom0.stride), .own 5, .d (di .i64 a0.SRID), .d (eS2 y116.geom2.ends)], .dead, .dead, .dead]) rfl ?_
  refine AO.nil ?_
  change AC _ _ _ _
  refine AC.seq ?_
  refine AC.region ?_
  refine AO.op rfl (AOp.move rfl rfl (ltb rfl) rfl ?_)
  refine AO.op rfl (AOp.inl [2, 3] (by kernel_rfl) Try.func32 rfl Try.ntmps32 rfl rfl (ltb rfl) rfl (leb rfl) rfl ?_)
  intro fr124
  refine AC.seq ?_
  refine AC.region ?_
  refine AO.op rfl (AOp.alloc rfl rfl (ltb rfl) zero27 rfl ?_)
  refine AO.objs (obs' := [.fix 27 [.d (di .i64 a0.Kind), .d (di .i64 a0.Layout), .d (di .i64 a0.SRID), .d (eS1 a0.Flat), .d (eS2 a0.Ends), .d (eS3 a0.Endss), .d (eS0 a0.Kids)], .fix 27 [.d (di .i64 (0 : Int)), .d (di .i64 (0 : Int)), .d (di .i64 (0 : Int)), .d (.v (.slice none 0 0)), .d (.v (.slice none 0 0)), .d (.v (.slice none 0 0)), .d (.v (.slice none 0 0))], .fix 4 [.d (dbool false)], .dead, .fix 27 [.d (di .i64 a0.Kind), .d (di .i64 a0.Layout), .d (di .i64 a0.SRID), .d (eS1 a0.Flat), .d (eS2 a0.Ends), .d (eS3 a0.Endss), .d (eS0 a0.Kids)], .grow 32 1 (List.map keS1 g123), .fix 97 [.d (di .i64 y116.geom2.geom1.geom0.layout), .d (di .i64 y116.geom2.geom1.geom0.stride), .own 5, .d (di .i64 a0.SRID), .d (eS2 y116.geom2.ends)], .dead, .dead, .dead, .frame fr124 [(2, .ptr 1 0), (3, .ptr 2 0)], .fix 27 [.d (di .i64 (0 : Int)), .d (di .i64 (0 : Int)), .d (di .i64 (0 : Int)), .d (.v (.slice none 0 0)), .d (.v (.slice none 0 0)), .d (.v (.slice none 0 0)), .d (.v (.slice none 0 0))]]) rfl ?_
  refine AO.nil ?_
  change AC _ _ _ _
  refine AC.seq ?_
  refine AC.region ?_
  refine AO.op rfl (AOp.move rfl rfl (ltb rfl) rfl ?_)
  refine AO.op rfl (AOp.inlE [0, 2] (EntersS.meth (by kernel_rfl) rfl rfl rfl meth49_SRID rfl rfl) Try.func90 rfl Try.ntmps90 rfl (ltb rfl) (leb rfl) rfl ?_)
  intro fr125
  refine AC.seq ?_
  refine AC.region ?_
  refine AO.op rfl (AOp.assign rfl rfl (ltb rfl) rfl ?_)
  refine AO.objs (obs' := [.fix 27 [.d (di .i64 a0.Kind), .d (di .i64 a0.Layout), .d (di .i64 a0.SRID), .d (eS1 a0.Flat), .d (eS2 a0.Ends), .d (eS3 a0.Endss), .d (eS0 a0.Kids)], .fix 27 [.d (di .i64 (0 : Int)), .d (di .i64 (0 : Int)), .d (di .i64 (0 : Int)), .d (.v (.slice none 0 0)), .d (.v (.slice none 0 0)), .d (.v (.slice none 0 0)), .d (.v (.slice none 0 0))], .fix 4 [.d (dbool false)], .dead, .fix 27 [.d (di .i64 a0.Kind), .d (di .i64 a0.Layout), .d (di .i64 a0.SRID), .d (eS1 a0.Flat), .d (eS2 a0.Ends), .d (eS3 a0.Endss), .d (eS0 a0.Kids)], .grow 32 1 (List.map keS1 g123), .fix 97 [.d (di .i64 y116.geom2.geom1.geom0.layout), .d (di .i64 y116.geom2.geom1.geom0.stride), .own 5, .d (di .i64 a0.SRID), .d (eS2 y116.geom2.ends)], .dead, .dead, .dead, .frame fr124 [(2, .ptr 1 0), (3, .ptr 2 0)], .fix 27 [.d (di .i64 (0 : Int)), .d (di .i64 (0 : Int)), .d (di .i64 (0 : Int)), .d (.v (.slice none 0 0)), .d (.v (.slice none 0 0)), .d (.v (.slice none 0 0)), .d (.v (.slice none 0 0))], .frame fr125 [(0, .ifc 49 (.ptr 6 0)), (2, .ptr 11 0)]]) rfl ?_
  refine AO.nil ?_
  change AC _ _ _ _
  refine AC.seq ?_
  refine AC.region ?_
  refine AO.op rfl (AOp.move rfl rfl (ltb rfl) rfl ?_)
  refine AO.op rfl (AOp.nilCheck rfl rfl (ltb rfl) rfl rfl ?_)
  refine AO.op rfl (AOp.fieldAddr rfl rfl (ltb rfl) rfl fo91_3 ?_)
  refine AO.op rfl (AOp.load1 rfl rfl (ltb rfl) rfl agg3 rfl rfl ?_)
  refine AO.op rfl (AOp.assign rfl rfl (ltb rfl) rfl ?_)
  refine AO.nil ?_
  change AC _ _ _ _
  refine AC.ret ?_
  refine inlret (ob' := [.fix 27 [.d (di .i64 a0.Kind), .d (di .i64 a0.Layout), .d (di .i64 a0.SRID), .d (eS1 a0.Flat), .d (eS2 a0.Ends), .d (eS3 a0.Endss), .d (eS0 a0.Kids)], .fix 27 [.d (di .i64 (0 : Int)), .d (di .i64 (0 : Int)), .d (di .i64 (0 : Int)), .d (.v (.slice none 0 0)), .d (.v (.slice none 0 0)), .d (.v (.slice none 0 0)), .d (.v (.slice none 0 0))], .fix 4 [.d (dbool false)], .dead, .fix 27 [.d (di .i64 a0.Kind), .d (di .i64 a0.Layout), .d (di .i64 a0.SRID), .d (eS1 a0.Flat), .d (eS2 a0.Ends), .d (eS3 a0.Endss), .d (eS0 a0.Kids)], .grow 32 1 (List.map keS1 g123), .fix 97 [.d (di .i64 y116.geom2.geom1.geom0.layout), .d (di .i64 y116.geom2.geom1.geom0.stride), .own 5, .d (di .i64 a0.SRID), .d (eS2 y116.geom2.ends)], .dead, .dead, .dead, .frame fr124 [(2, .ptr 1 0), (3, .ptr 2 0)], .fix 27 [.d (di .i64 (0 : Int)), .d (di .i64 (0 : Int)), .d (di .i64 (0 : Int)), .d (.v (.slice none 0 0)), .d (.v (.slice none 0 0)), .d (.v (.slice none 0 0)), .d (.v (.slice none 0 0))], .dead]) (e' := [(0, .ifc 49 (.ptr 6 0)), (2, .ptr 11 0)]) (r := .d (di .i64 a0.SRID)) rfl rfl rfl ?_
  change AO _ _ _ _ _
  refine AO.op rfl (AOp.build rfl rfl (ltb rfl) zero27 rfl places27 rfl rfl ?_)
  refine AO.op rfl (AOp.alloc rfl rfl (ltb rfl) zero27 rfl ?_)
  refine AO.op rfl (AOp.store rfl rfl rfl rfl size27 rfl rfl rfl (leb rfl) ?_)
  refine AO.objs (obs' := [.fix 27 [.d (di .i64 a0.Kind), .d (di .i64 a0.Layout), .d (di .i64 a0.SRID), .d (eS1 a0.Flat), .d (eS2 a0.Ends), .d (eS3 a0.Endss), .d (eS0 a0.Kids)], .fix 27 [.d (di .i64 (0 : Int)), .d (di .i64 (0 : Int)), .d (di .i64 (0 : Int)), .d (.v (.slice none 0 0)), .d (.v (.slice none 0 0)), .d (.v (.slice none 0 0)), .d (.v (.slice none 0 0))], .fix 4 [.d (dbool false)], .dead, .fix 27 [.d (di .i64 a0.Kind), .d (di .i64 a0.Layout), .d (di .i64 a0.SRID), .d (eS1 a0.Flat), .d (eS2 a0.Ends), .d (eS3 a0.Endss), .d (eS0 a0.Kids)], .grow 32 1 (List.map keS1 g123), .fix 97 [.d (di .i64 y116.geom2.geom1.geom0.layout), .d (di .i64 y116.geom2.geom1.geom0.stride), .own 5, .d (di .i64 a0.SRID), .d (eS2 y116.geom2.ends)], .dead, .dead, .dead, .frame fr124 [(2, .ptr 1 0), (3, .ptr 2 0)], .fix 27 [.d (di .i64 (0 : Int)), .d (di .i64 (0 : Int)), .d (di .i64 (0 : Int)), .d (.v (.slice none 0 0)), .d (.v (.slice none 0 0)), .d (.v (.slice none 0 0)), .d (.v (.slice none 0 0))], .dead, .fix 27 [.d (di .i64 (0 : Int)), .d (di .i64 (0 : Int)), .d (di .i64 a0.SRID), .d (.v (.slice none 0 0)), .d (.v (.slice none 0 0)), .d (.v (.slice none 0 0)), .d (.v (.slice none 0 0))]]) rfl ?_
  refine AO.nil ?_
  change AC _ _ _ _
  refine AC.seq ?_
  refine AC.seq ?_
  refine AC.region ?_
  refine AO.op rfl (AOp.move rfl rfl (ltb rfl) rfl ?_)
  refine AO.nil ?_
  change AC _ _ _ _
  refine AC.block ?_
  refine AC.seq ?_
  refine AC.region ?_
  refine AO.op rfl (AOp.assertNo rfl rfl (ltb rfl) rfl rfl pass49_64 zero64 ?_)
  first | refine AO.op rfl (AOp.extractD rfl rfl (ltb rfl) rfl rfl ?_) | refine AO.op rfl (AOp.extract rfl rfl (ltb rfl) rfl rfl ?_)
  first | refine AO.op rfl (AOp.extractD rfl rfl (ltb rfl) rfl rfl ?_) | refine AO.op rfl (AOp.extract rfl rfl (ltb rfl) rfl rfl ?_)
  refine AO.nil ?_
  change AC _ _ _ _
  refine AC.condF rfl rfl ?_
  refine AC.seq ?_
  refine AC.region ?_
  refine AO.op rfl (AOp.assertNo rfl rfl (ltb rfl) rfl rfl pass49_67 zero67 ?_)
  first | refine AO.op rfl (AOp.extractD rfl rfl (ltb rfl) rfl rfl ?_) | refine AO.op rfl (AOp.extract rfl rfl (ltb rfl) rfl rfl ?_)
  first | refine AO.op rfl (AOp.extractD rfl rfl (ltb rfl) rfl rfl ?_) | refine AO.op rfl (AOp.extract rfl rfl (ltb rfl) rfl rfl ?_)
  refine AO.nil ?_
  change AC _ _ _ _
  refine AC.condF rfl rfl ?_
  refine AC.seq ?_
  refine AC.region ?_
  refine AO.op rfl (AOp.assertNo rfl rfl (ltb rfl) rfl rfl pass49_70 zero70 ?_)
  first | refine AO.op rfl (AOp.extractD rfl rfl (ltb rfl) rfl rfl ?_) | refine AO.op rfl (AOp.extract rfl rfl (ltb rfl) rfl rfl ?_)
  first | refine AO.op rfl (AOp.extractD rfl rfl (ltb rfl) rfl rfl ?_) | refine AO.op rfl (AOp.extract rfl rfl (ltb rfl) rfl rfl ?_)
  refine AO.nil ?_
  change AC _ _ _ _
  refine AC.condF rfl rfl ?_
  refine AC.seq ?_
  refine AC.region ?_
  refine AO.op rfl (AOp.assertYes rfl rfl (ltb rfl) rfl rfl pass49_49 rfl ?_)
  first | refine AO.op rfl (AOp.extractD rfl rfl (ltb rfl) rfl rfl ?_) | refine AO.op rfl (AOp.extract rfl rfl (ltb rfl) rfl rfl ?_)
  first | refine AO.op rfl (AOp.extractD rfl rfl (ltb rfl) rfl rfl ?_) | refine AO.op rfl (AOp.extract rfl rfl (ltb rfl) rfl rfl ?_)
  refine AO.nil ?_
  change AC _ _ _ _
  refine AC.condT rfl rfl ?_
  refine AC.seq ?_
  refine AC.region ?_
  refine AO.op rfl (AOp.assign rfl rfl (ltb rfl) rfl ?_)
  refine AO.nil ?_
  change AC _ _ _ _
  refine AC.region ?_
  refine AO.op rfl (AOp.fieldAddr rfl rfl (ltb rfl) rfl fo27_0 ?_)
  refine AO.op rfl (AOp.store rfl rfl rfl rfl size3 rfl rfl rfl (leb rfl) ?_)
  refine AO.nil ?_
  change AC _ _ _ _
  refine AC.seq ?_
  refine AC.region ?_
  refine AO.op rfl (AOp.move rfl rfl (ltb rfl) rfl ?_)
  refine AO.op rfl (AOp.inlE [0, 2, 3] (EntersS.meth (by kernel_rfl) rfl rfl rfl meth49_Layout rfl rfl) Try.func88 rfl Try.ntmps88 rfl (ltb rfl) (leb rfl) rfl ?_)
  intro fr126
  refine AC.seq ?_
  refine AC.region ?_
  refine AO.op rfl (AOp.assign rfl rfl (ltb rfl) rfl ?_)
  refine AO.objs (obs' := [.fix 27 [.d (di .i64 a0.Kind), .d (di .i64 a0.Layout), .d (di .i64 a0.SRID), .d (eS1 a0.Flat), .d (eS2 a0.Ends), .d (eS3 a0.Endss), .d (eS0 a0.Kids)], .fix 27 [.d (di .i64 (0 : Int)), .d (di .i64 (0 : Int)), .d (di .i64 (0 : Int)), .d (.v (.slice none 0 0)), .d (.v (.slice none 0 0)), .d (.v (.slice none 0 0)), .d (.v (.slice none 0 0))], .fix 4 [.d (dbool false)], .dead, .fix 27 [.d (di .i64 a0.Kind), .d (di .i64 a0.Layout), .d (di .i64 a0.SRID), .d (eS1 a0.Flat), .d (eS2 a0.Ends), .d (eS3 a0.Endss), .d (eS0 a0.Kids)], .grow 32 1 (List.map keS1 g123), .fix 97 [.d (di .i64 y116.geom2.geom1.geom0.layout), .d (di .i64 y116.geom2.geom1.geom0.stride), .own 5, .d (di .i64 a0.SRID), .d (eS2 y116.geom2.ends)], .dead, .dead, .dead, .frame fr124 [(2, .ptr 1 0), (3, .ptr 2 0)], .fix 27 [.d (di .i64 (0 : Int)), .d (di .i64 (0 : Int)), .d (di .i64 (0 : Int)), .d (.v (.slice none 0 0)), .d (.v (.slice none 0 0)), .d (.v (.slice none 0 0)), .d (.v (.slice none 0 0))], .dead, .fix 27 [.d (di .i64 (3 : Int)), .d (di .i64 (0 : Int)), .d (di .i64 a0.SRID), .d (.v (.slice none 0 0)), .d (.v (.slice none 0 0)), .d (.v (.slice none 0 0)), .d (.v (.slice none 0 0))], .frame fr126 [(0, .ifc 49 (.ptr 6 0)), (2, .ptr 11 0), (3, .ptr 13 0)]]) rfl ?_
  refine AO.nil ?_
  change AC _ _ _ _
  refine AC.seq ?_
  refine AC.region ?_
  refine AO.op rfl (AOp.move rfl rfl (ltb rfl) rfl ?_)
  refine AO.op rfl (AOp.nilCheck rfl rfl (ltb rfl) rfl rfl ?_)
  refine AO.op rfl (AOp.fieldAddr rfl rfl (ltb rfl) rfl fo91_0 ?_)
  refine AO.op rfl (AOp.load1 rfl rfl (ltb rfl) rfl agg63 rfl rfl ?_)
  refine AO.op rfl (AOp.assign rfl rfl (ltb rfl) rfl ?_)
  refine AO.nil ?_
  change AC _ _ _ _
  refine AC.ret ?_
  refine inlret (ob' := [.fix 27 [.d (di .i64 a0.Kind), .d (di .i64 a0.Layout), .d (di .i64 a0.SRID), .d (eS1 a0.Flat), .d (eS2 a0.Ends), .d (eS3 a0.Endss), .d (eS0 a0.Kids)], .fix 27 [.d (di .i64 (0 : Int)), .d (di .i64 (0 : Int)), .d (di .i64 (0 : Int)), .d (.v (.slice none 0 0)), .d (.v (.slice none 0 0)), .d (.v (.slice none 0 0)), .d (.v (.slice none 0 0))], .fix 4 [.d (dbool false)], .dead, .fix 27 [.d (di .i64 a0.Kind), .d (di .i64 a0.Layout), .d (di .i64 a0.SRID), .d (eS1 a0.Flat), .d (eS2 a0.Ends), .d (eS3 a0.Endss), .d (eS0 a0.Kids)], .grow 32 1 (List.map keS1 g123), .fix 97 [.d (di .i64 y116.geom2.geom1.geom0.layout), .d (di .i64 y116.geom2.geom1.geom0.stride), .own 5, .d (di .i64 a0.SRID), .d (eS2 y116.geom2.ends)], .dead, .dead, .dead, .frame fr124 [(2, .ptr 1 0), (3, .ptr 2 0)], .fix 27 [.d (di .i64 (0 : Int)), .d (di .i64 (0 : Int)), .d (di .i64 (0 : Int)), .d (.v (.slice none 0 0)), .d (.v (.slice none 0 0)), .d (.v (.slice none 0 0)), .d (.v (.slice none 0 0))], .dead, .fix 27 [.d (di .i64 (3 : Int)), .d (di .i64 (0 : Int)), .d (di .i64 a0.SRID), .d (.v (.slice none 0 0)), .d (.v (.slice none 0 0)), .d (.v (.slice none 0 0)), .d (.v (.slice none 0 0))], .dead]) (e' := [(0, .ifc 49 (.ptr 6 0)), (2, .ptr 11 0), (3, .ptr 13 0)]) (r := .d (di .i64 y116.geom2.geom1.geom0.layout)) rfl rfl rfl ?_
  change AO _ _ _ _ _
  refine AO.op rfl (AOp.move rfl rfl (ltb rfl) rfl ?_)
  refine AO.op rfl (AOp.inlE [0, 2, 3, 70] (EntersS.meth (by kernel_rfl) rfl rfl rfl meth49_FlatCoords rfl rfl) Try.func87 rfl Try.ntmps87 rfl (ltb rfl) (leb rfl) rfl ?_)
  intro fr127
  refine AC.seq ?_
  refine AC.region ?_
  refine AO.op rfl (AOp.assign rfl rfl (ltb rfl) rfl ?_)
  refine AO.objs (obs' := [.fix 27 [.d (di .i64 a0.Kind), .d (di .i64 a0.Layout), .d (di .i64 a0.SRID), .d (eS1 a0.Flat), .d (eS2 a0.Ends), .d (eS3 a0.Endss), .d (eS0 a0.Kids)], .fix 27 [.d (di .i64 (0 : Int)), .d (di .i64 (0 : Int)), .d (di .i64 (0 : Int)), .d (.v (.slice none 0 0)), .d (.v (.slice none 0 0)), .d (.v (.slice none 0 0)), .d (.v (.slice none 0 0))], .fix 4 [.d (dbool false)], .dead, .fix 27 [.d (di .i64 a0.Kind), .d (di .i64 a0.Layout), .d (di .i64 a0.SRID), .d (eS1 a0.Flat), .d (eS2 a0.Ends), .d (eS3 a0.Endss), .d (eS0 a0.Kids)], .grow 32 1 (List.map keS1 g123), .fix 97 [.d (di .i64 y116.geom2.geom1.geom0.layout), .d (di .i64 y116.geom2.geom1.geom0.stride), .own 5, .d (di .i64 a0.SRID), .d (eS2 y116.geom2.ends)], .dead, .dead, .dead, .frame fr124 [(2, .ptr 1 0), (3, .ptr 2 0)], .fix 27 [.d (di .i64 (0 : Int)), .d (di .i64 (0 : Int)), .d (di .i64 (0 : Int)), .d (.v (.slice none 0 0)), .d (.v (.slice none 0 0)), .d (.v (.slice none 0 0)), .d (.v (.slice none 0 0))], .dead, .fix 27 [.d (di .i64 (3 : Int)), .d (di .i64 (0 : Int)), .d (di .i64 a0.SRID), .d (.v (.slice none 0 0)), .d (.v (.slice none 0 0)), .d (.v (.slice none 0 0)), .d (.v (.slice none 0 0))], .dead, .frame fr127 [(0, .ifc 49 (.ptr 6 0)), (2, .ptr 11 0), (3, .ptr 13 0), (70, .d (di .i64 y116.geom2.geom1.geom0.layout))]]) rfl ?_
  refine AO.nil ?_
  change AC _ _ _ _
  refine AC.seq ?_
  refine AC.region ?_
  refine AO.op rfl (AOp.move rfl rfl (ltb rfl) rfl ?_)
  refine AO.op rfl (AOp.nilCheck rfl rfl (ltb rfl) rfl rfl ?_)
  refine AO.op rfl (AOp.fieldAddr rfl rfl (ltb rfl) rfl fo91_2 ?_)
  refine AO.op rfl (AOp.load1 rfl rfl (ltb rfl) rfl agg22 rfl rfl ?_)
  refine AO.op rfl (AOp.assign rfl rfl (ltb rfl) rfl ?_)
  refine AO.nil ?_
  change AC _ _ _ _
  refine AC.ret ?_
  refine inlret (ob' := [.fix 27 [.d (di .i64 a0.Kind), .d (di .i64 a0.Layout), .d (di .i64 a0.SRID), .d (eS1 a0.Flat), .d (eS2 a0.Ends), .d (eS3 a0.Endss), .d (eS0 a0.Kids)], .fix 27 [.d (di .i64 (0 : Int)), .d (di .i64 (0 : Int)), .d (di .i64 (0 : Int)), .d (.v (.slice none 0 0)), .d (.v (.slice none 0 0)), .d (.v (.slice none 0 0)), .d (.v (.slice none 0 0))], .fix 4 [.d (dbool false)], .dead, .fix 27 [.d (di .i64 a0.Kind), .d (di .i64 a0.Layout), .d (di .i64 a0.SRID), .d (eS1 a0.Flat), .d (eS2 a0.Ends), .d (eS3 a0.Endss), .d (eS0 a0.Kids)], .grow 32 1 (List.map keS1 g123), .fix 97 [.d (di .i64 y116.geom2.geom1.geom0.layout), .d (di .i64 y116.geom2.geom1.geom0.stride), .own 5, .d (di .i64 a0.SRID), .d (eS2 y116.geom2.ends)], .dead, .dead, .dead, .frame fr124 [(2, .ptr 1 0), (3, .ptr 2 0)], .fix 27 [.d (di .i64 (0 : Int)), .d (di .i64 (0 : Int)), .d (di .i64 (0 : Int)), .d (.v (.slice none 0 0)), .d (.v (.slice none 0 0)), .d (.v (.slice none 0 0)), .d (.v (.slice none 0 0))], .dead, .fix 27 [.d (di .i64 (3 : Int)), .d (di .i64 (0 : Int)), .d (di .i64 a0.SRID), .d (.v (.slice none 0 0)), .d (.v (.slice none 0 0)), .d (.v (.slice none 0 0)), .d (.v (.slice none 0 0))], .dead, .dead]) (e' := [(0, .ifc 49 (.ptr 6 0)), (2, .ptr 11 0), (3, .ptr 13 0), (70, .d (di .i64 y116.geom2.geom1.geom0.layout))]) (r := .own 5) rfl rfl rfl ?_
  change AO _ _ _ _ _
  refine AO.subO 6 rfl (.cons (SVLe.refl _) (.cons (SVLe.refl _) (.cons (SVLe.any _) (.cons (SVLe.refl _) (.cons (SVLe.refl _) .nil))))) ?_
  refine AO.freezeG 5 rfl rfl rfl ?_
  obtain ⟨y128, q129, h0⟩ := bind_elim h0
  refine AO.op rfl (AOp.callD rfl rfl (ltb rfl) rfl rfl (w_floats g123 y128 q129) ?_)
  rintro _ rfl
  refine AO.op rfl (AOp.move rfl rfl (ltb rfl) rfl ?_)
  refine AO.op rfl (AOp.inlE [0, 2, 3, 70, 73] (EntersS.meth (by kernel_rfl) rfl rfl rfl meth49_Ends rfl rfl) Try.func85 rfl Try.ntmps85 rfl (ltb rfl) (leb rfl) rfl ?_)
  intro fr130
  refine AC.seq ?_
  refine AC.region ?_
  refine AO.op rfl (AOp.assign rfl rfl (ltb rfl) rfl ?_)
  refine AO.objs (obs' := [.fix 27 [.d (di .i64 a0.Kind), .d (di .i64 a0.Layout), .d (di .i64 a0.SRID), .d (eS1 a0.Flat), .d (eS2 a0.Ends), .d (eS3 a0.Endss), .d (eS0 a0.Kids)], .fix 27 [.d (di .i64 (0 : Int)), .d (di .i64 (0 : Int)), .d (di .i64 (0 : Int)), .d (.v (.slice none 0 0)), .d (.v (.slice none 0 0)), .d (.v (.slice none 0 0)), .d (.v (.slice none 0 0))], .fix 4 [.d (dbool false)], .dead, .fix 27 [.d (di .i64 a0.Kind), .d (di .i64 a0.Layout), .d (di .i64 a0.SRID), .d (eS1 a0.Flat), .d (eS2 a0.Ends), .d (eS3 a0.Endss), .d (eS0 a0.Kids)], .dead, .fix 97 [.d (di .i64 y116.geom2.geom1.geom0.layout), .d (di .i64 y116.geom2.geom1.geom0.stride), .any, .d (di .i64 a0.SRID), .d (eS2 y116.geom2.ends)], .dead, .dead, .dead, .frame fr124 [(2, .ptr 1 0), (3, .ptr 2 0)], .fix 27 [.d (di .i64 (0 : Int)), .d (di .i64 (0 : Int)), .d (di .i64 (0 : Int)), .d (.v (.slice none 0 0)), .d (.v (.slice none 0 0)), .d (.v (.slice none 0 0)), .d (.v (.slice none 0 0))], .dead, .fix 27 [.d (di .i64 (3 : Int)), .d (di .i64 (0 : Int)), .d (di .i64 a0.SRID), .d (.v (.slice none 0 0)), .d (.v (.slice none 0 0)), .d (.v (.slice none 0 0)), .d (.v (.slice none 0 0))], .dead, .dead, .frame fr130 [(0, .ifc 49 (.ptr 6 0)), (2, .ptr 11 0), (3, .ptr 13 0), (70, .d (di .i64 y116.geom2.geom1.geom0.layout)), (73, .d (eS1 y128))]]) rfl ?_
  refine AO.nil ?_
  change AC _ _ _ _
  refine AC.seq ?_
  refine AC.region ?_
  refine AO.op rfl (AOp.move rfl rfl (ltb rfl) rfl ?_)
  refine AO.op rfl (AOp.nilCheck rfl rfl (ltb rfl) rfl rfl ?_)
  refine AO.op rfl (AOp.fieldAddr rfl rfl (ltb rfl) rfl fo95_1 ?_)
  refine AO.op rfl (AOp.load1 rfl rfl (ltb rfl) rfl agg23 rfl rfl ?_)
  refine AO.op rfl (AOp.assign rfl rfl (ltb rfl) rfl ?_)
  refine AO.nil ?_
  change AC _ _ _ _
  refine AC.ret ?_
  refine inlret (ob' := [.fix 27 [.d (di .i64 a0.Kind), .d (di .i64 a0.Layout), .d (di .i64 a0.SRID), .d (eS1 a0.Flat), .d (eS2 a0.Ends), .d (eS3 a0.Endss), .d (eS0 a0.Kids)], .fix 27 [.d (di .i64 (0 : Int)), .d (di .i64 (0 : Int)), .d (di .i64 (0 : Int)), .d (.v (.slice none 0 0)), .d (.v (.slice none 0 0)), .d (.v (.slice none 0 0)), .d (.v (.slice none 0 0))], .fix 4 [.d (dbool false)], .dead, .fix 27 [.d (di .i64 a0.Kind), .d (di .i64 a0.Layout), .d (di .i64 a0.SRID), .d (eS1 a0.Flat), .d (eS2 a0.Ends), .d (eS3 a0.Endss), .d (eS0 a0.Kids)], .dead, .fix 97 [.d (di .i64 y116.geom2.geom1.geom0.layout), .d (di .i64 y116.geom2.geom1.geom0.stride), .any, .d (di .i64 a0.SRID), .d (eS2 y116.geom2.ends)], .dead, .dead, .dead, .frame fr124 [(2, .ptr 1 0), (3, .ptr 2 0)], .fix 27 [.d (di .i64 (0 : Int)), .d (di .i64 (0 : Int)), .d (di .i64 (0 : Int)), .d (.v (.slice none 0 0)), .d (.v (.slice none 0 0)), .d (.v (.slice none 0 0)), .d (.v (.slice none 0 0))], .dead, .fix 27 [.d (di .i64 (3 : Int)), .d (di .i64 (0 : Int)), .d (di .i64 a0.SRID), .d (.v (.slice none 0 0)), .d (.v (.slice none 0 0)), .d (.v (.slice none 0 0)), .d (.v (.slice none 0 0))], .dead, .dead, .dead]) (e' := [(0, .ifc 49 (.ptr 6 0)), (2, .ptr 11 0), (3, .ptr 13 0), (70, .d (di .i64 y116.geom2.geom1.geom0.layout)), (73, .d (eS1 y128))]) (r := .d (eS2 y116.geom2.ends)) rfl rfl rfl ?_
  change AO _ _ _ _ _
  obtain ⟨y131, q132, h0⟩ := bind_elim h0
  refine AO.op rfl (AOp.callD rfl rfl (ltb rfl) rfl rfl (w_ints y116.geom2.ends y131 q132) ?_)
  rintro _ rfl
  refine AO.op rfl (AOp.move rfl rfl (ltb rfl) rfl ?_)
  refine AO.op rfl (AOp.inlE [2, 3, 70, 73, 76] (EntersS.meth (by kernel_rfl) rfl rfl rfl meth49_Endss rfl rfl) Try.func86 rfl Try.ntmps86 rfl (ltb rfl) (leb rfl) rfl ?_)
  intro fr133
  refine AC.seq ?_
  refine AC.region ?_
  refine AO.op rfl (AOp.assign rfl rfl (ltb rfl) rfl ?_)
  refine AO.objs (obs' := [.fix 27 [.d (di .i64 a0.Kind), .d (di .i64 a0.Layout), .d (di .i64 a0.SRID), .d (eS1 a0.Flat), .d (eS2 a0.Ends), .d (eS3 a0.Endss), .d (eS0 a0.Kids)], .fix 27 [.d (di .i64 (0 : Int)), .d (di .i64 (0 : Int)), .d (di .i64 (0 : Int)), .d (.v (.slice none 0 0)), .d (.v (.slice none 0 0)), .d (.v (.slice none 0 0)), .d (.v (.slice none 0 0))], .fix 4 [.d (dbool false)], .dead, .fix 27 [.d (di .i64 a0.Kind), .d (di .i64 a0.Layout), .d (di .i64 a0.SRID), .d (eS1 a0.Flat), .d (eS2 a0.Ends), .d (eS3 a0.Endss), .d (eS0 a0.Kids)], .dead, .fix 97 [.d (di .i64 y116.geom2.geom1.geom0.layout), .d (di .i64 y116.geom2.geom1.geom0.stride), .any, .d (di .i64 a0.SRID), .d (eS2 y116.geom2.ends)], .dead, .dead, .dead, .frame fr124 [(2, .ptr 1 0), (3, .ptr 2 0)], .fix 27 [.d (di .i64 (0 : Int)), .d (di .i64 (0 : Int)), .d (di .i64 (0 : Int)), .d (.v (.slice none 0 0)), .d (.v (.slice none 0 0)), .d (.v (.slice none 0 0)), .d (.v (.slice none 0 0))], .dead, .fix 27 [.d (di .i64 (3 : Int)), .d (di .i64 (0 : Int)), .d (di .i64 a0.SRID), .d (.v (.slice none 0 0)), .d (.v (.slice none 0 0)), .d (.v (.slice none 0 0)), .d (.v (.slice none 0 0))], .dead, .dead, .dead, .frame fr133 [(2, .ptr 11 0), (3, .ptr 13 0), (70, .d (di .i64 y116.geom2.geom1.geom0.layout)), (73, .d (eS1 y128)), (76, .d (eS2 y131))]]) rfl ?_
  refine AO.nil ?_
  change AC _ _ _ _
  refine AC.seq ?_
  refine AC.region ?_
  refine AO.op rfl (AOp.assign rfl rfl (ltb rfl) rfl ?_)
  refine AO.nil ?_
  change AC _ _ _ _
  refine AC.ret ?_
  refine inlret (ob' := [.fix 27 [.d (di .i64 a0.Kind), .d (di .i64 a0.Layout), .d (di .i64 a0.SRID), .d (eS1 a0.Flat), .d (eS2 a0.Ends), .d (eS3 a0.Endss), .d (eS0 a0.Kids)], .fix 27 [.d (di .i64 (0 : Int)), .d (di .i64 (0 : Int)), .d (di .i64 (0 : Int)), .d (.v (.slice none 0 0)), .d (.v (.slice none 0 0)), .d (.v (.slice none 0 0)), .d (.v (.slice none 0 0))], .fix 4 [.d (dbool false)], .dead, .fix 27 [.d (di .i64 a0.Kind), .d (di .i64 a0.Layout), .d (di .i64 a0.SRID), .d (eS1 a0.Flat), .d (eS2 a0.Ends), .d (eS3 a0.Endss), .d (eS0 a0.Kids)], .dead, .fix 97 [.d (di .i64 y116.geom2.geom1.geom0.layout), .d (di .i64 y116.geom2.geom1.geom0.stride), .any, .d (di .i64 a0.SRID), .d (eS2 y116.geom2.ends)], .dead, .dead, .dead, .frame fr124 [(2, .ptr 1 0), (3, .ptr 2 0)], .fix 27 [.d (di .i64 (0 : Int)), .d (di .i64 (0 : Int)), .d (di .i64 (0 : Int)), .d (.v (.slice none 0 0)), .d (.v (.slice none 0 0)), .d (.v (.slice none 0 0)), .d (.v (.slice none 0 0))], .dead, .fix 27 [.d (di .i64 (3 : Int)), .d (di .i64 (0 : Int)), .d (di .i64 a0.SRID), .d (.v (.slice none 0 0)), .d (.v (.slice none 0 0)), .d (.v (.slice none 0 0)), .d (.v (.slice none 0 0))], .dead, .dead, .dead, .dead]) (e' := [(2, .ptr 11 0), (3, .ptr 13 0), (70, .d (di .i64 y116.geom2.geom1.geom0.layout)), (73, .d (eS1 y128)), (76, .d (eS2 y131))]) (r := .d (.v (.slice none 0 0))) rfl rfl rfl ?_
  change AO _ _ _ _ _
  refine AO.sub 78 rfl (SVLe.nil 1) ?_
  obtain ⟨y134, q135, h0⟩ := bind_elim h0
  refine AO.op rfl (AOp.callD rfl rfl (ltb rfl) rfl rfl (w_intss F [] y134 q135) ?_)
  rintro _ rfl
  refine AO.op rfl (AOp.fieldAddr rfl rfl (ltb rfl) rfl fo27_1 ?_)
  refine AO.op rfl (AOp.store rfl rfl rfl rfl size3 rfl rfl rfl (leb rfl) ?_)
  refine AO.op rfl (AOp.fieldAddr rfl rfl (ltb rfl) rfl fo27_3 ?_)
  refine AO.op rfl (AOp.store rfl rfl rfl rfl size22 rfl rfl rfl (leb rfl) ?_)
  refine AO.op rfl (AOp.fieldAddr rfl rfl (ltb rfl) rfl fo27_4 ?_)
  refine AO.op rfl (AOp.store rfl rfl rfl rfl size23 rfl rfl rfl (leb rfl) ?_)
  refine AO.op rfl (AOp.fieldAddr rfl rfl (ltb rfl) rfl fo27_5 ?_)
  refine AO.op rfl (AOp.store rfl rfl rfl rfl size24 rfl rfl rfl (leb rfl) ?_)
  refine AO.objs (obs' := [.fix 27 [.d (di .i64 a0.Kind), .d (di .i64 a0.Layout), .d (di .i64 a0.SRID), .d (eS1 a0.Flat), .d (eS2 a0.Ends), .d (eS3 a0.Endss), .d (eS0 a0.Kids)], .fix 27 [.d (di .i64 (0 : Int)), .d (di .i64 (0 : Int)), .d (di .i64 (0 : Int)), .d (.v (.slice none 0 0)), .d (.v (.slice none 0 0)), .d (.v (.slice none 0 0)), .d (.v (.slice none 0 0))], .fix 4 [.d (dbool false)], .dead, .fix 27 [.d (di .i64 a0.Kind), .d (di .i64 a0.Layout), .d (di .i64 a0.SRID), .d (eS1 a0.Flat), .d (eS2 a0.Ends), .d (eS3 a0.Endss), .d (eS0 a0.Kids)], .dead, .fix 97 [.d (di .i64 y116.geom2.geom1.geom0.layout), .d (di .i64 y116.geom2.geom1.geom0.stride), .any, .d (di .i64 a0.SRID), .d (eS2 y116.geom2.ends)], .dead, .dead, .dead, .frame fr124 [(2, .ptr 1 0), (3, .ptr 2 0)], .fix 27 [.d (di .i64 (0 : Int)), .d (di .i64 (0 : Int)), .d (di .i64 (0 : Int)), .d (.v (.slice none 0 0)), .d (.v (.slice none 0 0)), .d (.v (.slice none 0 0)), .d (.v (.slice none 0 0))], .dead, .fix 27 [.d (di .i64 (3 : Int)), .d (di .i64 y116.geom2.geom1.geom0.layout), .d (di .i64 a0.SRID), .d (eS1 y128), .d (eS2 y131), .d (eS3 y134), .d (.v (.slice none 0 0))], .dead, .dead, .dead, .dead]) rfl ?_
  refine AO.nil ?_
  change AC _ _ _ _
  refine AC.seq ?_
  refine AC.region ?_
  refine AO.op rfl (AOp.loadN rfl rfl (ltb rfl) rfl agg27 size27 rfl (leb rfl) rfl ?_)
  refine AO.op rfl (AOp.store rfl rfl rfl rfl size27 rfl rfl rfl (leb rfl) ?_)
  refine AO.nil ?_
  change AC _ _ _ _
  refine AC.ret ?_
  refine inlret (ob' := [.fix 27 [.d (di .i64 a0.Kind), .d (di .i64 a0.Layout), .d (di .i64 a0.SRID), .d (eS1 a0.Flat), .d (eS2 a0.Ends), .d (eS3 a0.Endss), .d (eS0 a0.Kids)], .fix 27 [.d (di .i64 (0 : Int)), .d (di .i64 (0 : Int)), .d (di .i64 (0 : Int)), .d (.v (.slice none 0 0)), .d (.v (.slice none 0 0)), .d (.v (.slice none 0 0)), .d (.v (.slice none 0 0))], .fix 4 [.d (dbool false)], .dead, .fix 27 [.d (di .i64 a0.Kind), .d (di .i64 a0.Layout), .d (di .i64 a0.SRID), .d (eS1 a0.Flat), .d (eS2 a0.Ends), .d (eS3 a0.Endss), .d (eS0 a0.Kids)], .dead, .fix 97 [.d (di .i64 y116.geom2.geom1.geom0.layout), .d (di .i64 y116.geom2.geom1.geom0.stride), .any, .d (di .i64 a0.SRID), .d (eS2 y116.geom2.ends)], .dead, .dead, .dead, .dead, .fix 27 [.d (di .i64 (3 : Int)), .d (di .i64 y116.geom2.geom1.geom0.layout), .d (di .i64 a0.SRID), .d (eS1 y128), .d (eS2 y131), .d (eS3 y134), .d (.v (.slice none 0 0))], .dead, .fix 27 [.d (di .i64 (3 : Int)), .d (di .i64 y116.geom2.geom1.geom0.layout), .d (di .i64 a0.SRID), .d (eS1 y128), .d (eS2 y131), .d (eS3 y134), .d (.v (.slice none 0 0))], .dead, .dead, .dead, .dead]) (e' := [(2, .ptr 1 0), (3, .ptr 2 0)]) (r := .ag [.d (di .i64 (3 : Int)), .d (di .i64 y116.geom2.geom1.geom0.layout), .d (di .i64 a0.SRID), .d (eS1 y128), .d (eS2 y131), .d (eS3 y134), .d (.v (.slice none 0 0))]) rfl rfl rfl ?_
  change AO _ _ _ _ _
  refine AO.op rfl (AOp.store rfl rfl rfl rfl size27 rfl rfl rfl (leb rfl) ?_)
  refine AO.op rfl (AOp.store rfl rfl rfl rfl size4 rfl rfl rfl (leb rfl) ?_)
  refine AO.objs (obs' := [.fix 27 [.d (di .i64 a0.Kind), .d (di .i64 a0.Layout), .d (di .i64 a0.SRID), .d (eS1 a0.Flat), .d (eS2 a0.Ends), .d (eS3 a0.Endss), .d (eS0 a0.Kids)], .fix 27 [.d (di .i64 (3 : Int)), .d (di .i64 y116.geom2.geom1.geom0.layout), .d (di .i64 a0.SRID), .d (eS1 y128), .d (eS2 y131), .d (eS3 y134), .d (.v (.slice none 0 0))], .fix 4 [.d (dbool true)], .dead, .fix 27 [.d (di .i64 a0.Kind), .d (di .i64 a0.Layout), .d (di .i64 a0.SRID), .d (eS1 a0.Flat), .d (eS2 a0.Ends), .d (eS3 a0.Endss), .d (eS0 a0.Kids)], .dead, .fix 97 [.d (di .i64 y116.geom2.geom1.geom0.layout), .d (di .i64 y116.geom2.geom1.geom0.stride), .any, .d (di .i64 a0.SRID), .d (eS2 y116.geom2.ends)], .dead, .dead, .dead, .dead, .fix 27 [.d (di .i64 (3 : Int)), .d (di .i64 y116.geom2.geom1.geom0.layout), .d (di .i64 a0.SRID), .d (eS1 y128), .d (eS2 y131), .d (eS3 y134), .d (.v (.slice none 0 0))], .dead, .fix 27 [.d (di .i64 (3 : Int)), .d (di .i64 y116.geom2.geom1.geom0.layout), .d (di .i64 a0.SRID), .d (eS1 y128), .d (eS2 y131), .d (eS3 y134), .d (.v (.slice none 0 0))], .dead, .dead, .dead, .dead]) rfl ?_
  refine AO.nil ?_
  change AC _ _ _ _
  refine AC.subO 1 rfl (.cons (SVLe.refl _) (.cons (SVLe.refl _) (.cons (SVLe.refl _) (.cons (SVLe.refl _) (.cons (SVLe.refl _) (.cons (SVLe.refl _) (.cons (SVLe.nil 7) .nil))))))) ?_
  refine AC.ret ?_
  change RetQ _ _ _ .ret _
  obtain rfl := Option.some.inj h0
  refine retq rfl rfl
 exact absurd (hp3.symm.trans q113) (by decide)

set_option maxRecDepth 100000 in
set_option maxHeartbeats 4000000 in
/-- pub-orthodrome/impl.Reverse -/
theorem w_Reverse_c4 (F : Nat) (a0 : TImpl_Geom) (r0 : (TImpl_Geom × Bool)) (h0 : p_Reverse F a0 = some r0) (hp0 : (decide (a0.Kind = (1 : Int))) = false) (hp1 : (decide (a0.Kind = (2 : Int))) = false) (hp2 : (decide (a0.Kind = (8 : Int))) = false) (hp3 : (decide (a0.Kind = (3 : Int))) = false) (hp4 : (decide (a0.Kind = (4 : Int))) = true) : FnD Try.prog 14 [e_TImpl_Geom a0] (fun r => r = .tu [e_TImpl_Geom r0.1, dbool r0.2]) := by
 refine FnD.wrap (g := 31) (m := 2) (fun vs w h => idle31 vs w h) (by kernel_rfl) Try.func14 rfl Try.ntmps14 rfl (leb rfl) fun W ok => ?_
 unfold p_Reverse at h0
 refine AW.seq ?_
 refine AC.region ?_
 refine AO.op rfl (AOp.box rfl rfl (ltb rfl) rfl rfl ?_)
 refine AO.op rfl (AOp.alloc rfl rfl (ltb rfl) zero27 rfl ?_)
 refine AO.op rfl (AOp.alloc rfl rfl (ltb rfl) zero4 rfl ?_)
 refine AO.nil ?_
 refine ⟨rfl, ?_⟩
 refine AW.defer (caps := [.tmp 2, .tmp 3]) rfl rfl rfl (ltb rfl) rfl rfl rfl rfl (by kernel_rfl) rfl fun df => ?_
 refine AC.seq ?_
 refine AC.region ?_
 refine AO.op rfl (AOp.loadN rfl rfl (ltb rfl) rfl agg27 size27 rfl (leb rfl) rfl ?_)
 refine AO.op rfl (AOp.inl [2, 3] (by kernel_rfl) Try.func22 rfl Try.ntmps22 rfl rfl (ltb rfl) rfl (leb rfl) rfl ?_)
 intro fr1
 refine AC.seq ?_
 refine AC.region ?_
 refine AO.op rfl (AOp.box rfl rfl (ltb rfl) rfl rfl ?_)
 refine AO.op rfl (AOp.assign rfl rfl (ltb rfl) rfl ?_)
 refine AO.nil ?_
 change AC _ _ _ _
 refine AC.seq ?_
 refine AC.room ?_
 obtain ⟨y2, q3, h0⟩ := bind_elim h0
 refine AC.drawS [0, 1, 2, 3, 4] [4] [5, 6] (fun L => [.fix 27 [.d (di .i64 a0.Kind), .d (di .i64 a0.Layout), .d (di .i64 a0.SRID), .d (eS1 a0.Flat), .d (eS2 a0.Ends), .d (eS3 a0.Endss), .d (eS0 a0.Kids)], .fix 27 [.d (di .i64 (0 : Int)), .d (di .i64 (0 : Int)), .d (di .i64 (0 : Int)), .d (.v (.slice none 0 0)), .d (.v (.slice none 0 0)), .d (.v (.slice none 0 0)), .d (.v (.slice none 0 0))], .fix 4 [.d (dbool false)], .frame fr1 [(2, .ptr 1 0), (3, .ptr 2 0)], .fix 27 [.d (di .i64 a0.Kind), .d (di .i64 a0.Layout), .d (di .i64 a0.SRID), .d (eS1 a0.Flat), .d (eS2 a0.Ends), .d (eS3 a0.Endss), .d (eS0 a0.Kids)], bif L 4 then .grow 32 1 (List.map keS1 y2) else .dead]) [(4, SV.noO2 5 6)] mixed (by kernel_rfl) (fun L L' h => by simp only [h 4 (by decide)]) rfl ?_
 refine AS.op [1] [] [] [4] rfl rfl rfl (by kernel_rfl) (by kernel_rfl) rfl rfl (fun _ _ _ h => AOp.fieldAddr rfl rfl (ltb rfl) rfl fo27_1 h) (by kernel_rfl) ?_
 refine AS.op [8] [] [] [4] rfl rfl rfl (by kernel_rfl) (by kernel_rfl) rfl rfl (fun _ _ _ h => AOp.load1 rfl rfl (ltb rfl) rfl agg3 rfl rfl h) (by kernel_rfl) ?_
 refine AS.op [1] [] [4] [] rfl rfl rfl (by kernel_rfl) (by kernel_rfl) rfl rfl (fun _ _ _ h => AOp.fieldAddr rfl rfl (ltb rfl) rfl fo27_3 h) (by kernel_rfl) ?_
 refine AS.op [10] [] [4] [] rfl rfl rfl (by kernel_rfl) (by kernel_rfl) rfl rfl (fun _ _ _ h => AOp.load1 rfl rfl (ltb rfl) rfl agg22 rfl rfl h) (by kernel_rfl) ?_
 refine AS.mid [11] [] [4] [] rfl rfl rfl rfl (by kernel_rfl) (by kernel_rfl) rfl rfl (fun _ _ _ h => AOp.callNew rfl rfl (ltb rfl) rfl rfl (wn_floats a0.Flat y2 q3) (AO.sink 5 6 rfl rfl rfl (.cons rfl (.cons rfl (.cons rfl (.cons rfl (.cons rfl (.cons (noO2_cond rfl rfl) .nil)))))) rfl h)) (by kernel_rfl) rfl ?_
 refine AS.done ?_
 refine AO.objs (obs' := [.fix 27 [.d (di .i64 a0.Kind), .d (di .i64 a0.Layout), .d (di .i64 a0.SRID), .d (eS1 a0.Flat), .d (eS2 a0.Ends), .d (eS3 a0.Endss), .d (eS0 a0.Kids)], .fix 27 [.d (di .i64 (0 : Int)), .d (di .i64 (0 : Int)), .d (di .i64 (0 : Int)), .d (.v (.slice none 0 0)), .d (.v (.slice none 0 0)), .d (.v (.slice none 0 0)), .d (.v (.slice none 0 0))], .fix 4 [.d (dbool false)], .frame fr1 [(2, .ptr 1 0), (3, .ptr 2 0)], .fix 27 [.d (di .i64 a0.Kind), .d (di .i64 a0.Layout), .d (di .i64 a0.SRID), .d (eS1 a0.Flat), .d (eS2 a0.Ends), .d (eS3 a0.Endss), .d (eS0 a0.Kids)], .grow 32 1 (List.map keS1 y2)]) rfl ?_
 refine AO.op rfl (AOp.assign rfl rfl (ltb rfl) rfl ?_)
 refine AO.op rfl (AOp.assign rfl rfl (ltb rfl) rfl ?_)
 refine AO.objs (obs' := [.fix 27 [.d (di .i64 a0.Kind), .d (di .i64 a0.Layout), .d (di .i64 a0.SRID), .d (eS1 a0.Flat), .d (eS2 a0.Ends), .d (eS3 a0.Endss), .d (eS0 a0.Kids)], .fix 27 [.d (di .i64 (0 : Int)), .d (di .i64 (0 : Int)), .d (di .i64 (0 : Int)), .d (.v (.slice none 0 0)), .d (.v (.slice none 0 0)), .d (.v (.slice none 0 0)), .d (.v (.slice none 0 0))], .fix 4 [.d (dbool false)], .frame fr1 [(2, .ptr 1 0), (3, .ptr 2 0)], .fix 27 [.d (di .i64 a0.Kind), .d (di .i64 a0.Layout), .d (di .i64 a0.SRID), .d (eS1 a0.Flat), .d (eS2 a0.Ends), .d (eS3 a0.Endss), .d (eS0 a0.Kids)], .grow 32 1 (List.map keS1 y2)]) rfl ?_
 refine AO.nil ?_
 change AC _ _ _ _
 refine AC.seq ?_
 refine AC.seq ?_
 refine AC.region ?_
 refine AO.op rfl (AOp.fieldAddr rfl rfl (ltb rfl) rfl fo27_0 ?_)
 refine AO.op rfl (AOp.load1 rfl rfl (ltb rfl) rfl agg3 rfl rfl ?_)
 refine AO.nil ?_
 change AC _ _ _ _
 refine AC.block ?_
 refine AC.seq ?_
 refine AC.region ?_
 refine AO.op rfl (AOp.ieql rfl rfl (ltb rfl) rfl rfl ?_)
 refine AO.op rfl (AOp.assign rfl rfl (ltb rfl) rfl ?_)
 refine AO.nil ?_
 change AC _ _ _ _
 refine AC.cond rfl (fun q4 => ?_) (fun q4 => ?_)
 ·exact absurd (hp0.symm.trans q4) (by decide)
 replace h0 := cF h0 q4
 refine AC.seq ?_
 refine AC.region ?_
 refine AO.op rfl (AOp.ieql rfl rfl (ltb rfl) rfl rfl ?_)
 refine AO.op rfl (AOp.assign rfl rfl (ltb rfl) rfl ?_)
 refine AO.nil ?_
 change AC _ _ _ _
 refine AC.cond rfl (fun q5 => ?_) (fun q5 => ?_)
 ·exact absurd (hp1.symm.trans q5) (by decide)
 replace h0 := cF h0 q5
 refine AC.seq ?_
 refine AC.region ?_
 refine AO.op rfl (AOp.ieql rfl rfl (ltb rfl) rfl rfl ?_)
 refine AO.op rfl (AOp.assign rfl rfl (ltb rfl) rfl ?_)
 refine AO.nil ?_
 change AC _ _ _ _
 refine AC.cond rfl (fun q59 => ?_) (fun q59 => ?_)
 ·exact absurd (hp2.symm.trans q59) (by decide)
 replace h0 := cF h0 q59
 refine AC.seq ?_
 refine AC.region ?_
 refine AO.op rfl (AOp.ieql rfl rfl (ltb rfl) rfl rfl ?_)
 refine AO.op rfl (AOp.assign rfl rfl (ltb rfl) rfl ?_)
 refine AO.nil ?_
 change AC _ _ _ _
 refine AC.cond rfl (fun q113 => ?_) (fun q113 => ?_)
 ·exact absurd (hp3.symm.trans q113) (by decide)
 replace h0 := cF h0 q113
 refine AC.seq ?_
 refine AC.region ?_
 refine AO.op rfl (AOp.ieql rfl rfl (ltb rfl) rfl rfl ?_)
 refine AO.op rfl (AOp.assign rfl rfl (ltb rfl) rfl ?_)
 refine AO.nil ?_
 change AC _ _ _ _
 refine AC.cond rfl (fun q180 => ?_) (fun q180 => ?_)
 ·replace h0 := cT h0 q180
  refine AC.seq ?_
  refine AC.room ?_
  obtain ⟨y181, q182, h0⟩ := bind_elim h0
  obtain ⟨y183, q184, h0⟩ := bind_elim h0
  obtain ⟨y185, q186, h0⟩ := bind_elim h0
  refine AC.drawS [0, 1, 2, 3, 4, 5, 6, 7, 8, 9] [7] [10, 11, 12] (fun L => [.fix 27 [.d (di .i64 a0.Kind), .d (di .i64 a0.Layout), .d (di .i64 a0.SRID), .d (eS1 a0.Flat), .d (eS2 a0.Ends), .d (eS3 a0.Endss), .d (eS0 a0.Kids)], .fix 27 [.d (di .i64 (0 : Int)), .d (di .i64 (0 : Int)), .d (di .i64 (0 : Int)), .d (.v (.slice none 0 0)), .d (.v (.slice none 0 0)), .d (.v (.slice none 0 0)), .d (.v (.slice none 0 0))], .fix 4 [.d (dbool false)], .frame fr1 [(2, .ptr 1 0), (3, .ptr 2 0)], .fix 27 [.d (di .i64 a0.Kind), .d (di .i64 a0.Layout), .d (di .i64 a0.SRID), .d (eS1 a0.Flat), .d (eS2 a0.Ends), .d (eS3 a0.Endss), .d (eS0 a0.Kids)], .grow 32 1 (List.map keS1 y2), bif L 7 then .fix 98 [.d (di .i64 y185.geom2.geom1.geom0.layout), .d (di .i64 y185.geom2.geom1.geom0.stride), .own 5, .d (di .i64 y185.geom2.geom1.geom0.srid), .d (eS2 y185.geom2.ends)] else .dead]) [(7, SV.noO2 6 7)] mixed (by kernel_rfl) (fun L L' h => by simp only [h 7 (by decide)]) rfl ?_
  refine AS.op [3] [] [7] [] rfl rfl rfl (by kernel_rfl) (by kernel_rfl) rfl rfl (fun _ _ _ h => AOp.move rfl rfl (ltb rfl) rfl h) (by kernel_rfl) ?_
  refine AS.op [4] [] [7] [] rfl rfl rfl (by kernel_rfl) (by kernel_rfl) rfl rfl (fun _ _ _ h => AOp.move rfl rfl (ltb rfl) rfl h) (by kernel_rfl) ?_
  refine AS.op [1] [] [7] [] rfl rfl rfl (by kernel_rfl) (by kernel_rfl) rfl rfl (fun _ _ _ h => AOp.fieldAddr rfl rfl (ltb rfl) rfl fo27_4 h) (by kernel_rfl) ?_
  refine AS.op [58] [] [7] [] rfl rfl rfl (by kernel_rfl) (by kernel_rfl) rfl rfl (fun _ _ _ h => AOp.load1 rfl rfl (ltb rfl) rfl agg23 rfl rfl h) (by kernel_rfl) ?_
  refine AS.op [59] [] [7] [] rfl rfl rfl (by kernel_rfl) (by kernel_rfl) rfl rfl (fun _ _ _ h => AOp.callD rfl rfl (ltb rfl) rfl rfl (w_ints a0.Ends y181 q182) (by rintro _ rfl; exact h)) (by kernel_rfl) ?_
  refine AS.op [60] [] [7] [] rfl rfl rfl (by kernel_rfl) (by kernel_rfl) rfl rfl (fun _ _ _ h => AOp.callD rfl rfl (ltb rfl) rfl rfl (w_NewMultiPointFlatOptionWithEnds y181 y183 q184) (by rintro _ rfl; exact h)) (by kernel_rfl) ?_
  refine AS.op [61] [] [7] [] rfl rfl rfl (by kernel_rfl) (by kernel_rfl) rfl rfl (fun _ _ _ h => AOp.buildSliceD rfl rfl (ltb rfl) el117 zero78 rfl (leb rfl) rfl rfl rfl rfl h) (by kernel_rfl) ?_
  refine AS.mid [56, 57, 62] [] [7] [] rfl rfl rfl rfl (by kernel_rfl) (by kernel_rfl) rfl rfl (fun _ _ _ h => AOp.callAT (p := 5) (n := y2.length) (cz := [some (di .i64 y185.geom2.geom1.geom0.layout), some (di .i64 y185.geom2.geom1.geom0.stride), none, some (di .i64 y185.geom2.geom1.geom0.srid), some (eS2 y185.geom2.ends)]) rfl rfl (ltb rfl) rfl rfl rfl (by decide) (len1 _ _) (fun sa sc => wt_NewMultiPointFlat sa sc F a0.Layout y2.length [y183] y185 q186) rfl (AO.sink 6 7 rfl rfl rfl (.cons rfl (.cons rfl (.cons rfl (.cons rfl (.cons rfl (.cons rfl (.cons (noO2_cond rfl rfl) .nil))))))) rfl h)) (by kernel_rfl) rfl ?_
  refine AS.op [1] [] [] [7] rfl rfl rfl (by kernel_rfl) (by kernel_rfl) rfl rfl (fun _ _ _ h => AOp.fieldAddr rfl rfl (ltb rfl) rfl fo27_2 h) (by kernel_rfl) ?_
  refine AS.op [64] [] [] [7] rfl rfl rfl (by kernel_rfl) (by kernel_rfl) rfl rfl (fun _ _ _ h => AOp.load1 rfl rfl (ltb rfl) rfl agg3 rfl rfl h) (by kernel_rfl) ?_
  refine AS.done ?_
  refine AO.objs (obs' := [.fix 27 [.d (di .i64 a0.Kind), .d (di .i64 a0.Layout), .d (di .i64 a0.SRID), .d (eS1 a0.Flat), .d (eS2 a0.Ends), .d (eS3 a0.Endss), .d (eS0 a0.Kids)], .fix 27 [.d (di .i64 (0 : Int)), .d (di .i64 (0 : Int)), .d (di .i64 (0 : Int)), .d (.v (.slice none 0 0)), .d (.v (.slice none 0 0)), .d (.v (.slice none 0 0)), .d (.v (.slice none 0 0))], .fix 4 [.d (dbool false)], .frame fr1 [(2, .ptr 1 0), (3, .ptr 2 0)], .fix 27 [.d (di .i64 a0.Kind), .d (di .i64 a0.Layout), .d (di .i64 a0.SRID), .d (eS1 a0.Flat), .d (eS2 a0.Ends), .d (eS3 a0.Endss), .d (eS0 a0.Kids)], .grow 32 1 (List.map keS1 y2), .fix 98 [.d (di .i64 y185.geom2.geom1.geom0.layout), .d (di .i64 y185.geom2.geom1.geom0.stride), .own 5, .d (di .i64 y185.geom2.geom1.geom0.srid), .d (eS2 y185.geom2.ends)]]) rfl ?_
  refine AO.op rfl (AOp.inl [2] (by kernel_rfl) Try.func50 rfl Try.ntmps50 rfl rfl (ltb rfl) rfl (leb rfl) rfl ?_)
  intro fr187
  refine AC.seq ?_
  refine AC.region ?_
  refine AO.op rfl (AOp.assign rfl rfl (ltb rfl) rfl ?_)
  refine AO.objs (obs' := [.fix 27 [.d (di .i64 a0.Kind), .d (di .i64 a0.Layout), .d (di .i64 a0.SRID), .d (eS1 a0.Flat), .d (eS2 a0.Ends), .d (eS3 a0.Endss), .d (eS0 a0.Kids)], .fix 27 [.d (di .i64 (0 : Int)), .d (di .i64 (0 : Int)), .d (di .i64 (0 : Int)), .d (.v (.slice none 0 0)), .d (.v (.slice none 0 0)), .d (.v (.slice none 0 0)), .d (.v (.slice none 0 0))], .fix 4 [.d (dbool false)], .frame fr1 [(2, .ptr 1 0), (3, .ptr 2 0)], .fix 27 [.d (di .i64 a0.Kind), .d (di .i64 a0.Layout), .d (di .i64 a0.SRID), .d (eS1 a0.Flat), .d (eS2 a0.Ends), .d (eS3 a0.Endss), .d (eS0 a0.Kids)], .grow 32 1 (List.map keS1 y2), .fix 98 [.d (di .i64 y185.geom2.geom1.geom0.layout), .d (di .i64 y185.geom2.geom1.geom0.stride), .own 5, .d (di .i64 y185.geom2.geom1.geom0.srid), .d (eS2 y185.geom2.ends)], .frame fr187 [(2, .d (.v (.nilIface)))]]) rfl ?_
  refine AO.nil ?_
  change AC _ _ _ _
  refine AC.seq ?_
  refine AC.region ?_
  refine AO.op rfl (AOp.move rfl rfl (ltb rfl) rfl ?_)
  refine AO.op rfl (AOp.move rfl rfl (ltb rfl) rfl ?_)
  refine AO.op rfl (AOp.nilCheck rfl rfl (ltb rfl) rfl rfl ?_)
  refine AO.op rfl (AOp.fieldAddr rfl rfl (ltb rfl) rfl fo98_0 ?_)
  refine AO.op rfl (AOp.fieldAddr rfl rfl (ltb rfl) rfl fo95_0 ?_)
  refine AO.op rfl (AOp.fieldAddr rfl rfl (ltb rfl) rfl fo93_0 ?_)
  refine AO.op rfl (AOp.fieldAddr rfl rfl (ltb rfl) rfl fo91_3 ?_)
  refine AO.op rfl (AOp.store rfl rfl rfl rfl size3 rfl rfl rfl (leb rfl) ?_)
  refine AO.nil ?_
  change AC _ _ _ _
  refine AC.seq ?_
  refine AC.region ?_
  refine AO.op rfl (AOp.move rfl rfl (ltb rfl) rfl ?_)
  refine AO.op rfl (AOp.assign rfl rfl (ltb rfl) rfl ?_)
  refine AO.nil ?_
  change AC _ _ _ _
  refine AC.ret ?_
  refine inlret (ob' := [.fix 27 [.d (di .i64 a0.Kind), .d (di .i64 a0.Layout), .d (di .i64 a0.SRID), .d (eS1 a0.Flat), .d (eS2 a0.Ends), .d (eS3 a0.Endss), .d (eS0 a0.Kids)], .fix 27 [.d (di .i64 (0 : Int)), .d (di .i64 (0 : Int)), .d (di .i64 (0 : Int)), .d (.v (.slice none 0 0)), .d (.v (.slice none 0 0)), .d (.v (.slice none 0 0)), .d (.v (.slice none 0 0))], .fix 4 [.d (dbool false)], .frame fr1 [(2, .ptr 1 0), (3, .ptr 2 0)], .fix 27 [.d (di .i64 a0.Kind), .d (di .i64 a0.Layout), .d (di .i64 a0.SRID), .d (eS1 a0.Flat), .d (eS2 a0.Ends), .d (eS3 a0.Endss), .d (eS0 a0.Kids)], .grow 32 1 (List.map keS1 y2), .fix 98 [.d (di .i64 y185.geom2.geom1.geom0.layout), .d (di .i64 y185.geom2.geom1.geom0.stride), .own 5, .d (di .i64 a0.SRID), .d (eS2 y185.geom2.ends)], .dead]) (e' := [(2, .d (.v (.nilIface)))]) (r := .ptr 6 0) rfl rfl rfl ?_
  change AO _ _ _ _ _
  refine AO.op rfl (AOp.makeIfc rfl rfl (ltb rfl) rfl conc51 ?_)
  refine AO.op rfl (AOp.assign rfl rfl (ltb rfl) rfl ?_)
  refine AO.objs (obs' := [.fix 27 [.d (di .i64 a0.Kind), .d (di .i64 a0.Layout), .d (di .i64 a0.SRID), .d (eS1 a0.Flat), .d (eS2 a0.Ends), .d (eS3 a0.Endss), .d (eS0 a0.Kids)], .fix 27 [.d (di .i64 (0 : Int)), .d (di .i64 (0 : Int)), .d (di .i64 (0 : Int)), .d (.v (.slice none 0 0)), .d (.v (.slice none 0 0)), .d (.v (.slice none 0 0)), .d (.v (.slice none 0 0))], .fix 4 [.d (dbool false)], .frame fr1 [(2, .ptr 1 0), (3, .ptr 2 0)], .fix 27 [.d (di .i64 a0.Kind), .d (di .i64 a0.Layout), .d (di .i64 a0.SRID), .d (eS1 a0.Flat), .d (eS2 a0.Ends), .d (eS3 a0.Endss), .d (eS0 a0.Kids)], .grow 32 1 (List.map keS1 y2), .fix 98 [.d (di .i64 y185.geom2.geom1.geom0.layout), .d (di .i64 y185.geom2.geom1.geom0.stride), .own 5, .d (di .i64 a0.SRID), .d (eS2 y185.geom2.ends)], .dead]) rfl ?_
  refine AO.nil ?_
  change AC _ _ _ _
  refine AC.ret ?_
  refine inlret (ob' := [.fix 27 [.d (di .i64 a0.Kind), .d (di .i64 a0.Layout), .d (di .i64 a0.SRID), .d (eS1 a0.Flat), .d (eS2 a0.Ends), .d (eS3 a0.Endss), .d (eS0 a0.Kids)], .fix 27 [.d (di .i64 (0 : Int)), .d (di .i64 (0 : Int)), .d (di .i64 (0 : Int)), .d (.v (.slice none 0 0)), .d (.v (.slice none 0 0)), .d (.v (.slice none 0 0)), .d (.v (.slice none 0 0))], .fix 4 [.d (dbool false)], .dead, .fix 27 [.d (di .i64 a0.Kind), .d (di .i64 a0.Layout), .d (di .i64 a0.SRID), .d (eS1 a0.Flat), .d (eS2 a0.Ends), .d (eS3 a0.Endss), .d (eS0 a0.Kids)], .grow 32 1 (List.map keS1 y2), .fix 98 [.d (di .i64 y185.geom2.geom1.geom0.layout), .d (di .i64 y185.geom2.geom1.geom0.stride), .own 5, .d (di .i64 a0.SRID), .d (eS2 y185.geom2.ends)], .dead]) (e' := [(2, .ptr 1 0), (3, .ptr 2 0)]) (r := .ifc 51 (.ptr 6 0)) rfl rfl rfl ?_
  change AO _ _ _ _ _
  refine AO.op rfl (AOp.assign rfl rfl (ltb rfl) rfl ?_)
  refine AO.objs (obs' := [.fix 27 [.d (di .i64 a0.Kind), .d (di .i64 a0.Layout), .d (di .i64 a0.SRID), .d (eS1 a0.Flat), .d (eS2 a0.Ends), .d (eS3 a0.Endss), .d (eS0 a0.Kids)], .fix 27 [.d (di .i64 (0 : Int)), .d (di .i64 (0 : Int)), .d (di .i64 (0 : Int)), .d (.v (.slice none 0 0)), .d (.v (.slice none 0 0)), .d (.v (.slice none 0 0)), .d (.v (.slice none 0 0))], .fix 4 [.d (dbool false)], .dead, .fix 27 [.d (di .i64 a0.Kind), .d (di .i64 a0.Layout), .d (di .i64 a0.SRID), .d (eS1 a0.Flat), .d (eS2 a0.Ends), .d (eS3 a0.Endss), .d (eS0 a0.Kids)], .grow 32 1 (List.map keS1 y2), .fix 98 [.d (di .i64 y185.geom2.geom1.geom0.layout), .d (di .i64 y185.geom2.geom1.geom0.stride), .own 5, .d (di .i64 a0.SRID), .d (eS2 y185.geom2.ends)], .dead]) rfl ?_
  refine AO.nil ?_
  change AC _ _ _ _
  refine AC.seq ?_
  refine AC.region ?_
  refine AO.op rfl (AOp.move rfl rfl (ltb rfl) rfl ?_)
  refine AO.op rfl (AOp.assertYes rfl rfl (ltb rfl) rfl rfl pass51_55 rfl ?_)
  refine AO.op rfl (AOp.move rfl rfl (ltb rfl) rfl ?_)
  first | refine AO.op rfl (AOp.extractD rfl rfl (ltb rfl) rfl rfl ?_) | refine AO.op rfl (AOp.extract rfl rfl (ltb rfl) rfl rfl ?_)
  first | refine AO.op rfl (AOp.extractD rfl rfl (ltb rfl) rfl rfl ?_) | refine AO.op rfl (AOp.extract rfl rfl (ltb rfl) rfl rfl ?_)
  refine AO.op rfl (AOp.assign rfl rfl (ltb rfl) rfl ?_)
  refine AO.op rfl (AOp.assign rfl rfl (ltb rfl) rfl ?_)
  refine AO.nil ?_
  change AC _ _ _ _
  refine AC.seq ?_
  refine AC.seq ?_
  refine AC.region ?_
  refine AO.op rfl (AOp.move rfl rfl (ltb rfl) rfl ?_)
  refine AO.op rfl (AOp.bnot rfl rfl (ltb rfl) rfl ?_)
  refine AO.nil ?_
  change AC _ _ _ _
  refine AC.condF rfl rfl ?_
  refine AC.skip ?_
  change AC _ _ _ _
  refine AC.seq ?_
  refine AC.region ?_
  refine AO.op rfl (AOp.move rfl rfl (ltb rfl) rfl ?_)
  refine AO.op rfl (AOp.inlE [2, 3, 4] (EntersS.meth (by kernel_rfl) rfl rfl rfl meth51_Reverse rfl rfl) Try.func89 rfl Try.ntmps89 rfl (ltb rfl) (leb rfl) rfl ?_)
  intro fr188
  refine AC.draw 16 mixed (by kernel_rfl) ?_
  refine AD.op [0] rfl (by kernel_rfl) rfl rfl (fun _ _ h => AOp.move rfl rfl (ltb rfl) rfl h) ?_
  refine AD.op [2] rfl (by kernel_rfl) rfl rfl (fun _ _ h => AOp.nilCheck rfl rfl (ltb rfl) rfl rfl h) ?_
  refine AD.op [3] rfl (by kernel_rfl) rfl rfl (fun _ _ h => AOp.fieldAddr rfl rfl (ltb rfl) rfl fo95_0 h) ?_
  refine AD.op [4] rfl (by kernel_rfl) rfl rfl (fun _ _ h => AOp.fieldAddr rfl rfl (ltb rfl) rfl fo93_0 h) ?_
  refine AD.op [5] rfl (by kernel_rfl) rfl rfl (fun _ _ h => AOp.fieldAddr rfl rfl (ltb rfl) rfl fo91_2 h) ?_
  refine AD.op [6] rfl (by kernel_rfl) rfl rfl (fun _ _ h => AOp.load1 rfl rfl (ltb rfl) rfl agg22 rfl rfl h) ?_
  refine AD.op [0] rfl (by kernel_rfl) rfl rfl (fun _ _ h => AOp.move rfl rfl (ltb rfl) rfl h) ?_
  refine AD.op [8] rfl (by kernel_rfl) rfl rfl (fun _ _ h => AOp.nilCheck rfl rfl (ltb rfl) rfl rfl h) ?_
  refine AD.op [9] rfl (by kernel_rfl) rfl rfl (fun _ _ h => AOp.fieldAddr rfl rfl (ltb rfl) rfl fo95_1 h) ?_
  refine AD.op [10] rfl (by kernel_rfl) rfl rfl (fun _ _ h => AOp.load1 rfl rfl (ltb rfl) rfl agg23 rfl rfl h) ?_
  refine AD.op [0] rfl (by kernel_rfl) rfl rfl (fun _ _ h => AOp.move rfl rfl (ltb rfl) rfl h) ?_
  refine AD.op [12] rfl (by kernel_rfl) rfl rfl (fun _ _ h => AOp.nilCheck rfl rfl (ltb rfl) rfl rfl h) ?_
  refine AD.op [13] rfl (by kernel_rfl) rfl rfl (fun _ _ h => AOp.fieldAddr rfl rfl (ltb rfl) rfl fo95_0 h) ?_
  refine AD.op [14] rfl (by kernel_rfl) rfl rfl (fun _ _ h => AOp.fieldAddr rfl rfl (ltb rfl) rfl fo93_0 h) ?_
  refine AD.op [15] rfl (by kernel_rfl) rfl rfl (fun _ _ h => AOp.fieldAddr rfl rfl (ltb rfl) rfl fo91_1 h) ?_
  refine AD.op [16] rfl (by kernel_rfl) rfl rfl (fun _ _ h => AOp.load1 rfl rfl (ltb rfl) rfl agg3 rfl rfl h) ?_
  refine AD.done ?_
  refine AO.op rfl (AOp.inl [] (by kernel_rfl) Try.func92 rfl Try.ntmps92 rfl rfl (ltb rfl) rfl (leb rfl) rfl ?_)
  intro fr189
  refine AC.seq ?_
  refine AC.region ?_
  refine AO.op rfl (AOp.move rfl rfl (ltb rfl) rfl ?_)
  refine AO.op rfl (AOp.lenDs (n := y185.geom2.ends.length) (cells := (List.map keS2 y185.geom2.ends)) rfl rfl (ltb rfl) rfl el23 (by decide) (len1 _ _) ?_)
  refine AO.op rfl (AOp.move rfl rfl (ltb rfl) rfl ?_)
  refine AO.objs (obs' := [.fix 27 [.d (di .i64 a0.Kind), .d (di .i64 a0.Layout), .d (di .i64 a0.SRID), .d (eS1 a0.Flat), .d (eS2 a0.Ends), .d (eS3 a0.Endss), .d (eS0 a0.Kids)], .fix 27 [.d (di .i64 (0 : Int)), .d (di .i64 (0 : Int)), .d (di .i64 (0 : Int)), .d (.v (.slice none 0 0)), .d (.v (.slice none 0 0)), .d (.v (.slice none 0 0)), .d (.v (.slice none 0 0))], .fix 4 [.d (dbool false)], .dead, .fix 27 [.d (di .i64 a0.Kind), .d (di .i64 a0.Layout), .d (di .i64 a0.SRID), .d (eS1 a0.Flat), .d (eS2 a0.Ends), .d (eS3 a0.Endss), .d (eS0 a0.Kids)], .grow 32 1 (List.map keS1 y2), .fix 98 [.d (di .i64 y185.geom2.geom1.geom0.layout), .d (di .i64 y185.geom2.geom1.geom0.stride), .own 5, .d (di .i64 a0.SRID), .d (eS2 y185.geom2.ends)], .dead, .frame fr188 [(2, .ptr 1 0), (3, .ptr 2 0), (4, .ifc 51 (.ptr 6 0))], .frame fr189 []]) rfl ?_
  refine AO.nil ?_
  change AC _ _ _ _
  obtain ⟨o190, l191, h0⟩ := bind_elim h0
  refine AC.joinE (V := (List Nat)) [] [] 10 (fun g192 => []) (fun g192 => [.fix 27 [.d (di .i64 a0.Kind), .d (di .i64 a0.Layout), .d (di .i64 a0.SRID), .d (eS1 a0.Flat), .d (eS2 a0.Ends), .d (eS3 a0.Endss), .d (eS0 a0.Kids)], .fix 27 [.d (di .i64 (0 : Int)), .d (di .i64 (0 : Int)), .d (di .i64 (0 : Int)), .d (.v (.slice none 0 0)), .d (.v (.slice none 0 0)), .d (.v (.slice none 0 0)), .d (.v (.slice none 0 0))], .fix 4 [.d (dbool false)], .dead, .fix 27 [.d (di .i64 a0.Kind), .d (di .i64 a0.Layout), .d (di .i64 a0.SRID), .d (eS1 a0.Flat), .d (eS2 a0.Ends), .d (eS3 a0.Endss), .d (eS0 a0.Kids)], .grow 32 1 (List.map keS1 g192), .fix 98 [.d (di .i64 y185.geom2.geom1.geom0.layout), .d (di .i64 y185.geom2.geom1.geom0.stride), .own 5, .d (di .i64 a0.SRID), .d (eS2 y185.geom2.ends)], .dead, .frame fr188 [(2, .ptr 1 0), (3, .ptr 2 0), (4, .ifc 51 (.ptr 6 0))], .frame fr189 []]) (fun g192 => (p_Reverse_k15 a0 F y185) g192 = some r0) rfl ?_ ?_
  ·refine AC.block ?_
   refine AC.loopP (V := (Int × Int × (List Nat))) (p_Reverse_l16 F y185) o190 [0, 3, 10, 11] [1, 12] 10 (fun g205 => [(1, .d (di .i64 g205.1)), (12, .d (di .i64 g205.2.1))]) (fun g205 => [.fix 27 [.d (di .i64 a0.Kind), .d (di .i64 a0.Layout), .d (di .i64 a0.SRID), .d (eS1 a0.Flat), .d (eS2 a0.Ends), .d (eS3 a0.Endss), .d (eS0 a0.Kids)], .fix 27 [.d (di .i64 (0 : Int)), .d (di .i64 (0 : Int)), .d (di .i64 (0 : Int)), .d (.v (.slice none 0 0)), .d (.v (.slice none 0 0)), .d (.v (.slice none 0 0)), .d (.v (.slice none 0 0))], .fix 4 [.d (dbool false)], .dead, .fix 27 [.d (di .i64 a0.Kind), .d (di .i64 a0.Layout), .d (di .i64 a0.SRID), .d (eS1 a0.Flat), .d (eS2 a0.Ends), .d (eS3 a0.Endss), .d (eS0 a0.Kids)], .grow 32 1 (List.map keS1 g205.2.2), .fix 98 [.d (di .i64 y185.geom2.geom1.geom0.layout), .d (di .i64 y185.geom2.geom1.geom0.stride), .own 5, .d (di .i64 a0.SRID), .d (eS2 y185.geom2.ends)], .dead, .frame fr188 [(2, .ptr 1 0), (3, .ptr 2 0), (4, .ifc 51 (.ptr 6 0))], .frame fr189 []]) F ((0 : Int), (0 : Int), y2) l191 rfl rfl (LeL.refl _) rfl rfl ?_
   intro n207 g205 h1
   unfold p_Reverse_l16 at h1
   refine AC.seq ?_
   refine AC.region ?_
   refine AO.op rfl (AOp.ilss rfl rfl (ltb rfl) rfl rfl ?_)
   refine AO.nil ?_
   change AC _ _ _ _
   refine AC.seq ?_
   refine AC.cond rfl (fun q208 => ?_) (fun q208 => ?_)
   ·replace h1 := cT h1 q208
    refine AC.skip ?_
    change AC _ _ _ _
    refine AC.seq ?_
    refine AC.block ?_
    refine AC.seq ?_
    refine AC.region ?_
    obtain ⟨x209, q210, h1⟩ := idx_elim h1
    refine AO.op rfl (AOp.indexDs (cells := (List.map keS2 y185.geom2.ends)) rfl rfl (ltb rfl) rfl rfl el23 (by decide) q210.1 (lt1 q210.2) ?_)
    refine AO.op rfl (AOp.loadEp rfl rfl (ltb rfl) rfl agg3 (at1 q210.2) ?_)
    refine AO.op rfl (AOp.assign rfl rfl (ltb rfl) rfl ?_)
    refine AO.nil ?_
    change AC _ _ _ _
    refine AC.seq ?_
    refine AC.region ?_
    refine AO.op rfl (AOp.move rfl rfl (ltb rfl) rfl ?_)
    refine AO.op rfl (AOp.move rfl rfl (ltb rfl) rfl ?_)
    refine AO.op rfl (AOp.move rfl rfl (ltb rfl) rfl ?_)
    refine AO.op rfl (AOp.move rfl rfl (ltb rfl) rfl ?_)
    refine AO.op rfl (AOp.inl [0, 3, 9, 10, 11, 12] (by kernel_rfl) Try.func93 rfl Try.ntmps93 rfl rfl (ltb rfl) rfl (leb rfl) rfl ?_)
    intro fr211
    refine AC.seq ?_
    refine AC.region ?_
    refine AO.op rfl (AOp.move rfl rfl (ltb rfl) rfl ?_)
    refine AO.op rfl (AOp.move rfl rfl (ltb rfl) rfl ?_)
    obtain ⟨q212, h1⟩ := need_elim h1
    refine AO.op rfl (AOp.iadd rfl rfl (ltb rfl) rfl rfl rfl q212.1 q212.2 ?_)
    refine AO.op rfl (AOp.move rfl rfl (ltb rfl) rfl ?_)
    refine AO.op rfl (AOp.assign rfl rfl (ltb rfl) rfl ?_)
    refine AO.op rfl (AOp.assign rfl rfl (ltb rfl) rfl ?_)
    refine AO.objs (obs' := [.fix 27 [.d (di .i64 a0.Kind), .d (di .i64 a0.Layout), .d (di .i64 a0.SRID), .d (eS1 a0.Flat), .d (eS2 a0.Ends), .d (eS3 a0.Endss), .d (eS0 a0.Kids)], .fix 27 [.d (di .i64 (0 : Int)), .d (di .i64 (0 : Int)), .d (di .i64 (0 : Int)), .d (.v (.slice none 0 0)), .d (.v (.slice none 0 0)), .d (.v (.slice none 0 0)), .d (.v (.slice none 0 0))], .fix 4 [.d (dbool false)], .dead, .fix 27 [.d (di .i64 a0.Kind), .d (di .i64 a0.Layout), .d (di .i64 a0.SRID), .d (eS1 a0.Flat), .d (eS2 a0.Ends), .d (eS3 a0.Endss), .d (eS0 a0.Kids)], .grow 32 1 (List.map keS1 g205.2.2), .fix 98 [.d (di .i64 y185.geom2.geom1.geom0.layout), .d (di .i64 y185.geom2.geom1.geom0.stride), .own 5, .d (di .i64 a0.SRID), .d (eS2 y185.geom2.ends)], .dead, .frame fr188 [(2, .ptr 1 0), (3, .ptr 2 0), (4, .ifc 51 (.ptr 6 0))], .frame fr189 [], .frame fr211 [(0, .own 5), (3, .d (di .i64 y185.geom2.geom1.geom0.stride)), (9, .d (di .i64 x209)), (10, .d (eS2 y185.geom2.ends)), (11, .d (di .i64 ((y185.geom2.ends.length : Nat) : Int))), (12, .d (di .i64 g205.2.1))]]) rfl ?_
    refine AO.nil ?_
    change AC _ _ _ _
    obtain ⟨o213, l214, h1⟩ := bind_elim h1
    refine AC.joinE (V := (List Nat)) [] [] 11 (fun g215 => []) (fun g215 => [.fix 27 [.d (di .i64 a0.Kind), .d (di .i64 a0.Layout), .d (di .i64 a0.SRID), .d (eS1 a0.Flat), .d (eS2 a0.Ends), .d (eS3 a0.Endss), .d (eS0 a0.Kids)], .fix 27 [.d (di .i64 (0 : Int)), .d (di .i64 (0 : Int)), .d (di .i64 (0 : Int)), .d (.v (.slice none 0 0)), .d (.v (.slice none 0 0)), .d (.v (.slice none 0 0)), .d (.v (.slice none 0 0))], .fix 4 [.d (dbool false)], .dead, .fix 27 [.d (di .i64 a0.Kind), .d (di .i64 a0.Layout), .d (di .i64 a0.SRID), .d (eS1 a0.Flat), .d (eS2 a0.Ends), .d (eS3 a0.Endss), .d (eS0 a0.Kids)], .grow 32 1 (List.map keS1 g215), .fix 98 [.d (di .i64 y185.geom2.geom1.geom0.layout), .d (di .i64 y185.geom2.geom1.geom0.stride), .own 5, .d (di .i64 a0.SRID), .d (eS2 y185.geom2.ends)], .dead, .frame fr188 [(2, .ptr 1 0), (3, .ptr 2 0), (4, .ifc 51 (.ptr 6 0))], .frame fr189 [], .frame fr211 [(0, .own 5), (3, .d (di .i64 y185.geom2.geom1.geom0.stride)), (9, .d (di .i64 x209)), (10, .d (eS2 y185.geom2.ends)), (11, .d (di .i64 ((y185.geom2.ends.length : Nat) : Int))), (12, .d (di .i64 g205.2.1))]]) (fun g215 => (p_Reverse_k17 g205 (iter (p_Reverse_l16 F y185) n207) x209) g215 = some o190) rfl ?_ ?_
    ·refine AC.block ?_
     refine AC.loopP (V := (Int × Int × (List Nat))) (p_Reverse_l18 F y185) o213 [0, 3] [8, 9] 11 (fun g217 => [(8, .d (di .i64 g217.1)), (9, .d (di .i64 g217.2.1))]) (fun g217 => [.fix 27 [.d (di .i64 a0.Kind), .d (di .i64 a0.Layout), .d (di .i64 a0.SRID), .d (eS1 a0.Flat), .d (eS2 a0.Ends), .d (eS3 a0.Endss), .d (eS0 a0.Kids)], .fix 27 [.d (di .i64 (0 : Int)), .d (di .i64 (0 : Int)), .d (di .i64 (0 : Int)), .d (.v (.slice none 0 0)), .d (.v (.slice none 0 0)), .d (.v (.slice none 0 0)), .d (.v (.slice none 0 0))], .fix 4 [.d (dbool false)], .dead, .fix 27 [.d (di .i64 a0.Kind), .d (di .i64 a0.Layout), .d (di .i64 a0.SRID), .d (eS1 a0.Flat), .d (eS2 a0.Ends), .d (eS3 a0.Endss), .d (eS0 a0.Kids)], .grow 32 1 (List.map keS1 g217.2.2), .fix 98 [.d (di .i64 y185.geom2.geom1.geom0.layout), .d (di .i64 y185.geom2.geom1.geom0.stride), .own 5, .d (di .i64 a0.SRID), .d (eS2 y185.geom2.ends)], .dead, .frame fr188 [(2, .ptr 1 0), (3, .ptr 2 0), (4, .ifc 51 (.ptr 6 0))], .frame fr189 [], .frame fr211 [(0, .own 5), (3, .d (di .i64 y185.geom2.geom1.geom0.stride)), (9, .d (di .i64 x209)), (10, .d (eS2 y185.geom2.ends)), (11, .d (di .i64 ((y185.geom2.ends.length : Nat) : Int))), (12, .d (di .i64 g205.2.1))]]) F ((g205.1 + y185.geom2.geom1.geom0.stride), x209, g205.2.2) l214 rfl rfl (LeL.refl _) rfl rfl ?_
     intro n219 g217 h2
     unfold p_Reverse_l18 at h2
     refine AC.seq ?_
     refine AC.seq ?_
     refine AC.region ?_
     refine AO.op rfl (AOp.move rfl rfl (ltb rfl) rfl ?_)
     refine AO.op rfl (AOp.move rfl rfl (ltb rfl) rfl ?_)
     refine AO.op rfl (AOp.ileq rfl rfl (ltb rfl) rfl rfl ?_)
     refine AO.nil ?_
     change AC _ _ _ _
     refine AC.cond rfl (fun q220 => ?_) (fun q220 => ?_)
     ·replace h2 := cT h2 q220
      refine AC.skip ?_
      change AC _ _ _ _
      refine AC.seq ?_
      refine AC.block ?_
      refine AC.seq ?_
      refine AC.region ?_
      refine AO.op rfl (AOp.move rfl rfl (ltb rfl) rfl ?_)
      refine AO.op rfl (AOp.move rfl rfl (ltb rfl) rfl ?_)
      refine AO.nil ?_
      change AC _ _ _ _
      obtain ⟨o221, l222, h2⟩ := bind_elim h2
      refine AC.joinE (V := (List Nat)) [0, 3, 8, 9] [] 11 (fun g223 => []) (fun g223 => [.fix 27 [.d (di .i64 a0.Kind), .d (di .i64 a0.Layout), .d (di .i64 a0.SRID), .d (eS1 a0.Flat), .d (eS2 a0.Ends), .d (eS3 a0.Endss), .d (eS0 a0.Kids)], .fix 27 [.d (di .i64 (0 : Int)), .d (di .i64 (0 : Int)), .d (di .i64 (0 : Int)), .d (.v (.slice none 0 0)), .d (.v (.slice none 0 0)), .d (.v (.slice none 0 0)), .d (.v (.slice none 0 0))], .fix 4 [.d (dbool false)], .dead, .fix 27 [.d (di .i64 a0.Kind), .d (di .i64 a0.Layout), .d (di .i64 a0.SRID), .d (eS1 a0.Flat), .d (eS2 a0.Ends), .d (eS3 a0.Endss), .d (eS0 a0.Kids)], .grow 32 1 (List.map keS1 g223), .fix 98 [.d (di .i64 y185.geom2.geom1.geom0.layout), .d (di .i64 y185.geom2.geom1.geom0.stride), .own 5, .d (di .i64 a0.SRID), .d (eS2 y185.geom2.ends)], .dead, .frame fr188 [(2, .ptr 1 0), (3, .ptr 2 0), (4, .ifc 51 (.ptr 6 0))], .frame fr189 [], .frame fr211 [(0, .own 5), (3, .d (di .i64 y185.geom2.geom1.geom0.stride)), (9, .d (di .i64 x209)), (10, .d (eS2 y185.geom2.ends)), (11, .d (di .i64 ((y185.geom2.ends.length : Nat) : Int))), (12, .d (di .i64 g205.2.1))]]) (fun g223 => (p_Reverse_k19 y185 g217 (iter (p_Reverse_l18 F y185) n219)) g223 = some o213) rfl ?_ ?_
      ·refine AC.block ?_
       refine AC.loopP (V := (Int × (List Nat))) (p_Reverse_l20 y185 g217) o221 [0, 3, 8, 9, 24] [25] 11 (fun g226 => [(25, .d (di .i64 g226.1))]) (fun g226 => [.fix 27 [.d (di .i64 a0.Kind), .d (di .i64 a0.Layout), .d (di .i64 a0.SRID), .d (eS1 a0.Flat), .d (eS2 a0.Ends), .d (eS3 a0.Endss), .d (eS0 a0.Kids)], .fix 27 [.d (di .i64 (0 : Int)), .d (di .i64 (0 : Int)), .d (di .i64 (0 : Int)), .d (.v (.slice none 0 0)), .d (.v (.slice none 0 0)), .d (.v (.slice none 0 0)), .d (.v (.slice none 0 0))], .fix 4 [.d (dbool false)], .dead, .fix 27 [.d (di .i64 a0.Kind), .d (di .i64 a0.Layout), .d (di .i64 a0.SRID), .d (eS1 a0.Flat), .d (eS2 a0.Ends), .d (eS3 a0.Endss), .d (eS0 a0.Kids)], .grow 32 1 (List.map keS1 g226.2), .fix 98 [.d (di .i64 y185.geom2.geom1.geom0.layout), .d (di .i64 y185.geom2.geom1.geom0.stride), .own 5, .d (di .i64 a0.SRID), .d (eS2 y185.geom2.ends)], .dead, .frame fr188 [(2, .ptr 1 0), (3, .ptr 2 0), (4, .ifc 51 (.ptr 6 0))], .frame fr189 [], .frame fr211 [(0, .own 5), (3, .d (di .i64 y185.geom2.geom1.geom0.stride)), (9, .d (di .i64 x209)), (10, .d (eS2 y185.geom2.ends)), (11, .d (di .i64 ((y185.geom2.ends.length : Nat) : Int))), (12, .d (di .i64 g205.2.1))]]) F ((0 : Int), g217.2.2) l222 rfl rfl (LeL.refl _) rfl rfl ?_
       intro n228 g226 h3
       unfold p_Reverse_l20 at h3
       refine AC.seq ?_
       refine AC.region ?_
       refine AO.op rfl (AOp.ilss rfl rfl (ltb rfl) rfl rfl ?_)
       refine AO.nil ?_
       change AC _ _ _ _
       refine AC.seq ?_
       refine AC.cond rfl (fun q229 => ?_) (fun q229 => ?_)
       ·replace h3 := cT h3 q229
        refine AC.skip ?_
        change AC _ _ _ _
        refine AC.seq ?_
        refine AC.block ?_
        refine AC.seq ?_
        refine AC.region ?_
        refine AO.op rfl (AOp.move rfl rfl (ltb rfl) rfl ?_)
        refine AO.op rfl (AOp.assign rfl rfl (ltb rfl) rfl ?_)
        refine AO.nil ?_
        change AC _ _ _ _
        obtain ⟨q230, h3⟩ := need_elim h3
        obtain ⟨q231, h3⟩ := need_elim h3
        obtain ⟨q232, h3⟩ := need_elim h3
        obtain ⟨q233, h3⟩ := need_elim h3
        obtain ⟨q234, h3⟩ := need_elim h3
        obtain ⟨q235, h3⟩ := need_elim h3
        obtain ⟨q236, h3⟩ := need_elim h3
        obtain ⟨x237, q238, h3⟩ := idx_elim h3
        obtain ⟨q239, h3⟩ := need_elim h3
        obtain ⟨q240, h3⟩ := need_elim h3
        obtain ⟨q241, h3⟩ := need_elim h3
        obtain ⟨x242, q243, h3⟩ := idx_elim h3
        obtain ⟨q244, h3⟩ := need_elim h3
        obtain ⟨q245, h3⟩ := need_elim h3
        refine AC.drawS [0, 1, 2, 3, 4, 5, 6, 7, 8, 9, 10, 11, 12, 13, 14, 15, 16, 17, 18, 19, 20, 21, 22, 23, 24, 25, 26, 27, 28, 29] [29] [30, 31] (fun L => [.fix 27 [.d (di .i64 a0.Kind), .d (di .i64 a0.Layout), .d (di .i64 a0.SRID), .d (eS1 a0.Flat), .d (eS2 a0.Ends), .d (eS3 a0.Endss), .d (eS0 a0.Kids)], .fix 27 [.d (di .i64 (0 : Int)), .d (di .i64 (0 : Int)), .d (di .i64 (0 : Int)), .d (.v (.slice none 0 0)), .d (.v (.slice none 0 0)), .d (.v (.slice none 0 0)), .d (.v (.slice none 0 0))], .fix 4 [.d (dbool false)], .dead, .fix 27 [.d (di .i64 a0.Kind), .d (di .i64 a0.Layout), .d (di .i64 a0.SRID), .d (eS1 a0.Flat), .d (eS2 a0.Ends), .d (eS3 a0.Endss), .d (eS0 a0.Kids)], bif L 29 then .grow 32 1 (List.map keS1 (g226.2.set (((g217.1 - y185.geom2.geom1.geom0.stride) + g226.1)).toNat x237)) else .grow 32 1 (List.map keS1 g226.2), .fix 98 [.d (di .i64 y185.geom2.geom1.geom0.layout), .d (di .i64 y185.geom2.geom1.geom0.stride), .own 5, .d (di .i64 a0.SRID), .d (eS2 y185.geom2.ends)], .dead, .frame fr188 [(2, .ptr 1 0), (3, .ptr 2 0), (4, .ifc 51 (.ptr 6 0))], .frame fr189 [], .frame fr211 [(0, .own 5), (3, .d (di .i64 y185.geom2.geom1.geom0.stride)), (9, .d (di .i64 x209)), (10, .d (eS2 y185.geom2.ends)), (11, .d (di .i64 ((y185.geom2.ends.length : Nat) : Int))), (12, .d (di .i64 g205.2.1))]]) [(29, (fun _ => true))] mixed (by kernel_rfl) (fun L L' h => by simp only [h 29 (by decide)]) rfl ?_
        refine AS.op [0] [] [29] [] rfl rfl rfl (by kernel_rfl) (by kernel_rfl) rfl rfl (fun _ _ _ h => AOp.move rfl rfl (ltb rfl) rfl h) (by kernel_rfl) ?_
        refine AS.op [8] [] [29] [] rfl rfl rfl (by kernel_rfl) (by kernel_rfl) rfl rfl (fun _ _ _ h => AOp.move rfl rfl (ltb rfl) rfl h) (by kernel_rfl) ?_
        refine AS.op [3] [] [29] [] rfl rfl rfl (by kernel_rfl) (by kernel_rfl) rfl rfl (fun _ _ _ h => AOp.move rfl rfl (ltb rfl) rfl h) (by kernel_rfl) ?_
        refine AS.op [29, 30] [] [29] [] rfl rfl rfl (by kernel_rfl) (by kernel_rfl) rfl rfl (fun _ _ _ h => AOp.isub rfl rfl (ltb rfl) rfl rfl rfl q230.1 q230.2 h) (by kernel_rfl) ?_
        refine AS.op [10] [] [29] [] rfl rfl rfl (by kernel_rfl) (by kernel_rfl) rfl rfl (fun _ _ _ h => AOp.move rfl rfl (ltb rfl) rfl h) (by kernel_rfl) ?_
        refine AS.op [31, 32] [] [29] [] rfl rfl rfl (by kernel_rfl) (by kernel_rfl) rfl rfl (fun _ _ _ h => AOp.iadd rfl rfl (ltb rfl) rfl rfl rfl q231.1 q231.2 h) (by kernel_rfl) ?_
        refine AS.op [0] [] [] [29] rfl rfl rfl (by kernel_rfl) (by kernel_rfl) rfl rfl (fun _ _ _ h => AOp.move rfl rfl (ltb rfl) rfl h) (by kernel_rfl) ?_
        refine AS.op [9] [] [] [29] rfl rfl rfl (by kernel_rfl) (by kernel_rfl) rfl rfl (fun _ _ _ h => AOp.move rfl rfl (ltb rfl) rfl h) (by kernel_rfl) ?_
        refine AS.op [3] [] [] [29] rfl rfl rfl (by kernel_rfl) (by kernel_rfl) rfl rfl (fun _ _ _ h => AOp.move rfl rfl (ltb rfl) rfl h) (by kernel_rfl) ?_
        refine AS.op [35, 36] [] [] [29] rfl rfl rfl (by kernel_rfl) (by kernel_rfl) rfl rfl (fun _ _ _ h => AOp.isub rfl rfl (ltb rfl) rfl rfl rfl q232.1 q232.2 h) (by kernel_rfl) ?_
        refine AS.op [10] [] [] [29] rfl rfl rfl (by kernel_rfl) (by kernel_rfl) rfl rfl (fun _ _ _ h => AOp.move rfl rfl (ltb rfl) rfl h) (by kernel_rfl) ?_
        refine AS.op [37, 38] [] [] [29] rfl rfl rfl (by kernel_rfl) (by kernel_rfl) rfl rfl (fun _ _ _ h => AOp.iadd rfl rfl (ltb rfl) rfl rfl rfl q233.1 q233.2 h) (by kernel_rfl) ?_
        refine AS.op [0] [] [29] [] rfl rfl rfl (by kernel_rfl) (by kernel_rfl) rfl rfl (fun _ _ _ h => AOp.move rfl rfl (ltb rfl) rfl h) (by kernel_rfl) ?_
        refine AS.op [9] [] [29] [] rfl rfl rfl (by kernel_rfl) (by kernel_rfl) rfl rfl (fun _ _ _ h => AOp.move rfl rfl (ltb rfl) rfl h) (by kernel_rfl) ?_
        refine AS.op [3] [] [29] [] rfl rfl rfl (by kernel_rfl) (by kernel_rfl) rfl rfl (fun _ _ _ h => AOp.move rfl rfl (ltb rfl) rfl h) (by kernel_rfl) ?_
        refine AS.op [41, 42] [] [29] [] rfl rfl rfl (by kernel_rfl) (by kernel_rfl) rfl rfl (fun _ _ _ h => AOp.isub rfl rfl (ltb rfl) rfl rfl rfl q234.1 q234.2 h) (by kernel_rfl) ?_
        refine AS.op [10] [] [29] [] rfl rfl rfl (by kernel_rfl) (by kernel_rfl) rfl rfl (fun _ _ _ h => AOp.move rfl rfl (ltb rfl) rfl h) (by kernel_rfl) ?_
        refine AS.op [43, 44] [] [29] [] rfl rfl rfl (by kernel_rfl) (by kernel_rfl) rfl rfl (fun _ _ _ h => AOp.iadd rfl rfl (ltb rfl) rfl rfl rfl q235.1 q235.2 h) (by kernel_rfl) ?_
        refine AS.op [40, 45] [] [29] [] rfl rfl rfl (by kernel_rfl) (by kernel_rfl) rfl rfl (fun _ _ _ h => AOp.indexOwn (cells := (List.map keS1 g226.2)) (n := g226.2.length) rfl rfl (ltb rfl) rfl rfl el22 rfl (by decide) (len1 _ _) q236.1 q236.2 h) (by kernel_rfl) ?_
        refine AS.op [46] [] [29] [] rfl rfl rfl (by kernel_rfl) (by kernel_rfl) rfl rfl (fun _ _ _ h => AOp.loadO1 rfl rfl (ltb rfl) rfl agg32 rfl (at1 q238.2) h) (by kernel_rfl) ?_
        refine AS.op [0] [] [29] [] rfl rfl rfl (by kernel_rfl) (by kernel_rfl) rfl rfl (fun _ _ _ h => AOp.move rfl rfl (ltb rfl) rfl h) (by kernel_rfl) ?_
        refine AS.op [8] [] [29] [] rfl rfl rfl (by kernel_rfl) (by kernel_rfl) rfl rfl (fun _ _ _ h => AOp.move rfl rfl (ltb rfl) rfl h) (by kernel_rfl) ?_
        refine AS.op [3] [] [29] [] rfl rfl rfl (by kernel_rfl) (by kernel_rfl) rfl rfl (fun _ _ _ h => AOp.move rfl rfl (ltb rfl) rfl h) (by kernel_rfl) ?_
        refine AS.op [49, 50] [] [29] [] rfl rfl rfl (by kernel_rfl) (by kernel_rfl) rfl rfl (fun _ _ _ h => AOp.isub rfl rfl (ltb rfl) rfl rfl rfl q239.1 q239.2 h) (by kernel_rfl) ?_
        refine AS.op [10] [] [29] [] rfl rfl rfl (by kernel_rfl) (by kernel_rfl) rfl rfl (fun _ _ _ h => AOp.move rfl rfl (ltb rfl) rfl h) (by kernel_rfl) ?_
        refine AS.op [51, 52] [] [29] [] rfl rfl rfl (by kernel_rfl) (by kernel_rfl) rfl rfl (fun _ _ _ h => AOp.iadd rfl rfl (ltb rfl) rfl rfl rfl q240.1 q240.2 h) (by kernel_rfl) ?_
        refine AS.op [48, 53] [] [29] [] rfl rfl rfl (by kernel_rfl) (by kernel_rfl) rfl rfl (fun _ _ _ h => AOp.indexOwn (cells := (List.map keS1 g226.2)) (n := g226.2.length) rfl rfl (ltb rfl) rfl rfl el22 rfl (by decide) (len1 _ _) q241.1 q241.2 h) (by kernel_rfl) ?_
        refine AS.op [54] [] [29] [] rfl rfl rfl (by kernel_rfl) (by kernel_rfl) rfl rfl (fun _ _ _ h => AOp.loadO1 rfl rfl (ltb rfl) rfl agg32 rfl (at1 q243.2) h) (by kernel_rfl) ?_
        refine AS.op [28, 33] [] [29] [] rfl rfl rfl (by kernel_rfl) (by kernel_rfl) rfl rfl (fun _ _ _ h => AOp.indexOwn (cells := (List.map keS1 g226.2)) (n := g226.2.length) rfl rfl (ltb rfl) rfl rfl el22 rfl (by decide) (len1 _ _) q244.1 q244.2 h) (by kernel_rfl) ?_
        refine AS.mid0 [47, 56] [] [29] [] rfl rfl rfl rfl (by kernel_rfl) (by kernel_rfl) rfl rfl (fun _ _ _ h => AOp.storeOL (f := keS1) (l := g226.2) (i := (((g217.1 - y185.geom2.geom1.geom0.stride) + g226.1)).toNat) (v := x237) rfl rfl rfl rfl size32 rfl rfl rfl q245 (AO.dropT h)) (by kernel_rfl) rfl ?_
        refine AS.done ?_
        refine AO.objs (obs' := [.fix 27 [.d (di .i64 a0.Kind), .d (di .i64 a0.Layout), .d (di .i64 a0.SRID), .d (eS1 a0.Flat), .d (eS2 a0.Ends), .d (eS3 a0.Endss), .d (eS0 a0.Kids)], .fix 27 [.d (di .i64 (0 : Int)), .d (di .i64 (0 : Int)), .d (di .i64 (0 : Int)), .d (.v (.slice none 0 0)), .d (.v (.slice none 0 0)), .d (.v (.slice none 0 0)), .d (.v (.slice none 0 0))], .fix 4 [.d (dbool false)], .dead, .fix 27 [.d (di .i64 a0.Kind), .d (di .i64 a0.Layout), .d (di .i64 a0.SRID), .d (eS1 a0.Flat), .d (eS2 a0.Ends), .d (eS3 a0.Endss), .d (eS0 a0.Kids)], .grow 32 1 (List.map keS1 (g226.2.set (((g217.1 - y185.geom2.geom1.geom0.stride) + g226.1)).toNat x237)), .fix 98 [.d (di .i64 y185.geom2.geom1.geom0.layout), .d (di .i64 y185.geom2.geom1.geom0.stride), .own 5, .d (di .i64 a0.SRID), .d (eS2 y185.geom2.ends)], .dead, .frame fr188 [(2, .ptr 1 0), (3, .ptr 2 0), (4, .ifc 51 (.ptr 6 0))], .frame fr189 [], .frame fr211 [(0, .own 5), (3, .d (di .i64 y185.geom2.geom1.geom0.stride)), (9, .d (di .i64 x209)), (10, .d (eS2 y185.geom2.ends)), (11, .d (di .i64 ((y185.geom2.ends.length : Nat) : Int))), (12, .d (di .i64 g205.2.1))]]) rfl ?_
        obtain ⟨q246, h3⟩ := need_elim h3
        refine AO.op rfl (AOp.indexOwn (cells := (List.map keS1 (g226.2.set (((g217.1 - y185.geom2.geom1.geom0.stride) + g226.1)).toNat x237))) (n := (g226.2.set (((g217.1 - y185.geom2.geom1.geom0.stride) + g226.1)).toNat x237).length) rfl rfl (ltb rfl) rfl rfl el22 rfl (by decide) (len1 _ _) q246.1 q246.2 ?_)
        obtain ⟨q247, h3⟩ := need_elim h3
        refine AO.op rfl (AOp.storeOL (f := keS1) (l := (g226.2.set (((g217.1 - y185.geom2.geom1.geom0.stride) + g226.1)).toNat x237)) (i := (((g217.2.1 - y185.geom2.geom1.geom0.stride) + g226.1)).toNat) (v := x242) rfl rfl rfl rfl size32 rfl rfl rfl q247 ?_)
        refine AO.nil ?_
        change AC _ _ _ _
        refine AC.region ?_
        obtain ⟨q248, h3⟩ := need_elim h3
        refine AO.op rfl (AOp.iadd rfl rfl (ltb rfl) rfl rfl rfl q248.1 q248.2 ?_)
        refine AO.op rfl (AOp.move rfl rfl (ltb rfl) rfl ?_)
        refine AO.nil ?_
        exact ⟨((g226.1 + (1 : Int)), ((g226.2.set (((g217.1 - y185.geom2.geom1.geom0.stride) + g226.1)).toNat x237).set (((g217.2.1 - y185.geom2.geom1.geom0.stride) + g226.1)).toNat x242)), _, rfl, (LeL.refl _), rfl, rfl, h3⟩
       replace h3 := cF h3 q229
       refine AC.exit ?_
       obtain rfl := Option.some.inj h3
       exact ⟨g226.2, _, rfl, (LeL.refl _), rfl, rfl, aftL h2⟩
      intro g223 h2
      unfold p_Reverse_k19 at h2
      change AC _ _ _ _
      refine AC.region ?_
      refine AO.op rfl (AOp.move rfl rfl (ltb rfl) rfl ?_)
      refine AO.op rfl (AOp.move rfl rfl (ltb rfl) rfl ?_)
      obtain ⟨q224, h2⟩ := need_elim h2
      refine AO.op rfl (AOp.iadd rfl rfl (ltb rfl) rfl rfl rfl q224.1 q224.2 ?_)
      refine AO.op rfl (AOp.move rfl rfl (ltb rfl) rfl ?_)
      refine AO.op rfl (AOp.move rfl rfl (ltb rfl) rfl ?_)
      obtain ⟨q225, h2⟩ := need_elim h2
      refine AO.op rfl (AOp.isub rfl rfl (ltb rfl) rfl rfl rfl q225.1 q225.2 ?_)
      refine AO.op rfl (AOp.assign rfl rfl (ltb rfl) rfl ?_)
      refine AO.op rfl (AOp.assign rfl rfl (ltb rfl) rfl ?_)
      refine AO.nil ?_
      exact ⟨((g217.1 + y185.geom2.geom1.geom0.stride), (g217.2.1 - y185.geom2.geom1.geom0.stride), g223), _, rfl, (LeL.refl _), rfl, rfl, h2⟩
     replace h2 := cF h2 q220
     refine AC.exit ?_
     obtain rfl := Option.some.inj h2
     exact ⟨g217.2.2, _, rfl, (LeL.refl _), rfl, rfl, aftL h1⟩
    intro g215 h1
    unfold p_Reverse_k17 at h1
    refine inlend (ob' := [.fix 27 [.d (di .i64 a0.Kind), .d (di .i64 a0.Layout), .d (di .i64 a0.SRID), .d (eS1 a0.Flat), .d (eS2 a0.Ends), .d (eS3 a0.Endss), .d (eS0 a0.Kids)], .fix 27 [.d (di .i64 (0 : Int)), .d (di .i64 (0 : Int)), .d (di .i64 (0 : Int)), .d (.v (.slice none 0 0)), .d (.v (.slice none 0 0)), .d (.v (.slice none 0 0)), .d (.v (.slice none 0 0))], .fix 4 [.d (dbool false)], .dead, .fix 27 [.d (di .i64 a0.Kind), .d (di .i64 a0.Layout), .d (di .i64 a0.SRID), .d (eS1 a0.Flat), .d (eS2 a0.Ends), .d (eS3 a0.Endss), .d (eS0 a0.Kids)], .grow 32 1 (List.map keS1 g215), .fix 98 [.d (di .i64 y185.geom2.geom1.geom0.layout), .d (di .i64 y185.geom2.geom1.geom0.stride), .own 5, .d (di .i64 a0.SRID), .d (eS2 y185.geom2.ends)], .dead, .frame fr188 [(2, .ptr 1 0), (3, .ptr 2 0), (4, .ifc 51 (.ptr 6 0))], .frame fr189 [], .dead]) (e' := [(0, .own 5), (3, .d (di .i64 y185.geom2.geom1.geom0.stride)), (9, .d (di .i64 x209)), (10, .d (eS2 y185.geom2.ends)), (11, .d (di .i64 ((y185.geom2.ends.length : Nat) : Int))), (12, .d (di .i64 g205.2.1))]) (r := .tu []) rfl rfl rfl ?_
    change AO _ _ _ _ _
    refine AO.objs (obs' := [.fix 27 [.d (di .i64 a0.Kind), .d (di .i64 a0.Layout), .d (di .i64 a0.SRID), .d (eS1 a0.Flat), .d (eS2 a0.Ends), .d (eS3 a0.Endss), .d (eS0 a0.Kids)], .fix 27 [.d (di .i64 (0 : Int)), .d (di .i64 (0 : Int)), .d (di .i64 (0 : Int)), .d (.v (.slice none 0 0)), .d (.v (.slice none 0 0)), .d (.v (.slice none 0 0)), .d (.v (.slice none 0 0))], .fix 4 [.d (dbool false)], .dead, .fix 27 [.d (di .i64 a0.Kind), .d (di .i64 a0.Layout), .d (di .i64 a0.SRID), .d (eS1 a0.Flat), .d (eS2 a0.Ends), .d (eS3 a0.Endss), .d (eS0 a0.Kids)], .grow 32 1 (List.map keS1 g215), .fix 98 [.d (di .i64 y185.geom2.geom1.geom0.layout), .d (di .i64 y185.geom2.geom1.geom0.stride), .own 5, .d (di .i64 a0.SRID), .d (eS2 y185.geom2.ends)], .dead, .frame fr188 [(2, .ptr 1 0), (3, .ptr 2 0), (4, .ifc 51 (.ptr 6 0))], .frame fr189 [], .dead]) rfl ?_
    refine AO.nil ?_
    change AC _ _ _ _
    refine AC.region ?_
    refine AO.op rfl (AOp.move rfl rfl (ltb rfl) rfl ?_)
    refine AO.op rfl (AOp.assign rfl rfl (ltb rfl) rfl ?_)
    refine AO.nil ?_
    change AC _ _ _ _
    refine AC.region ?_
    obtain ⟨q216, h1⟩ := need_elim h1
    refine AO.op rfl (AOp.iadd rfl rfl (ltb rfl) rfl rfl rfl q216.1 q216.2 ?_)
    refine AO.op rfl (AOp.move rfl rfl (ltb rfl) rfl ?_)
    refine AO.nil ?_
    exact ⟨(x209, (g205.2.1 + (1 : Int)), g215), _, rfl, (LeL.refl _), rfl, rfl, h1⟩
   replace h1 := cF h1 q208
   refine AC.exit ?_
   obtain rfl := Option.some.inj h1
   exact ⟨g205.2.2, _, rfl, (LeL.refl _), rfl, rfl, aftL h0⟩
  intro g192 h0
  unfold p_Reverse_k15 at h0
  refine inlend (ob' := [.fix 27 [.d (di .i64 a0.Kind), .d (di .i64 a0.Layout), .d (di .i64 a0.SRID), .d (eS1 a0.Flat), .d (eS2 a0.Ends), .d (eS3 a0.Endss), .d (eS0 a0.Kids)], .fix 27 [.d (di .i64 (0 : Int)), .d (di .i64 (0 : Int)), .d (di .i64 (0 : Int)), .d (.v (.slice none 0 0)), .d (.v (.slice none 0 0)), .d (.v (.slice none 0 0)), .d (.v (.slice none 0 0))], .fix 4 [.d (dbool false)], .dead, .fix 27 [.d (di .i64 a0.Kind), .d (di .i64 a0.Layout), .d (di .i64 a0.SRID), .d (eS1 a0.Flat), .d (eS2 a0.Ends), .d (eS3 a0.Endss), .d (eS0 a0.Kids)], .grow 32 1 (List.map keS1 g192), .fix 98 [.d (di .i64 y185.geom2.geom1.geom0.layout), .d (di .i64 y185.geom2.geom1.geom0.stride), .own 5, .d (di .i64 a0.SRID), .d (eS2 y185.geom2.ends)], .dead, .frame fr188 [(2, .ptr 1 0), (3, .ptr 2 0), (4, .ifc 51 (.ptr 6 0))], .dead]) (e' := []) (r := .tu []) rfl rfl rfl ?_
  change AO _ _ _ _ _
  refine AO.objs (obs' := [.fix 27 [.d (di .i64 a0.Kind), .d (di .i64 a0.Layout), .d (di .i64 a0.SRID), .d (eS1 a0.Flat), .d (eS2 a0.Ends), .d (eS3 a0.Endss), .d (eS0 a0.Kids)], .fix 27 [.d (di .i64 (0 : Int)), .d (di .i64 (0 : Int)), .d (di .i64 (0 : Int)), .d (.v (.slice none 0 0)), .d (.v (.slice none 0 0)), .d (.v (.slice none 0 0)), .d (.v (.slice none 0 0))], .fix 4 [.d (dbool false)], .dead, .fix 27 [.d (di .i64 a0.Kind), .d (di .i64 a0.Layout), .d (di .i64 a0.SRID), .d (eS1 a0.Flat), .d (eS2 a0.Ends), .d (eS3 a0.Endss), .d (eS0 a0.Kids)], .grow 32 1 (List.map keS1 g192), .fix 98 [.d (di .i64 y185.geom2.geom1.geom0.layout), .d (di .i64 y185.geom2.geom1.geom0.stride), .own 5, .d (di .i64 a0.SRID), .d (eS2 y185.geom2.ends)], .dead, .frame fr188 [(2, .ptr 1 0), (3, .ptr 2 0), (4, .ifc 51 (.ptr 6 0))], .dead]) rfl ?_
  refine AO.nil ?_
  refine inlend (ob' := [.fix 27 [.d (di .i64 a0.Kind), .d (di .i64 a0.Layout), .d (di .i64 a0.SRID), .d (eS1 a0.Flat), .d (eS2 a0.Ends), .d (eS3 a0.Endss), .d (eS0 a0.Kids)], .fix 27 [.d (di .i64 (0 : Int)), .d (di .i64 (0 : Int)), .d (di .i64 (0 : Int)), .d (.v (.slice none 0 0)), .d (.v (.slice none 0 0)), .d (.v (.slice none 0 0)), .d (.v (.slice none 0 0))], .fix 4 [.d (dbool false)], .dead, .fix 27 [.d (di .i64 a0.Kind), .d (di .i64 a0.Layout), .d (di .i64 a0.SRID), .d (eS1 a0.Flat), .d (eS2 a0.Ends), .d (eS3 a0.Endss), .d (eS0 a0.Kids)], .grow 32 1 (List.map keS1 g192), .fix 98 [.d (di .i64 y185.geom2.geom1.geom0.layout), .d (di .i64 y185.geom2.geom1.geom0.stride), .own 5, .d (di .i64 a0.SRID), .d (eS2 y185.geom2.ends)], .dead, .dead, .dead]) (e' := [(2, .ptr 1 0), (3, .ptr 2 0), (4, .ifc 51 (.ptr 6 0))]) (r := .tu []) rfl rfl rfl ?_
  change AO _ _ _ _ _
  refine AO.objs (obs' := [.fix 27 [.d (di .i64 a0.Kind), .d (di .i64 a0.Layout), .d (di .i64 a0.SRID), .d (eS1 a0.Flat), .d (eS2 a0.Ends), .d (eS3 a0.Endss), .d (eS0 a0.Kids)], .fix 27 [.d (di .i64 (0 : Int)), .d (di .i64 (0 : Int)), .d (di .i64 (0 : Int)), .d (.v (.slice none 0 0)), .d (.v (.slice none 0 0)), .d (.v (.slice none 0 0)), .d (.v (.slice none 0 0))], .fix 4 [.d (dbool false)], .dead, .fix 27 [.d (di .i64 a0.Kind), .d (di .i64 a0.Layout), .d (di .i64 a0.SRID), .d (eS1 a0.Flat), .d (eS2 a0.Ends), .d (eS3 a0.Endss), .d (eS0 a0.Kids)], .grow 32 1 (List.map keS1 g192), .fix 98 [.d (di .i64 y185.geom2.geom1.geom0.layout), .d (di .i64 y185.geom2.geom1.geom0.stride), .own 5, .d (di .i64 a0.SRID), .d (eS2 y185.geom2.ends)], .dead, .dead, .dead]) rfl ?_
  refine AO.nil ?_
  change AC _ _ _ _
  refine AC.seq ?_
  refine AC.region ?_
  refine AO.op rfl (AOp.move rfl rfl (ltb rfl) rfl ?_)
  refine AO.op rfl (AOp.inl [2, 3] (by kernel_rfl) Try.func32 rfl Try.ntmps32 rfl rfl (ltb rfl) rfl (leb rfl) rfl ?_)
  intro fr193
  refine AC.seq ?_
  refine AC.region ?_
  refine AO.op rfl (AOp.alloc rfl rfl (ltb rfl) zero27 rfl ?_)
  refine AO.objs (obs' := [.fix 27 [.d (di .i64 a0.Kind), .d (di .i64 a0.Layout), .d (di .i64 a0.SRID), .d (eS1 a0.Flat), .d (eS2 a0.Ends), .d (eS3 a0.Endss), .d (eS0 a0.Kids)], .fix 27 [.d (di .i64 (0 : Int)), .d (di .i64 (0 : Int)), .d (di .i64 (0 : Int)), .d (.v (.slice none 0 0)), .d (.v (.slice none 0 0)), .d (.v (.slice none 0 0)), .d (.v (.slice none 0 0))], .fix 4 [.d (dbool false)], .dead, .fix 27 [.d (di .i64 a0.Kind), .d (di .i64 a0.Layout), .d (di .i64 a0.SRID), .d (eS1 a0.Flat), .d (eS2 a0.Ends), .d (eS3 a0.Endss), .d (eS0 a0.Kids)], .grow 32 1 (List.map keS1 g192), .fix 98 [.d (di .i64 y185.geom2.geom1.geom0.layout), .d (di .i64 y185.geom2.geom1.geom0.stride), .own 5, .d (di .i64 a0.SRID), .d (eS2 y185.geom2.ends)], .dead, .dead, .dead, .frame fr193 [(2, .ptr 1 0), (3, .ptr 2 0)], .fix 27 [.d (di .i64 (0 : Int)), .d (di .i64 (0 : Int)), .d (di .i64 (0 : Int)), .d (.v (.slice none 0 0)), .d (.v (.slice none 0 0)), .d (.v (.slice none 0 0)), .d (.v (.slice none 0 0))]]) rfl ?_
  refine AO.nil ?_
  change AC _ _ _ _
  refine AC.seq ?_
  refine AC.region ?_
  refine AO.op rfl (AOp.move rfl rfl (ltb rfl) rfl ?_)
  refine AO.op rfl (AOp.inlE [0, 2] (EntersS.meth (by kernel_rfl) rfl rfl rfl meth51_SRID rfl rfl) Try.func90 rfl Try.ntmps90 rfl (ltb rfl) (leb rfl) rfl ?_)
  intro fr194
  refine AC.seq ?_
  refine AC.region ?_
  refine AO.op rfl (AOp.assign rfl rfl (ltb rfl) rfl ?_)
  refine AO.objs (obs' := [.fix 27 [.d (di .i64 a0.Kind), .d (di .i64 a0.Layout), .d (di .i64 a0.SRID), .d (eS1 a0.Flat), .d (eS2 a0.Ends), .d (eS3 a0.Endss), .d (eS0 a0.Kids)], .fix 27 [.d (di .i64 (0 : Int)), .d (di .i64 (0 : Int)), .d (di .i64 (0 : Int)), .d (.v (.slice none 0 0)), .d (.v (.slice none 0 0)), .d (.v (.slice none 0 0)), .d (.v (.slice none 0 0))], .fix 4 [.d (dbool false)], .dead, .fix 27 [.d (di .i64 a0.Kind), .d (di .i64 a0.Layout), .d (di .i64 a0.SRID), .d (eS1 a0.Flat), .d (eS2 a0.Ends), .d (eS3 a0.Endss), .d (eS0 a0.Kids)], .grow 32 1 (List.map keS1 g192), .fix 98 [.d (di .i64 y185.geom2.geom1.geom0.layout), .d (di .i64 y185.geom2.geom1.geom0.stride), .own 5, .d (di .i64 a0.SRID), .d (eS2 y185.geom2.ends)], .dead, .dead, .dead, .frame fr193 [(2, .ptr 1 0), (3, .ptr 2 0)], .fix 27 [.d (di .i64 (0 : Int)), .d (di .i64 (0 : Int)), .d (di .i64 (0 : Int)), .d (.v (.slice none 0 0)), .d (.v (.slice none 0 0)), .d (.v (.slice none 0 0)), .d (.v (.slice none 0 0))], .frame fr194 [(0, .ifc 51 (.ptr 6 0)), (2, .ptr 11 0)]]) rfl ?_
  refine AO.nil ?_
  change AC _ _ _ _
  refine AC.seq ?_
  refine AC.region ?_
  refine AO.op rfl (AOp.move rfl rfl (ltb rfl) rfl ?_)
  refine AO.op rfl (AOp.nilCheck rfl rfl (ltb rfl) rfl rfl ?_)
  refine AO.op rfl (AOp.fieldAddr rfl rfl (ltb rfl) rfl fo91_3 ?_)
  refine AO.op rfl (AOp.load1 rfl rfl (ltb rfl) rfl agg3 rfl rfl ?_)
  refine AO.op rfl (AOp.assign rfl rfl (ltb rfl) rfl ?_)
  refine AO.nil ?_
  change AC _ _ _ _
  refine AC.ret ?_
  refine inlret (ob' := [.fix 27 [.d (di .i64 a0.Kind), .d (di .i64 a0.Layout), .d (di .i64 a0.SRID), .d (eS1 a0.Flat), .d (eS2 a0.Ends), .d (eS3 a0.Endss), .d (eS0 a0.Kids)], .fix 27 [.d (di .i64 (0 : Int)), .d (di .i64 (0 : Int)), .d (di .i64 (0 : Int)), .d (.v (.slice none 0 0)), .d (.v (.slice none 0 0)), .d (.v (.slice none 0 0)), .d (.v (.slice none 0 0))], .fix 4 [.d (dbool false)], .dead, .fix 27 [.d (di .i64 a0.Kind), .d (di .i64 a0.Layout), .d (di .i64 a0.SRID), .d (eS1 a0.Flat), .d (eS2 a0.Ends), .d (eS3 a0.Endss), .d (eS0 a0.Kids)], .grow 32 1 (List.map keS1 g192), .fix 98 [.d (di .i64 y185.geom2.geom1.geom0.layout), .d (di .i64 y185.geom2.geom1.geom0.stride), .own 5, .d (di .i64 a0.SRID), .d (eS2 y185.geom2.ends)], .dead, .dead, .dead, .frame fr193 [(2, .ptr 1 0), (3, .ptr 2 0)], .fix 27 [.d (di .i64 (0 : Int)), .d (di .i64 (0 : Int)), .d (di .i64 (0 : Int)), .d (.v (.slice none 0 0)), .d (.v (.slice none 0 0)), .d (.v (.slice none 0 0)), .d (.v (.slice none 0 0))], .dead]) (e' := [(0, .ifc 51 (.ptr 6 0)), (2, .ptr 11 0)]) (r := .d (di .i64 a0.SRID)) rfl rfl rfl ?_
  change AO _ _ _ _ _
  refine AO.op rfl (AOp.build rfl rfl (ltb rfl) zero27 rfl places27 rfl rfl ?_)
  refine AO.op rfl (AOp.alloc rfl rfl (ltb rfl) zero27 rfl ?_)
  refine AO.op rfl (AOp.store rfl rfl rfl rfl size27 rfl rfl rfl (leb rfl) ?_)
  refine AO.objs (obs' := [.fix 27 [.d (di .i64 a0.Kind), .d (di .i64 a0.Layout), .d (di .i64 a0.SRID), .d (eS1 a0.Flat), .d (eS2 a0.Ends), .d (eS3 a0.Endss), .d (eS0 a0.Kids)], .fix 27 [.d (di .i64 (0 : Int)), .d (di .i64 (0 : Int)), .d (di .i64 (0 : Int)), .d (.v (.slice none 0 0)), .d (.v (.slice none 0 0)), .d (.v (.slice none 0 0)), .d (.v (.slice none 0 0))], .fix 4 [.d (dbool false)], .dead, .fix 27 [.d (di .i64 a0.Kind), .d (di .i64 a0.Layout), .d (di .i64 a0.SRID), .d (eS1 a0.Flat), .d (eS2 a0.Ends), .d (eS3 a0.Endss), .d (eS0 a0.Kids)], .grow 32 1 (List.map keS1 g192), .fix 98 [.d (di .i64 y185.geom2.geom1.geom0.layout), .d (di .i64 y185.geom2.geom1.geom0.stride), .own 5, .d (di .i64 a0.SRID), .d (eS2 y185.geom2.ends)], .dead, .dead, .dead, .frame fr193 [(2, .ptr 1 0), (3, .ptr 2 0)], .fix 27 [.d (di .i64 (0 : Int)), .d (di .i64 (0 : Int)), .d (di .i64 (0 : Int)), .d (.v (.slice none 0 0)), .d (.v (.slice none 0 0)), .d (.v (.slice none 0 0)), .d (.v (.slice none 0 0))], .dead, .fix 27 [.d (di .i64 (0 : Int)), .d (di .i64 (0 : Int)), .d (di .i64 a0.SRID), .d (.v (.slice none 0 0)), .d (.v (.slice none 0 0)), .d (.v (.slice none 0 0)), .d (.v (.slice none 0 0))]]) rfl ?_
  refine AO.nil ?_
  change AC _ _ _ _
  refine AC.seq ?_
  refine AC.seq ?_
  refine AC.region ?_
  refine AO.op rfl (AOp.move rfl rfl (ltb rfl) rfl ?_)
  refine AO.nil ?_
  change AC _ _ _ _
  refine AC.block ?_
  refine AC.seq ?_
  refine AC.region ?_
  refine AO.op rfl (AOp.assertNo rfl rfl (ltb rfl) rfl rfl pass51_64 zero64 ?_)
  first | refine AO.op rfl (AOp.extractD rfl rfl (ltb rfl) rfl rfl ?_) | refine AO.op rfl (AOp.extract rfl rfl (ltb rfl) rfl rfl ?_)
  first | refine AO.op rfl (AOp.extractD rfl rfl (ltb rfl) rfl rfl ?_) | refine AO.op rfl (AOp.extract rfl rfl (ltb rfl) rfl rfl ?_)
  refine AO.nil ?_
  change AC _ _ _ _
  refine AC.condF rfl rfl ?_
  refine AC.seq ?_
  refine AC.region ?_
  refine AO.op rfl (AOp.assertNo rfl rfl (ltb rfl) rfl rfl pass51_67 zero67 ?_)
  first | refine AO.op rfl (AOp.extractD rfl rfl (ltb rfl) rfl rfl ?_) | refine AO.op rfl (AOp.extract rfl rfl (ltb rfl) rfl rfl ?_)
  first | refine AO.op rfl (AOp.extractD rfl rfl (ltb rfl) rfl rfl ?_) | refine AO.op rfl (AOp.extract rfl rfl (ltb rfl) rfl rfl ?_)
  refine AO.nil ?_
  change AC _ _ _ _
  refine AC.condF rfl rfl ?_
  refine AC.seq ?_
  refine AC.region ?_
  refine AO.op rfl (AOp.assertNo rfl rfl (ltb rfl) rfl rfl pass51_70 zero70 ?_)
  first | refine AO.op rfl (AOp.extractD rfl rfl (ltb rfl) rfl rfl ?_) | refine AO.op rfl (AOp.extract rfl rfl (ltb rfl) rfl rfl ?_)
  first | refine AO.op rfl (AOp.extractD rfl rfl (ltb rfl) rfl rfl ?_) | refine AO.op rfl (AOp.extract rfl rfl (ltb rfl) rfl rfl ?_)
  refine AO.nil ?_
  change AC _ _ _ _
  refine AC.condF rfl rfl ?_
  refine AC.seq ?_
  refine AC.region ?_
  refine AO.op rfl (AOp.assertNo rfl rfl (ltb rfl) rfl rfl pass51_49 zero49 ?_)
  first | refine AO.op rfl (AOp.extractD rfl rfl (ltb rfl) rfl rfl ?_) | refine AO.op rfl (AOp.extract rfl rfl (ltb rfl) rfl rfl ?_)
  first | refine AO.op rfl (AOp.extractD rfl rfl (ltb rfl) rfl rfl ?_) | refine AO.op rfl (AOp.extract rfl rfl (ltb rfl) rfl rfl ?_)
  refine AO.nil ?_
  change AC _ _ _ _
  refine AC.condF rfl rfl ?_
  refine AC.seq ?_
  refine AC.region ?_
  refine AO.op rfl (AOp.assertYes rfl rfl (ltb rfl) rfl rfl pass51_51 rfl ?_)
  first | refine AO.op rfl (AOp.extractD rfl rfl (ltb rfl) rfl rfl ?_) | refine AO.op rfl (AOp.extract rfl rfl (ltb rfl) rfl rfl ?_)
  first | refine AO.op rfl (AOp.extractD rfl rfl (ltb rfl) rfl rfl ?_) | refine AO.op rfl (AOp.extract rfl rfl (ltb rfl) rfl rfl ?_)
  refine AO.nil ?_
  change AC _ _ _ _
  refine AC.condT rfl rfl ?_
  refine AC.seq ?_
  refine AC.region ?_
  refine AO.op rfl (AOp.assign rfl rfl (ltb rfl) rfl ?_)
  refine AO.nil ?_
  change AC _ _ _ _
  refine AC.region ?_
  refine AO.op rfl (AOp.fieldAddr rfl rfl (ltb rfl) rfl fo27_0 ?_)
  refine AO.op rfl (AOp.store rfl rfl rfl rfl size3 rfl rfl rfl (leb rfl) ?_)
  refine AO.nil ?_
  change AC _ _ _ _
  refine AC.seq ?_
  refine AC.region ?_
  refine AO.op rfl (AOp.move rfl rfl (ltb rfl) rfl ?_)
  refine AO.op rfl (AOp.inlE [0, 2, 3] (EntersS.meth (by kernel_rfl) rfl rfl rfl meth51_Layout rfl rfl) Try.func88 rfl Try.ntmps88 rfl (ltb rfl) (leb rfl) rfl ?_)
  intro fr195
  refine AC.seq ?_
  refine AC.region ?_
  refine AO.op rfl (AOp.assign rfl rfl (ltb rfl) rfl ?_)
  refine AO.objs (obs' := [.fix 27 [.d (di .i64 a0.Kind), .d (di .i64 a0.Layout), .d (di .i64 a0.SRID), .d (eS1 a0.Flat), .d (eS2 a0.Ends), .d (eS3 a0.Endss), .d (eS0 a0.Kids)], .fix 27 [.d (di .i64 (0 : Int)), .d (di .i64 (0 : Int)), .d (di .i64 (0 : Int)), .d (.v (.slice none 0 0)), .d (.v (.slice none 0 0)), .d (.v (.slice none 0 0)), .d (.v (.slice none 0 0))], .fix 4 [.d (dbool false)], .dead, .fix 27 [.d (di .i64 a0.Kind), .d (di .i64 a0.Layout), .d (di .i64 a0.SRID), .d (eS1 a0.Flat), .d (eS2 a0.Ends), .d (eS3 a0.Endss), .d (eS0 a0.Kids)], .grow 32 1 (List.map keS1 g192), .fix 98 [.d (di .i64 y185.geom2.geom1.geom0.layout), .d (di .i64 y185.geom2.geom1.geom0.stride), .own 5, .d (di .i64 a0.SRID), .d (eS2 y185.geom2.ends)], .dead, .dead, .dead, .frame fr193 [(2, .ptr 1 0), (3, .ptr 2 0)], .fix 27 [.d (di .i64 (0 : Int)), .d (di .i64 (0 : Int)), .d (di .i64 (0 : Int)), .d (.v (.slice none 0 0)), .d (.v (.slice none 0 0)), .d (.v (.slice none 0 0)), .d (.v (.slice none 0 0))], .dead, .fix 27 [.d (di .i64 (4 : Int)), .d (di .i64 (0 : Int)), .d (di .i64 a0.SRID), .d (.v (.slice none 0 0)), .d (.v (.slice none 0 0)), .d (.v (.slice none 0 0)), .d (.v (.slice none 0 0))], .frame fr195 [(0, .ifc 51 (.ptr 6 0)), (2, .ptr 11 0), (3, .ptr 13 0)]]) rfl ?_
  refine AO.nil ?_
  change AC _ _ _ _
  refine AC.seq ?_
  refine AC.region ?_
  refine AO.op rfl (AOp.move rfl rfl (ltb rfl) rfl ?_)
  refine AO.op rfl (AOp.nilCheck rfl rfl (ltb rfl) rfl rfl ?_)
  refine AO.op rfl (AOp.fieldAddr rfl rfl (ltb rfl) rfl fo91_0 ?_)
  refine AO.op rfl (AOp.load1 rfl rfl (ltb rfl) rfl agg63 rfl rfl ?_)
  refine AO.op rfl (AOp.assign rfl rfl (ltb rfl) rfl ?_)
  refine AO.nil ?_
  change AC _ _ _ _
  refine AC.ret ?_
  refine inlret (ob' := [.fix 27 [.d (di .i64 a0.Kind), .d (di .i64 a0.Layout), .d (di .i64 a0.SRID), .d (eS1 a0.Flat), .d (eS2 a0.Ends), .d (eS3 a0.Endss), .d (eS0 a0.Kids)], .fix 27 [.d (di .i64 (0 : Int)), .d (di .i64 (0 : Int)), .d (di .i64 (0 : Int)), .d (.v (.slice none 0 0)), .d (.v (.slice none 0 0)), .d (.v (.slice none 0 0)), .d (.v (.slice none 0 0))], .fix 4 [.d (dbool false)], .dead, .fix 27 [.d (di .i64 a0.Kind), .d (di .i64 a0.Layout), .d (di .i64 a0.SRID), .d (eS1 a0.Flat), .d (eS2 a0.Ends), .d (eS3 a0.Endss), .d (eS0 a0.Kids)], .grow 32 1 (List.map keS1 g192), .fix 98 [.d (di .i64 y185.geom2.geom1.geom0.layout), .d (di .i64 y185.geom2.geom1.geom0.stride), .own 5, .d (di .i64 a0.SRID), .d (eS2 y185.geom2.ends)], .dead, .dead, .dead, .frame fr193 [(2, .ptr 1 0), (3, .ptr 2 0)], .fix 27 [.d (di .i64 (0 : Int)), .d (di .i64 (0 : Int)), .d (di .i64 (0 : Int)), .d (.v (.slice none 0 0)), .d (.v (.slice none 0 0)), .d (.v (.slice none 0 0)), .d (.v (.slice none 0 0))], .dead, .fix 27 [.d (di .i64 (4 : Int)), .d (di .i64 (0 : Int)), .d (di .i64 a0.SRID), .d (.v (.slice none 0 0)), .d (.v (.slice none 0 0)), .d (.v (.slice none 0 0)), .d (.v (.slice none 0 0))], .dead]) (e' := [(0, .ifc 51 (.ptr 6 0)), (2, .ptr 11 0), (3, .ptr 13 0)]) (r := .d (di .i64 y185.geom2.geom1.geom0.layout)) rfl rfl rfl ?_
  change AO _ _ _ _ _
  refine AO.op rfl (AOp.move rfl rfl (ltb rfl) rfl ?_)
  refine AO.op rfl (AOp.inlE [0, 2, 3, 70] (EntersS.meth (by kernel_rfl) rfl rfl rfl meth51_FlatCoords rfl rfl) Try.func87 rfl Try.ntmps87 rfl (ltb rfl) (leb rfl) rfl ?_)
  intro fr196
  refine AC.seq ?_
  refine AC.region ?_
  refine AO.op rfl (AOp.assign rfl rfl (ltb rfl) rfl ?_)
  refine AO.objs (obs' := [.fix 27 [.d (di .i64 a0.Kind), .d (di .i64 a0.Layout), .d (di .i64 a0.SRID), .d (eS1 a0.Flat), .d (eS2 a0.Ends), .d (eS3 a0.Endss), .d (eS0 a0.Kids)], .fix 27 [.d (di .i64 (0 : Int)), .d (di .i64 (0 : Int)), .d (di .i64 (0 : Int)), .d (.v (.slice none 0 0)), .d (.v (.slice none 0 0)), .d (.v (.slice none 0 0)), .d (.v (.slice none 0 0))], .fix 4 [.d (dbool false)], .dead, .fix 27 [.d (di .i64 a0.Kind), .d (di .i64 a0.Layout), .d (di .i64 a0.SRID), .d (eS1 a0.Flat), .d (eS2 a0.Ends), .d (eS3 a0.Endss), .d (eS0 a0.Kids)], .grow 32 1 (List.map keS1 g192), .fix 98 [.d (di .i64 y185.geom2.geom1.geom0.layout), .d (di .i64 y185.geom2.geom1.geom0.stride), .own 5, .d (di .i64 a0.SRID), .d (eS2 y185.geom2.ends)], .dead, .dead, .dead, .frame fr193 [(2, .ptr 1 0), (3, .ptr 2 0)], .fix 27 [.d (di .i64 (0 : Int)), .d (di .i64 (0 : Int)), .d (di .i64 (0 : Int)), .d (.v (.slice none 0 0)), .d (.v (.slice none 0 0)), .d (.v (.slice none 0 0)), .d (.v (.slice none 0 0))], .dead, .fix 27 [.d (di .i64 (4 : Int)), .d (di .i64 (0 : Int)), .d (di .i64 a0.SRID), .d (.v (.slice none 0 0)), .d (.v (.slice none 0 0)), .d (.v (.slice none 0 0)), .d (.v (.slice none 0 0))], .dead, .frame fr196 [(0, .ifc 51 (.ptr 6 0)), (2, .ptr 11 0), (3, .ptr 13 0), (70, .d (di .i64 y185.geom2.geom1.geom0.layout))]]) rfl ?_
  refine AO.nil ?_
  change AC _ _ _ _
  refine AC.seq ?_
  refine AC.region ?_
  refine AO.op rfl (AOp.move rfl rfl (ltb rfl) rfl ?_)
  refine AO.op rfl (AOp.nilCheck rfl rfl (ltb rfl) rfl rfl ?_)
  refine AO.op rfl (AOp.fieldAddr rfl rfl (ltb rfl) rfl fo91_2 ?_)
  refine AO.op rfl (AOp.load1 rfl rfl (ltb rfl) rfl agg22 rfl rfl ?_)
  refine AO.op rfl (AOp.assign rfl rfl (ltb rfl) rfl ?_)
  refine AO.nil ?_
  change AC _ _ _ _
  refine AC.ret ?_
  refine inlret (ob' := [.fix 27 [.d (di .i64 a0.Kind), .d (di .i64 a0.Layout), .d (di .i64 a0.SRID), .d (eS1 a0.Flat), .d (eS2 a0.Ends), .d (eS3 a0.Endss), .d (eS0 a0.Kids)], .fix 27 [.d (di .i64 (0 : Int)), .d (di .i64 (0 : Int)), .d (di .i64 (0 : Int)), .d (.v (.slice none 0 0)), .d (.v (.slice none 0 0)), .d (.v (.slice none 0 0)), .d (.v (.slice none 0 0))], .fix 4 [.d (dbool false)], .dead, .fix 27 [.d (di .i64 a0.Kind), .d (di .i64 a0.Layout), .d (di .i64 a0.SRID), .d (eS1 a0.Flat), .d (eS2 a0.Ends), .d (eS3 a0.Endss), .d (eS0 a0.Kids)], .grow 32 1 (List.map keS1 g192), .fix 98 [.d (di .i64 y185.geom2.geom1.geom0.layout), .d (di .i64 y185.geom2.geom1.geom0.stride), .own 5, .d (di .i64 a0.SRID), .d (eS2 y185.geom2.ends)], .dead, .dead, .dead, .frame fr193 [(2, .ptr 1 0), (3, .ptr 2 0)], .fix 27 [.d (di .i64 (0 : Int)), .d (di .i64 (0 : Int)), .d (di .i64 (0 : Int)), .d (.v (.slice none 0 0)), .d (.v (.slice none 0 0)), .d (.v (.slice none 0 0)), .d (.v (.slice none 0 0))], .dead, .fix 27 [.d (di .i64 (4 : Int)), .d (di .i64 (0 : Int)), .d (di .i64 a0.SRID), .d (.v (.slice none 0 0)), .d (.v (.slice none 0 0)), .d (.v (.slice none 0 0)), .d (.v (.slice none 0 0))], .dead, .dead]) (e' := [(0, .ifc 51 (.ptr 6 0)), (2, .ptr 11 0), (3, .ptr 13 0), (70, .d (di .i64 y185.geom2.geom1.geom0.layout))]) (r := .own 5) rfl rfl rfl ?_
  change AO _ _ _ _ _
  refine AO.subO 6 rfl (.cons (SVLe.refl _) (.cons (SVLe.refl _) (.cons (SVLe.any _) (.cons (SVLe.refl _) (.cons (SVLe.refl _) .nil))))) ?_
  refine AO.freezeG 5 rfl rfl rfl ?_
  obtain ⟨y197, q198, h0⟩ := bind_elim h0
  refine AO.op rfl (AOp.callD rfl rfl (ltb rfl) rfl rfl (w_floats g192 y197 q198) ?_)
  rintro _ rfl
  refine AO.op rfl (AOp.move rfl rfl (ltb rfl) rfl ?_)
  refine AO.op rfl (AOp.inlE [0, 2, 3, 70, 73] (EntersS.meth (by kernel_rfl) rfl rfl rfl meth51_Ends rfl rfl) Try.func85 rfl Try.ntmps85 rfl (ltb rfl) (leb rfl) rfl ?_)
  intro fr199
  refine AC.seq ?_
  refine AC.region ?_
  refine AO.op rfl (AOp.assign rfl rfl (ltb rfl) rfl ?_)
  refine AO.objs (obs' := [.fix 27 [.d (di .i64 a0.Kind), .d (di .i64 a0.Layout), .d (di .i64 a0.SRID), .d (eS1 a0.Flat), .d (eS2 a0.Ends), .d (eS3 a0.Endss), .d (eS0 a0.Kids)], .fix 27 [.d (di .i64 (0 : Int)), .d (di .i64 (0 : Int)), .d (di .i64 (0 : Int)), .d (.v (.slice none 0 0)), .d (.v (.slice none 0 0)), .d (.v (.slice none 0 0)), .d (.v (.slice none 0 0))], .fix 4 [.d (dbool false)], .dead, .fix 27 [.d (di .i64 a0.Kind), .d (di .i64 a0.Layout), .d (di .i64 a0.SRID), .d (eS1 a0.Flat), .d (eS2 a0.Ends), .d (eS3 a0.Endss), .d (eS0 a0.Kids)], .dead, .fix 98 [.d (di .i64 y185.geom2.geom1.geom0.layout), .d (di .i64 y185.geom2.geom1.geom0.stride), .any, .d (di .i64 a0.SRID), .d (eS2 y185.geom2.ends)], .dead, .dead, .dead, .frame fr193 [(2, .ptr 1 0), (3, .ptr 2 0)], .fix 27 [.d (di .i64 (0 : Int)), .d (di .i64 (0 : Int)), .d (di .i64 (0 : Int)), .d (.v (.slice none 0 0)), .d (.v (.slice none 0 0)), .d (.v (.slice none 0 0)), .d (.v (.slice none 0 0))], .dead, .fix 27 [.d (di .i64 (4 : Int)), .d (di .i64 (0 : Int)), .d (di .i64 a0.SRID), .d (.v (.slice none 0 0)), .d (.v (.slice none 0 0)), .d (.v (.slice none 0 0)), .d (.v (.slice none 0 0))], .dead, .dead, .frame fr199 [(0, .ifc 51 (.ptr 6 0)), (2, .ptr 11 0), (3, .ptr 13 0), (70, .d (di .i64 y185.geom2.geom1.geom0.layout)), (73, .d (eS1 y197))]]) rfl ?_
  refine AO.nil ?_
  change AC _ _ _ _
  refine AC.seq ?_
  refine AC.region ?_
  refine AO.op rfl (AOp.move rfl rfl (ltb rfl) rfl ?_)
  refine AO.op rfl (AOp.nilCheck rfl rfl (ltb rfl) rfl rfl ?_)
  refine AO.op rfl (AOp.fieldAddr rfl rfl (ltb rfl) rfl fo95_1 ?_)
  refine AO.op rfl (AOp.load1 rfl rfl (ltb rfl) rfl agg23 rfl rfl ?_)
  refine AO.op rfl (AOp.assign rfl rfl (ltb rfl) rfl ?_)
  refine AO.nil ?_
  change AC _ _ _ _
  refine AC.ret ?_
  refine inlret (ob' := [.fix 27 [.d (di .i64 a0.Kind), .d (di .i64 a0.Layout), .d (di .i64 a0.SRID), .d (eS1 a0.Flat), .d (eS2 a0.Ends), .d (eS3 a0.Endss), .d (eS0 a0.Kids)], .fix 27 [.d (di .i64 (0 : Int)), .d (di .i64 (0 : Int)), .d (di .i64 (0 : Int)), .d (.v (.slice none 0 0)), .d (.v (.slice none 0 0)), .d (.v (.slice none 0 0)), .d (.v (.slice none 0 0))], .fix 4 [.d (dbool false)], .dead, .fix 27 [.d (di .i64 a0.Kind), .d (di .i64 a0.Layout), .d (di .i64 a0.SRID), .d (eS1 a0.Flat), .d (eS2 a0.Ends), .d (eS3 a0.Endss), .d (eS0 a0.Kids)], .dead, .fix 98 [.d (di .i64 y185.geom2.geom1.geom0.layout), .d (di .i64 y185.geom2.geom1.geom0.stride), .any, .d (di .i64 a0.SRID), .d (eS2 y185.geom2.ends)], .dead, .dead, .dead, .frame fr193 [(2, .ptr 1 0), (3, .ptr 2 0)], .fix 27 [.d (di .i64 (0 : Int)), .d (di .i64 (0 : Int)), .d (di .i64 (0 : Int)), .d (.v (.slice none 0 0)), .d (.v (.slice none 0 0)), .d (.v (.slice none 0 0)), .d (.v (.slice none 0 0))], .dead, .fix 27 [.d (di .i64 (4 : Int)), .d (di .i64 (0 : Int)), .d (di .i64 a0.SRID), .d (.v (.slice none 0 0)), .d (.v (.slice none 0 0)), .d (.v (.slice none 0 0)), .d (.v (.slice none 0 0))], .dead, .dead, .dead]) (e' := [(0, .ifc 51 (.ptr 6 0)), (2, .ptr 11 0), (3, .ptr 13 0), (70, .d (di .i64 y185.geom2.geom1.geom0.layout)), (73, .d (eS1 y197))]) (r := .d (eS2 y185.geom2.ends)) rfl rfl rfl ?_
  change AO _ _ _ _ _
  obtain ⟨y200, q201, h0⟩ := bind_elim h0
  refine AO.op rfl (AOp.callD rfl rfl (ltb rfl) rfl rfl (w_ints y185.geom2.ends y200 q201) ?_)
  rintro _ rfl
  refine AO.op rfl (AOp.move rfl rfl (ltb rfl) rfl ?_)
  refine AO.op rfl (AOp.inlE [2, 3, 70, 73, 76] (EntersS.meth (by kernel_rfl) rfl rfl rfl meth51_Endss rfl rfl) Try.func86 rfl Try.ntmps86 rfl (ltb rfl) (leb rfl) rfl ?_)
  intro fr202
  refine AC.seq ?_
  refine AC.region ?_
  refine AO.op rfl (AOp.assign rfl rfl (ltb rfl) rfl ?_)
  refine AO.objs (obs' := [.fix 27 [.d (di .i64 a0.Kind), .d (di .i64 a0.Layout), .d (di .i64 a0.SRID), .d (eS1 a0.Flat), .d (eS2 a0.Ends), .d (eS3 a0.Endss), .d (eS0 a0.Kids)], .fix 27 [.d (di .i64 (0 : Int)), .d (di .i64 (0 : Int)), .d (di .i64 (0 : Int)), .d (.v (.slice none 0 0)), .d (.v (.slice none 0 0)), .d (.v (.slice none 0 0)), .d (.v (.slice none 0 0))], .fix 4 [.d (dbool false)], .dead, .fix 27 [.d (di .i64 a0.Kind), .d (di .i64 a0.Layout), .d (di .i64 a0.SRID), .d (eS1 a0.Flat), .d (eS2 a0.Ends), .d (eS3 a0.Endss), .d (eS0 a0.Kids)], .dead, .fix 98 [.d (di .i64 y185.geom2.geom1.geom0.layout), .d (di .i64 y185.geom2.geom1.geom0.stride), .any, .d (di .i64 a0.SRID), .d (eS2 y185.geom2.ends)], .dead, .dead, .dead, .frame fr193 [(2, .ptr 1 0), (3, .ptr 2 0)], .fix 27 [.d (di .i64 (0 : Int)), .d (di .i64 (0 : Int)), .d (di .i64 (0 : Int)), .d (.v (.slice none 0 0)), .d (.v (.slice none 0 0)), .d (.v (.slice none 0 0)), .d (.v (.slice none 0 0))], .dead, .fix 27 [.d (di .i64 (4 : Int)), .d (di .i64 (0 : Int)), .d (di .i64 a0.SRID), .d (.v (.slice none 0 0)), .d (.v (.slice none 0 0)), .d (.v (.slice none 0 0)), .d (.v (.slice none 0 0))], .dead, .dead, .dead, .frame fr202 [(2, .ptr 11 0), (3, .ptr 13 0), (70, .d (di .i64 y185.geom2.geom1.geom0.layout)), (73, .d (eS1 y197)), (76, .d (eS2 y200))]]) rfl ?_
  refine AO.nil ?_
  change AC _ _ _ _
  refine AC.seq ?_
  refine AC.region ?_
  refine AO.op rfl (AOp.assign rfl rfl (ltb rfl) rfl ?_)
  refine AO.nil ?_
  change AC _ _ _ _
  refine AC.ret ?_
  refine inlret (ob' := [.fix 27 [.d (di .i64 a0.Kind), .d (di .i64 a0.Layout), .d (di .i64 a0.SRID), .d (eS1 a0.Flat), .d (eS2 a0.Ends), .d (eS3 a0.Endss), .d (eS0 a0.Kids)], .fix 27 [.d (di .i64 (0 : Int)), .d (di .i64 (0 : Int)), .d (di .i64 (0 : Int)), .d (.v (.slice none 0 0)), .d (.v (.slice none 0 0)), .d (.v (.slice none 0 0)), .d (.v (.slice none 0 0))], .fix 4 [.d (dbool false)], .dead, .fix 27 [.d (di .i64 a0.Kind), .d (di .i64 a0.Layout), .d (di .i64 a0.SRID), .d (eS1 a0.Flat), .d (eS2 a0.Ends), .d (eS3 a0.Endss), .d (eS0 a0.Kids)], .dead, .fix 98 [.d (di .i64 y185.geom2.geom1.geom0.layout), .d (di .i64 y185.geom2.geom1.geom0.stride), .any, .d (di .i64 a0.SRID), .d (eS2 y185.geom2.ends)], .dead, .dead, .dead, .frame fr193 [(2, .ptr 1 0), (3, .ptr 2 0)], .fix 27 [.d (di .i64 (0 : Int)), .d (di .i64 (0 : Int)), .d (di .i64 (0 : Int)), .d (.v (.slice none 0 0)), .d (.v (.slice none 0 0)), .d (.v (.slice none 0 0)), .d (.v (.slice none 0 0))], .dead, .fix 27 [.d (di .i64 (4 : Int)), .d (di .i64 (0 : Int)), .d (di .i64 a0.SRID), .d (.v (.slice none 0 0)), .d (.v (.slice none 0 0)), .d (.v (.slice none 0 0)), .d (.v (.slice none 0 0))], .dead, .dead, .dead, .dead]) (e' := [(2, .ptr 11 0), (3, .ptr 13 0), (70, .d (di .i64 y185.geom2.geom1.geom0.layout)), (73, .d (eS1 y197)), (76, .d (eS2 y200))]) (r := .d (.v (.slice none 0 0))) rfl rfl rfl ?_
  change AO _ _ _ _ _
  refine AO.sub 78 rfl (SVLe.nil 1) ?_
  obtain ⟨y203, q204, h0⟩ := bind_elim h0
  refine AO.op rfl (AOp.callD rfl rfl (ltb rfl) rfl rfl (w_intss F [] y203 q204) ?_)
  rintro _ rfl
  refine AO.op rfl (AOp.fieldAddr rfl rfl (ltb rfl) rfl fo27_1 ?_)
  refine AO.op rfl (AOp.store rfl rfl rfl rfl size3 rfl rfl rfl (leb rfl) ?_)
  refine AO.op rfl (AOp.fieldAddr rfl rfl (ltb rfl) rfl fo27_3 ?_)
  refine AO.op rfl (AOp.store rfl rfl rfl rfl size22 rfl rfl rfl (leb rfl) ?_)
  refine AO.op rfl (AOp.fieldAddr rfl rfl (ltb rfl) rfl fo27_4 ?_)
  refine AO.op rfl (AOp.store rfl rfl rfl rfl size23 rfl rfl rfl (leb rfl) ?_)
  refine AO.op rfl (AOp.fieldAddr rfl rfl (ltb rfl) rfl fo27_5 ?_)
  refine AO.op rfl (AOp.store rfl rfl rfl rfl size24 rfl rfl rfl (leb rfl) ?_)
  refine AO.objs (obs' := [.fix 27 [.d (di .i64 a0.Kind), .d (di .i64 a0.Layout), .d (di .i64 a0.SRID), .d (eS1 a0.Flat), .d (eS2 a0.Ends), .d (eS3 a0.Endss), .d (eS0 a0.Kids)], .fix 27 [.d (di .i64 (0 : Int)), .d (di .i64 (0 : Int)), .d (di .i64 (0 : Int)), .d (.v (.slice none 0 0)), .d (.v (.slice none 0 0)), .d (.v (.slice none 0 0)), .d (.v (.slice none 0 0))], .fix 4 [.d (dbool false)], .dead, .fix 27 [.d (di .i64 a0.Kind), .d (di .i64 a0.Layout), .d (di .i64 a0.SRID), .d (eS1 a0.Flat), .d (eS2 a0.Ends), .d (eS3 a0.Endss), .d (eS0 a0.Kids)], .dead, .fix 98 [.d (di .i64 y185.geom2.geom1.geom0.layout), .d (di .i64 y185.geom2.geom1.geom0.stride), .any, .d (di .i64 a0.SRID), .d (eS2 y185.geom2.ends)], .dead, .dead, .dead, .frame fr193 [(2, .ptr 1 0), (3, .ptr 2 0)], .fix 27 [.d (di .i64 (0 : Int)), .d (di .i64 (0 : Int)), .d (di .i64 (0 : Int)), .d (.v (.slice none 0 0)), .d (.v (.slice none 0 0)), .d (.v (.slice none 0 0)), .d (.v (.slice none 0 0))], .dead, .fix 27 [.d (di .i64 (4 : Int)), .d (di .i64 y185.geom2.geom1.geom0.layout), .d (di .i64 a0.SRID), .d (eS1 y197), .d (eS2 y200), .d (eS3 y203), .d (.v (.slice none 0 0))], .dead, .dead, .dead, .dead]) rfl ?_
  refine AO.nil ?_
  change AC _ _ _ _
  refine AC.seq ?_
  refine AC.region ?_
  refine AO.op rfl (AOp.loadN rfl rfl (ltb rfl) rfl agg27 size27 rfl (leb rfl) rfl ?_)
  refine AO.op rfl (AOp.store rfl rfl rfl rfl size27 rfl rfl rfl (leb rfl) ?_)
  refine AO.nil ?_
  change AC _ _ _ _
  refine AC.ret ?_
  refine inlret (ob' := [.fix 27 [.d (di .i64 a0.Kind), .d (di .i64 a0.Layout), .d (di .i64 a0.SRID), .d (eS1 a0.Flat), .d (eS2 a0.Ends), .d (eS3 a0.Endss), .d (eS0 a0.Kids)], .fix 27 [.d (di .i64 (0 : Int)), .d (di .i64 (0 : Int)), .d (di .i64 (0 : Int)), .d (.v (.slice none 0 0)), .d (.v (.slice none 0 0)), .d (.v (.slice none 0 0)), .d (.v (.slice none 0 0))], .fix 4 [.d (dbool false)], .dead, .fix 27 [.d (di .i64 a0.Kind), .d (di .i64 a0.Layout), .d (di .i64 a0.SRID), .d (eS1 a0.Flat), .d (eS2 a0.Ends), .d (eS3 a0.Endss), .d (eS0 a0.Kids)], .dead, .fix 98 [.d (di .i64 y185.geom2.geom1.geom0.layout), .d (di .i64 y185.geom2.geom1.geom0.stride), .any, .d (di .i64 a0.SRID), .d (eS2 y185.geom2.ends)], .dead, .dead, .dead, .dead, .fix 27 [.d (di .i64 (4 : Int)), .d (di .i64 y185.geom2.geom1.geom0.layout), .d (di .i64 a0.SRID), .d (eS1 y197), .d (eS2 y200), .d (eS3 y203), .d (.v (.slice none 0 0))], .dead, .fix 27 [.d (di .i64 (4 : Int)), .d (di .i64 y185.geom2.geom1.geom0.layout), .d (di .i64 a0.SRID), .d (eS1 y197), .d (eS2 y200), .d (eS3 y203), .d (.v (.slice none 0 0))], .dead, .dead, .dead, .dead]) (e' := [(2, .ptr 1 0), (3, .ptr 2 0)]) (r := .ag [.d (di .i64 (4 : Int)), .d (di .i64 y185.geom2.geom1.geom0.layout), .d (di .i64 a0.SRID), .d (eS1 y197), .d (eS2 y200), .d (eS3 y203), .d (.v (.slice none 0 0))]) rfl rfl rfl ?_
  change AO _ _ _ _ _
  refine AO.op rfl (AOp.store rfl rfl rfl rfl size27 rfl rfl rfl (leb rfl) ?_)
  refine AO.op rfl (AOp.store rfl rfl rfl rfl size4 rfl rfl rfl (leb rfl) ?_)
  refine AO.objs (obs' := [.fix 27 [.d (di .i64 a0.Kind), .d (di .i64 a0.Layout), .d (di .i64 a0.SRID), .d (eS1 a0.Flat), .d (eS2 a0.Ends), .d (eS3 a0.Endss), .d (eS0 a0.Kids)], .fix 27 [.d (di .i64 (4 : Int)), .d (di .i64 y185.geom2.geom1.geom0.layout), .d (di .i64 a0.SRID), .d (eS1 y197), .d (eS2 y200), .d (eS3 y203), .d (.v (.slice none 0 0))], .fix 4 [.d (dbool true)], .dead, .fix 27 [.d (di .i64 a0.Kind), .d (di .i64 a0.Layout), .d (di .i64 a0.SRID), .d (eS1 a0.Flat), .d (eS2 a0.Ends), .d (eS3 a0.Endss), .d (eS0 a0.Kids)], .dead, .fix 98 [.d (di .i64 y185.geom2.geom1.geom0.layout), .d (di .i64 y185.geom2.geom1.geom0.stride), .any, .d (di .i64 a0.SRID), .d (eS2 y185.geom2.ends)], .dead, .dead, .dead, .dead, .fix 27 [.d (di .i64 (4 : Int)), .d (di .i64 y185.geom2.geom1.geom0.layout), .d (di .i64 a0.SRID), .d (eS1 y197), .d (eS2 y200), .d (eS3 y203), .d (.v (.slice none 0 0))], .dead, .fix 27 [.d (di .i64 (4 : Int)), .d (di .i64 y185.geom2.geom1.geom0.layout), .d (di .i64 a0.SRID), .d (eS1 y197), .d (eS2 y200), .d (eS3 y203), .d (.v (.slice none 0 0))], .dead, .dead, .dead, .dead]) rfl ?_
  refine AO.nil ?_
  change AC _ _ _ _
  refine AC.subO 1 rfl (.cons (SVLe.refl _) (.cons (SVLe.refl _) (.cons (SVLe.refl _) (.cons (SVLe.refl _) (.cons (SVLe.refl _) (.cons (SVLe.refl _) (.cons (SVLe.nil 7) .nil))))))) ?_
  refine AC.ret ?_
  change RetQ _ _ _ .ret _
  obtain rfl := Option.some.inj h0
  refine retq rfl rfl
 exact absurd (hp4.symm.trans q180) (by decide)

end Go.Proofs.Ytbgdonedjgkhiaa.Wk
