/- Proved: more of it. -/
import Derived.Test.YtbgdonedjgkhiaaWRv_1
namespace Go.Proofs.Ytbgdonedjgkhiaa.Wk
open Go.Vm
set_option linter.unusedVariables false
set_option linter.unusedSimpArgs false
set_option maxRecDepth 100000 in
set_option maxHeartbeats 4000000 in
/-- pub-orthodrome/impl.Reverse -/
theorem w_Reverse_c5 (F : Nat) (a0 : TImpl_Geom) (r0 : (TImpl_Geom × Bool)) (h0 : p_Reverse F a0 = some r0) (hp0 : (decide (a0.Kind = (1 : Int))) = false) (hp1 : (decide (a0.Kind = (2 : Int))) = false) (hp2 : (decide (a0.Kind = (8 : Int))) = false) (hp3 : (decide (a0.Kind = (3 : Int))) = false) (hp4 : (decide (a0.Kind = (4 : Int))) = false) (hp5 : (decide (a0.Kind = (5 : Int))) = true) : FnD Try.prog 14 [e_TImpl_Geom a0] (fun r => r = .tu [e_TImpl_Geom r0.1, dbool r0.2]) := by
 refine FnD.wrap (g := 31) (m := 2) (fun vs w h => idle31 vs w h) (by kernel_rfl) Try.func14 rfl Try.ntmps14 rfl (leb rfl) fun W ok => ?_
 unfold p_Reverse at h0
 refine AW.seq ?_
 refine AC.region ?_
 refine AO.op rfl (AOp.box rfl rfl (ltb rfl) rfl rfl ?_)
 refine AO.op rfl (AOp.alloc rfl rfl (ltb rfl) zero27 rfl ?_)
 refine AO.op rfl (AOp.alloc rfl rfl (ltb rfl) zero4 rfl ?_)
 refine AO.nil ?_
 refine ⟨rfl, ?_⟩
 refine AW.defer (caps := [.tmp 2, .tmp 3]) rfl rfl rfl (ltb rfl) rfl rfl rfl rfl (by kernel_rfl) rfl fun df => ?_
 refine AC.seq ?_
 refine AC.region ?_
 refine AO.op rfl (AOp.loadN rfl rfl (ltb rfl) rfl agg27 size27 rfl (leb rfl) rfl ?_)
 refine AO.op rfl (AOp.inl [2, 3] (by kernel_rfl) Try.func22 rfl Try.ntmps22 rfl rfl (ltb rfl) rfl (leb rfl) rfl ?_)
 intro fr1
 refine AC.seq ?_
 refine AC.region ?_
 refine AO.op rfl (AOp.box rfl rfl (ltb rfl) rfl rfl ?_)
 refine AO.op rfl (AOp.assign rfl rfl (ltb rfl) rfl ?_)
 refine AO.nil ?_
 change AC _ _ _ _
 refine AC.seq ?_
 refine AC.room ?_
 obtain ⟨y2, q3, h0⟩ := bind_elim h0
 refine AC.drawS [0, 1, 2, 3, 4] [4] [5, 6] (fun L => [.fix 27 [.d (di .i64 a0.Kind), .d (di .i64 a0.Layout), .d (di .i64 a0.SRID), .d (eS1 a0.Flat), .d (eS2 a0.Ends), .d (eS3 a0.Endss), .d (eS0 a0.Kids)], .fix 27 [.d (di .i64 (0 : Int)), .d (di .i64 (0 : Int)), .d (di .i64 (0 : Int)), .d (.v (.slice none 0 0)), .d (.v (.slice none 0 0)), .d (.v (.slice none 0 0)), .d (.v (.slice none 0 0))], .fix 4 [.d (dbool false)], .frame fr1 [(2, .ptr 1 0), (3, .ptr 2 0)], .fix 27 [.d (di .i64 a0.Kind), .d (di .i64 a0.Layout), .d (di .i64 a0.SRID), .d (eS1 a0.Flat), .d (eS2 a0.Ends), .d (eS3 a0.Endss), .d (eS0 a0.Kids)], bif L 4 then .grow 32 1 (List.map keS1 y2) else .dead]) [(4, SV.noO2 5 6)] mixed (by kernel_rfl) (fun L L' h => by simp only [h 4 (by decide)]) rfl ?_
 refine AS.op [1] [] [] [4] rfl rfl rfl (by kernel_rfl) (by kernel_rfl) rfl rfl (fun _ _ _ h => AOp.fieldAddr rfl rfl (ltb rfl) rfl fo27_1 h) (by kernel_rfl) ?_
 refine AS.op [8] [] [] [4] rfl rfl rfl (by kernel_rfl) (by kernel_rfl) rfl rfl (fun _ _ _ h => AOp.load1 rfl rfl (ltb rfl) rfl agg3 rfl rfl h) (by kernel_rfl) ?_
 refine AS.op [1] [] [4] [] rfl rfl rfl (by kernel_rfl) (by kernel_rfl) rfl rfl (fun _ _ _ h => AOp.fieldAddr rfl rfl (ltb rfl) rfl fo27_3 h) (by kernel_rfl) ?_
 refine AS.op [10] [] [4] [] rfl rfl rfl (by kernel_rfl) (by kernel_rfl) rfl rfl (fun _ _ _ h => AOp.load1 rfl rfl (ltb rfl) rfl agg22 rfl rfl h) (by kernel_rfl) ?_
 refine AS.mid [11] [] [4] [] rfl rfl rfl rfl (by kernel_rfl) (by kernel_rfl) rfl rfl (fun _ _ _ h => AOp.callNew rfl rfl (ltb rfl) rfl rfl (wn_floats a0.Flat y2 q3) (AO.sink 5 6 rfl rfl rfl (.cons rfl (.cons rfl (.cons rfl (.cons rfl (.cons rfl (.cons (noO2_cond rfl rfl) .nil)))))) rfl h)) (by kernel_rfl) rfl ?_
 refine AS.done ?_
 refine AO.objs (obs' := [.fix 27 [.d (di .i64 a0.Kind), .d (di .i64 a0.Layout), .d (di .i64 a0.SRID), .d (eS1 a0.Flat), .d (eS2 a0.Ends), .d (eS3 a0.Endss), .d (eS0 a0.Kids)], .fix 27 [.d (di .i64 (0 : Int)), .d (di .i64 (0 : Int)), .d (di .i64 (0 : Int)), .d (.v (.slice none 0 0)), .d (.v (.slice none 0 0)), .d (.v (.slice none 0 0)), .d (.v (.slice none 0 0))], .fix 4 [.d (dbool false)], .frame fr1 [(2, .ptr 1 0), (3, .ptr 2 0)], .fix 27 [.d (di .i64 a0.Kind), .d (di .i64 a0.Layout), .d (di .i64 a0.SRID), .d (eS1 a0.Flat), .d (eS2 a0.Ends), .d (eS3 a0.Endss), .d (eS0 a0.Kids)], .grow 32 1 (List.map keS1 y2)]) rfl ?_
 refine AO.op rfl (AOp.assign rfl rfl (ltb rfl) rfl ?_)
 refine AO.op rfl (AOp.assign rfl rfl (ltb rfl) rfl ?_)
 refine AO.objs (obs' := [.fix 27 [.d (di .i64 a0.Kind), .d (di .i64 a0.Layout), .d (di .i64 a0.SRID), .d (eS1 a0.Flat), .d (eS2 a0.Ends), .d (eS3 a0.Endss), .d (eS0 a0.Kids)], .fix 27 [.d (di .i64 (0 : Int)), .d (di .i64 (0 : Int)), .d (di .i64 (0 : Int)), .d (.v (.slice none 0 0)), .d (.v (.slice none 0 0)), .d (.v (.slice none 0 0)), .d (.v (.slice none 0 0))], .fix 4 [.d (dbool false)], .frame fr1 [(2, .ptr 1 0), (3, .ptr 2 0)], .fix 27 [.d (di .i64 a0.Kind), .d (di .i64 a0.Layout), .d (di .i64 a0.SRID), .d (eS1 a0.Flat), .d (eS2 a0.Ends), .d (eS3 a0.Endss), .d (eS0 a0.Kids)], .grow 32 1 (List.map keS1 y2)]) rfl ?_
 refine AO.nil ?_
 change AC _ _ _ _
 refine AC.seq ?_
 refine AC.seq ?_
 refine AC.region ?_
 refine AO.op rfl (AOp.fieldAddr rfl rfl (ltb rfl) rfl fo27_0 ?_)
 refine AO.op rfl (AOp.load1 rfl rfl (ltb rfl) rfl agg3 rfl rfl ?_)
 refine AO.nil ?_
 change AC _ _ _ _
 refine AC.block ?_
 refine AC.seq ?_
 refine AC.region ?_
 refine AO.op rfl (AOp.ieql rfl rfl (ltb rfl) rfl rfl ?_)
 refine AO.op rfl (AOp.assign rfl rfl (ltb rfl) rfl ?_)
 refine AO.nil ?_
 change AC _ _ _ _
 refine AC.cond rfl (fun q4 => ?_) (fun q4 => ?_)
 ·exact absurd (hp0.symm.trans q4) (by decide)
 replace h0 := cF h0 q4
 refine AC.seq ?_
 refine AC.region ?_
 refine AO.op rfl (AOp.ieql rfl rfl (ltb rfl) rfl rfl ?_)
 refine AO.op rfl (AOp.assign rfl rfl (ltb rfl) rfl ?_)
 refine AO.nil ?_
 change AC _ _ _ _
 refine AC.cond rfl (fun q5 => ?_) (fun q5 => ?_)
 ·exact absurd (hp1.symm.trans q5) (by decide)
 replace h0 := cF h0 q5
 refine AC.seq ?_
 refine AC.region ?_
 refine AO.op rfl (AOp.ieql rfl rfl (ltb rfl) rfl rfl ?_)
 refine AO.op rfl (AOp.assign rfl rfl (ltb rfl) rfl ?_)
 refine AO.nil ?_
 change AC _ _ _ _
 refine AC.cond rfl (fun q59 => ?_) (fun q59 => ?_)
 ·exact absurd (hp2.symm.trans q59) (by decide)
 replace h0 := cF h0 q59
 refine AC.seq ?_
 refine AC.region ?_
 refine AO.op rfl (AOp.ieql rfl rfl (ltb rfl) rfl rfl ?_)
 refine AO.op rfl (AOp.assign rfl rfl (ltb rfl) rfl ?_)
 refine AO.nil ?_
 change AC _ _ _ _
 refine AC.cond rfl (fun q113 => ?_) (fun q113 => ?_)
 ·exact absurd (hp3.symm.trans q113) (by decide)
 replace h0 := cF h0 q113
 refine AC.seq ?_
 refine AC.region ?_
 refine AO.op rfl (AOp.ieql rfl rfl (ltb rfl) rfl rfl ?_)
 refine AO.op rfl (AOp.assign rfl rfl (ltb rfl) rfl ?_)
 refine AO.nil ?_
 change AC _ _ _ _
 refine AC.cond rfl (fun q180 => ?_) (fun q180 => ?_)
 ·exact absurd (hp4.symm.trans q180) (by decide)
 replace h0 := cF h0 q180
 refine AC.seq ?_
 refine AC.region ?_
 refine AO.op rfl (AOp.ieql rfl rfl (ltb rfl) rfl rfl ?_)
 refine AO.op rfl (AOp.assign rfl rfl (ltb rfl) rfl ?_)
 refine AO.nil ?_
 change AC _ _ _ _
 refine AC.cond rfl (fun q249 => ?_) (fun q249 => ?_)
 ·replace h0 := cT h0 q249
  refine AC.seq ?_
  refine AC.room ?_
  obtain ⟨y250, q251, h0⟩ := bind_elim h0
  obtain ⟨y252, q253, h0⟩ := bind_elim h0
  refine AC.drawS [0, 1, 2, 3, 4, 5, 6, 7] [5] [8, 9, 10] (fun L => [.fix 27 [.d (di .i64 a0.Kind), .d (di .i64 a0.Layout), .d (di .i64 a0.SRID), .d (eS1 a0.Flat), .d (eS2 a0.Ends), .d (eS3 a0.Endss), .d (eS0 a0.Kids)], .fix 27 [.d (di .i64 (0 : Int)), .d (di .i64 (0 : Int)), .d (di .i64 (0 : Int)), .d (.v (.slice none 0 0)), .d (.v (.slice none 0 0)), .d (.v (.slice none 0 0)), .d (.v (.slice none 0 0))], .fix 4 [.d (dbool false)], .frame fr1 [(2, .ptr 1 0), (3, .ptr 2 0)], .fix 27 [.d (di .i64 a0.Kind), .d (di .i64 a0.Layout), .d (di .i64 a0.SRID), .d (eS1 a0.Flat), .d (eS2 a0.Ends), .d (eS3 a0.Endss), .d (eS0 a0.Kids)], .grow 32 1 (List.map keS1 y2), bif L 5 then .fix 99 [.d (di .i64 y252.geom2.geom1.geom0.layout), .d (di .i64 y252.geom2.geom1.geom0.stride), .own 5, .d (di .i64 y252.geom2.geom1.geom0.srid), .d (eS2 y252.geom2.ends)] else .dead]) [(5, SV.noO2 6 7)] mixed (by kernel_rfl) (fun L L' h => by simp only [h 5 (by decide)]) rfl ?_
  refine AS.op [3] [] [5] [] rfl rfl rfl (by kernel_rfl) (by kernel_rfl) rfl rfl (fun _ _ _ h => AOp.move rfl rfl (ltb rfl) rfl h) (by kernel_rfl) ?_
  refine AS.op [4] [] [5] [] rfl rfl rfl (by kernel_rfl) (by kernel_rfl) rfl rfl (fun _ _ _ h => AOp.move rfl rfl (ltb rfl) rfl h) (by kernel_rfl) ?_
  refine AS.op [1] [] [5] [] rfl rfl rfl (by kernel_rfl) (by kernel_rfl) rfl rfl (fun _ _ _ h => AOp.fieldAddr rfl rfl (ltb rfl) rfl fo27_4 h) (by kernel_rfl) ?_
  refine AS.op [72] [] [5] [] rfl rfl rfl (by kernel_rfl) (by kernel_rfl) rfl rfl (fun _ _ _ h => AOp.load1 rfl rfl (ltb rfl) rfl agg23 rfl rfl h) (by kernel_rfl) ?_
  refine AS.op [73] [] [5] [] rfl rfl rfl (by kernel_rfl) (by kernel_rfl) rfl rfl (fun _ _ _ h => AOp.callD rfl rfl (ltb rfl) rfl rfl (w_ints a0.Ends y250 q251) (by rintro _ rfl; exact h)) (by kernel_rfl) ?_
  refine AS.mid [70, 71, 74] [] [5] [] rfl rfl rfl rfl (by kernel_rfl) (by kernel_rfl) rfl rfl (fun _ _ _ h => AOp.callAT (p := 5) (n := y2.length) (cz := [some (di .i64 y252.geom2.geom1.geom0.layout), some (di .i64 y252.geom2.geom1.geom0.stride), none, some (di .i64 y252.geom2.geom1.geom0.srid), some (eS2 y252.geom2.ends)]) rfl rfl (ltb rfl) rfl rfl rfl (by decide) (len1 _ _) (fun sa sc => wt_NewMultiLineStringFlat sa sc a0.Layout y2.length y250 y252 q253) rfl (AO.sink 6 7 rfl rfl rfl (.cons rfl (.cons rfl (.cons rfl (.cons rfl (.cons rfl (.cons rfl (.cons (noO2_cond rfl rfl) .nil))))))) rfl h)) (by kernel_rfl) rfl ?_
  refine AS.op [1] [] [] [5] rfl rfl rfl (by kernel_rfl) (by kernel_rfl) rfl rfl (fun _ _ _ h => AOp.fieldAddr rfl rfl (ltb rfl) rfl fo27_2 h) (by kernel_rfl) ?_
  refine AS.op [76] [] [] [5] rfl rfl rfl (by kernel_rfl) (by kernel_rfl) rfl rfl (fun _ _ _ h => AOp.load1 rfl rfl (ltb rfl) rfl agg3 rfl rfl h) (by kernel_rfl) ?_
  refine AS.done ?_
  refine AO.objs (obs' := [.fix 27 [.d (di .i64 a0.Kind), .d (di .i64 a0.Layout), .d (di .i64 a0.SRID), .d (eS1 a0.Flat), .d (eS2 a0.Ends), .d (eS3 a0.Endss), .d (eS0 a0.Kids)], .fix 27 [.d (di .i64 (0 : Int)), .d (di .i64 (0 : Int)), .d (di .i64 (0 : Int)), .d (.v (.slice none 0 0)), .d (.v (.slice none 0 0)), .d (.v (.slice none 0 0)), .d (.v (.slice none 0 0))], .fix 4 [.d (dbool false)], .frame fr1 [(2, .ptr 1 0), (3, .ptr 2 0)], .fix 27 [.d (di .i64 a0.Kind), .d (di .i64 a0.Layout), .d (di .i64 a0.SRID), .d (eS1 a0.Flat), .d (eS2 a0.Ends), .d (eS3 a0.Endss), .d (eS0 a0.Kids)], .grow 32 1 (List.map keS1 y2), .fix 99 [.d (di .i64 y252.geom2.geom1.geom0.layout), .d (di .i64 y252.geom2.geom1.geom0.stride), .own 5, .d (di .i64 y252.geom2.geom1.geom0.srid), .d (eS2 y252.geom2.ends)]]) rfl ?_
  refine AO.op rfl (AOp.inl [2] (by kernel_rfl) Try.func52 rfl Try.ntmps52 rfl rfl (ltb rfl) rfl (leb rfl) rfl ?_)
  intro fr254
  refine AC.seq ?_
  refine AC.region ?_
  refine AO.op rfl (AOp.assign rfl rfl (ltb rfl) rfl ?_)
  refine AO.objs (obs' := [.fix 27 [.d (di .i64 a0.Kind), .d (di .i64 a0.Layout), .d (di .i64 a0.SRID), .d (eS1 a0.Flat), .d (eS2 a0.Ends), .d (eS3 a0.Endss), .d (eS0 a0.Kids)], .fix 27 [.d (di .i64 (0 : Int)), .d (di .i64 (0 : Int)), .d (di .i64 (0 : Int)), .d (.v (.slice none 0 0)), .d (.v (.slice none 0 0)), .d (.v (.slice none 0 0)), .d (.v (.slice none 0 0))], .fix 4 [.d (dbool false)], .frame fr1 [(2, .ptr 1 0), (3, .ptr 2 0)], .fix 27 [.d (di .i64 a0.Kind), .d (di .i64 a0.Layout), .d (di .i64 a0.SRID), .d (eS1 a0.Flat), .d (eS2 a0.Ends), .d (eS3 a0.Endss), .d (eS0 a0.Kids)], .grow 32 1 (List.map keS1 y2), .fix 99 [.d (di .i64 y252.geom2.geom1.geom0.layout), .d (di .i64 y252.geom2.geom1.geom0.stride), .own 5, .d (di .i64 y252.geom2.geom1.geom0.srid), .d (eS2 y252.geom2.ends)], .frame fr254 [(2, .d (.v (.nilIface)))]]) rfl ?_
  refine AO.nil ?_
  change AC _ _ _ _
  refine AC.seq ?_
  refine AC.region ?_
  refine AO.op rfl (AOp.move rfl rfl (ltb rfl) rfl ?_)
  refine AO.op rfl (AOp.move rfl rfl (ltb rfl) rfl ?_)
  refine AO.op rfl (AOp.nilCheck rfl rfl (ltb rfl) rfl rfl ?_)
  refine AO.op rfl (AOp.fieldAddr rfl rfl (ltb rfl) rfl fo99_0 ?_)
  refine AO.op rfl (AOp.fieldAddr rfl rfl (ltb rfl) rfl fo95_0 ?_)
  refine AO.op rfl (AOp.fieldAddr rfl rfl (ltb rfl) rfl fo93_0 ?_)
  refine AO.op rfl (AOp.fieldAddr rfl rfl (ltb rfl) rfl fo91_3 ?_)
  refine AO.op rfl (AOp.store rfl rfl rfl rfl size3 rfl rfl rfl (leb rfl) ?_)
  refine AO.nil ?_
  change AC _ _ _ _
  refine AC.seq ?_
  refine AC.region ?_
  refine AO.op rfl (AOp.move rfl rfl (ltb rfl) rfl ?_)
  refine AO.op rfl (AOp.assign rfl rfl (ltb rfl) rfl ?_)
  refine AO.nil ?_
  change AC _ _ _ _
  refine AC.ret ?_
  refine inlret (ob' := [.fix 27 [.d (di .i64 a0.Kind), .d (di .i64 a0.Layout), .d (di .i64 a0.SRID), .d (eS1 a0.Flat), .d (eS2 a0.Ends), .d (eS3 a0.Endss), .d (eS0 a0.Kids)], .fix 27 [.d (di .i64 (0 : Int)), .d (di .i64 (0 : Int)), .d (di .i64 (0 : Int)), .d (.v (.slice none 0 0)), .d (.v (.slice none 0 0)), .d (.v (.slice none 0 0)), .d (.v (.slice none 0 0))], .fix 4 [.d (dbool false)], .frame fr1 [(2, .ptr 1 0), (3, .ptr 2 0)], .fix 27 [.d (di .i64 a0.Kind), .d (di .i64 a0.Layout), .d (di .i64 a0.SRID), .d (eS1 a0.Flat), .d (eS2 a0.Ends), .d (eS3 a0.Endss), .d (eS0 a0.Kids)], .grow 32 1 (List.map keS1 y2), .fix 99 [.d (di .i64 y252.geom2.geom1.geom0.layout), .d (di .i64 y252.geom2.geom1.geom0.stride), .own 5, .d (di .i64 a0.SRID), .d (eS2 y252.geom2.ends)], .dead]) (e' := [(2, .d (.v (.nilIface)))]) (r := .ptr 6 0) rfl rfl rfl ?_
  change AO _ _ _ _ _
  refine AO.op rfl (AOp.makeIfc rfl rfl (ltb rfl) rfl conc52 ?_)
  refine AO.op rfl (AOp.assign rfl rfl (ltb rfl) rfl ?_)
  refine AO.objs (obs' := [.fix 27 [.d (di .i64 a0.Kind), .d (di .i64 a0.Layout), .d (di .i64 a0.SRID), .d (eS1 a0.Flat), .d (eS2 a0.Ends), .d (eS3 a0.Endss), .d (eS0 a0.Kids)], .fix 27 [.d (di .i64 (0 : Int)), .d (di .i64 (0 : Int)), .d (di .i64 (0 : Int)), .d (.v (.slice none 0 0)), .d (.v (.slice none 0 0)), .d (.v (.slice none 0 0)), .d (.v (.slice none 0 0))], .fix 4 [.d (dbool false)], .frame fr1 [(2, .ptr 1 0), (3, .ptr 2 0)], .fix 27 [.d (di .i64 a0.Kind), .d (di .i64 a0.Layout), .d (di .i64 a0.SRID), .d (eS1 a0.Flat), .d (eS2 a0.Ends), .d (eS3 a0.Endss), .d (eS0 a0.Kids)], .grow 32 1 (List.map keS1 y2), .fix 99 [.d (di .i64 y252.geom2.geom1.geom0.layout), .d (di .i64 y252.geom2.geom1.geom0.stride), .own 5, .d (di .i64 a0.SRID), .d (eS2 y252.geom2.ends)], .dead]) rfl ?_
  refine AO.nil ?_
  change AC _ _ _ _
  refine AC.ret ?_
  refine inlret (ob' := [.fix 27 [.d (di .i64 a0.Kind), .d (di .i64 a0.Layout), .d (di .i64 a0.SRID), .d (eS1 a0.Flat), .d (eS2 a0.Ends), .d (eS3 a0.Endss), .d (eS0 a0.Kids)], .fix 27 [.d (di .i64 (0 : Int)), .d (di .i64 (0 : Int)), .d (di .i64 (0 : Int)), .d (.v (.slice none 0 0)), .d (.v (.slice none 0 0)), .d (.v (.slice none 0 0)), .d (.v (.slice none 0 0))], .fix 4 [.d (dbool false)], .dead, .fix 27 [.d (di .i64 a0.Kind), .d (di .i64 a0.Layout), .d (di .i64 a0.SRID), .d (eS1 a0.Flat), .d (eS2 a0.Ends), .d (eS3 a0.Endss), .d (eS0 a0.Kids)], .grow 32 1 (List.map keS1 y2), .fix 99 [.d (di .i64 y252.geom2.geom1.geom0.layout), .d (di .i64 y252.geom2.geom1.geom0.stride), .own 5, .d (di .i64 a0.SRID), .d (eS2 y252.geom2.ends)], .dead]) (e' := [(2, .ptr 1 0), (3, .ptr 2 0)]) (r := .ifc 52 (.ptr 6 0)) rfl rfl rfl ?_
  change AO _ _ _ _ _
  refine AO.op rfl (AOp.assign rfl rfl (ltb rfl) rfl ?_)
  refine AO.objs (obs' := [.fix 27 [.d (di .i64 a0.Kind), .d (di .i64 a0.Layout), .d (di .i64 a0.SRID), .d (eS1 a0.Flat), .d (eS2 a0.Ends), .d (eS3 a0.Endss), .d (eS0 a0.Kids)], .fix 27 [.d (di .i64 (0 : Int)), .d (di .i64 (0 : Int)), .d (di .i64 (0 : Int)), .d (.v (.slice none 0 0)), .d (.v (.slice none 0 0)), .d (.v (.slice none 0 0)), .d (.v (.slice none 0 0))], .fix 4 [.d (dbool false)], .dead, .fix 27 [.d (di .i64 a0.Kind), .d (di .i64 a0.Layout), .d (di .i64 a0.SRID), .d (eS1 a0.Flat), .d (eS2 a0.Ends), .d (eS3 a0.Endss), .d (eS0 a0.Kids)], .grow 32 1 (List.map keS1 y2), .fix 99 [.d (di .i64 y252.geom2.geom1.geom0.layout), .d (di .i64 y252.geom2.geom1.geom0.stride), .own 5, .d (di .i64 a0.SRID), .d (eS2 y252.geom2.ends)], .dead]) rfl ?_
  refine AO.nil ?_
  change AC _ _ _ _
  refine AC.seq ?_
  refine AC.region ?_
  refine AO.op rfl (AOp.move rfl rfl (ltb rfl) rfl ?_)
  refine AO.op rfl (AOp.assertYes rfl rfl (ltb rfl) rfl rfl pass52_55 rfl ?_)
  refine AO.op rfl (AOp.move rfl rfl (ltb rfl) rfl ?_)
  first | refine AO.op rfl (AOp.extractD rfl rfl (ltb rfl) rfl rfl ?_) | refine AO.op rfl (AOp.extract rfl rfl (ltb rfl) rfl rfl ?_)
  first | refine AO.op rfl (AOp.extractD rfl rfl (ltb rfl) rfl rfl ?_) | refine AO.op rfl (AOp.extract rfl rfl (ltb rfl) rfl rfl ?_)
  refine AO.op rfl (AOp.assign rfl rfl (ltb rfl) rfl ?_)
  refine AO.op rfl (AOp.assign rfl rfl (ltb rfl) rfl ?_)
  refine AO.nil ?_
  change AC _ _ _ _
  refine AC.seq ?_
  refine AC.seq ?_
  refine AC.region ?_
  refine AO.op rfl (AOp.move rfl rfl (ltb rfl) rfl ?_)
  refine AO.op rfl (AOp.bnot rfl rfl (ltb rfl) rfl ?_)
  refine AO.nil ?_
  change AC _ _ _ _
  refine AC.condF rfl rfl ?_
  refine AC.skip ?_
  change AC _ _ _ _
  refine AC.seq ?_
  refine AC.region ?_
  refine AO.op rfl (AOp.move rfl rfl (ltb rfl) rfl ?_)
  refine AO.op rfl (AOp.inlE [2, 3, 4] (EntersS.meth (by kernel_rfl) rfl rfl rfl meth52_Reverse rfl rfl) Try.func89 rfl Try.ntmps89 rfl (ltb rfl) (leb rfl) rfl ?_)
  intro fr255
  refine AC.draw 16 mixed (by kernel_rfl) ?_
  refine AD.op [0] rfl (by kernel_rfl) rfl rfl (fun _ _ h => AOp.move rfl rfl (ltb rfl) rfl h) ?_
  refine AD.op [2] rfl (by kernel_rfl) rfl rfl (fun _ _ h => AOp.nilCheck rfl rfl (ltb rfl) rfl rfl h) ?_
  refine AD.op [3] rfl (by kernel_rfl) rfl rfl (fun _ _ h => AOp.fieldAddr rfl rfl (ltb rfl) rfl fo95_0 h) ?_
  refine AD.op [4] rfl (by kernel_rfl) rfl rfl (fun _ _ h => AOp.fieldAddr rfl rfl (ltb rfl) rfl fo93_0 h) ?_
  refine AD.op [5] rfl (by kernel_rfl) rfl rfl (fun _ _ h => AOp.fieldAddr rfl rfl (ltb rfl) rfl fo91_2 h) ?_
  refine AD.op [6] rfl (by kernel_rfl) rfl rfl (fun _ _ h => AOp.load1 rfl rfl (ltb rfl) rfl agg22 rfl rfl h) ?_
  refine AD.op [0] rfl (by kernel_rfl) rfl rfl (fun _ _ h => AOp.move rfl rfl (ltb rfl) rfl h) ?_
  refine AD.op [8] rfl (by kernel_rfl) rfl rfl (fun _ _ h => AOp.nilCheck rfl rfl (ltb rfl) rfl rfl h) ?_
  refine AD.op [9] rfl (by kernel_rfl) rfl rfl (fun _ _ h => AOp.fieldAddr rfl rfl (ltb rfl) rfl fo95_1 h) ?_
  refine AD.op [10] rfl (by kernel_rfl) rfl rfl (fun _ _ h => AOp.load1 rfl rfl (ltb rfl) rfl agg23 rfl rfl h) ?_
  refine AD.op [0] rfl (by kernel_rfl) rfl rfl (fun _ _ h => AOp.move rfl rfl (ltb rfl) rfl h) ?_
  refine AD.op [12] rfl (by kernel_rfl) rfl rfl (fun _ _ h => AOp.nilCheck rfl rfl (ltb rfl) rfl rfl h) ?_
  refine AD.op [13] rfl (by kernel_rfl) rfl rfl (fun _ _ h => AOp.fieldAddr rfl rfl (ltb rfl) rfl fo95_0 h) ?_
  refine AD.op [14] rfl (by kernel_rfl) rfl rfl (fun _ _ h => AOp.fieldAddr rfl rfl (ltb rfl) rfl fo93_0 h) ?_
  refine AD.op [15] rfl (by kernel_rfl) rfl rfl (fun _ _ h => AOp.fieldAddr rfl rfl (ltb rfl) rfl fo91_1 h) ?_
  refine AD.op [16] rfl (by kernel_rfl) rfl rfl (fun _ _ h => AOp.load1 rfl rfl (ltb rfl) rfl agg3 rfl rfl h) ?_
  refine AD.done ?_
  refine AO.op rfl (AOp.inl [] (by kernel_rfl) Try.func92 rfl Try.ntmps92 rfl rfl (ltb rfl) rfl (leb rfl) rfl ?_)
  intro fr256
  refine AC.seq ?_
  refine AC.region ?_
  refine AO.op rfl (AOp.move rfl rfl (ltb rfl) rfl ?_)
  refine AO.op rfl (AOp.lenDs (n := y252.geom2.ends.length) (cells := (List.map keS2 y252.geom2.ends)) rfl rfl (ltb rfl) rfl el23 (by decide) (len1 _ _) ?_)
  refine AO.op rfl (AOp.move rfl rfl (ltb rfl) rfl ?_)
  refine AO.objs (obs' := [.fix 27 [.d (di .i64 a0.Kind), .d (di .i64 a0.Layout), .d (di .i64 a0.SRID), .d (eS1 a0.Flat), .d (eS2 a0.Ends), .d (eS3 a0.Endss), .d (eS0 a0.Kids)], .fix 27 [.d (di .i64 (0 : Int)), .d (di .i64 (0 : Int)), .d (di .i64 (0 : Int)), .d (.v (.slice none 0 0)), .d (.v (.slice none 0 0)), .d (.v (.slice none 0 0)), .d (.v (.slice none 0 0))], .fix 4 [.d (dbool false)], .dead, .fix 27 [.d (di .i64 a0.Kind), .d (di .i64 a0.Layout), .d (di .i64 a0.SRID), .d (eS1 a0.Flat), .d (eS2 a0.Ends), .d (eS3 a0.Endss), .d (eS0 a0.Kids)], .grow 32 1 (List.map keS1 y2), .fix 99 [.d (di .i64 y252.geom2.geom1.geom0.layout), .d (di .i64 y252.geom2.geom1.geom0.stride), .own 5, .d (di .i64 a0.SRID), .d (eS2 y252.geom2.ends)], .dead, .frame fr255 [(2, .ptr 1 0), (3, .ptr 2 0), (4, .ifc 52 (.ptr 6 0))], .frame fr256 []]) rfl ?_
  refine AO.nil ?_
  change AC _ _ _ _
  obtain ⟨o257, l258, h0⟩ := bind_elim h0
  refine AC.joinE (V := (List Nat)) [] [] 10 (fun g259 => []) (fun g259 => [.fix 27 [.d (di .i64 a0.Kind), .d (di .i64 a0.Layout), .d (di .i64 a0.SRID), .d (eS1 a0.Flat), .d (eS2 a0.Ends), .d (eS3 a0.Endss), .d (eS0 a0.Kids)], .fix 27 [.d (di .i64 (0 : Int)), .d (di .i64 (0 : Int)), .d (di .i64 (0 : Int)), .d (.v (.slice none 0 0)), .d (.v (.slice none 0 0)), .d (.v (.slice none 0 0)), .d (.v (.slice none 0 0))], .fix 4 [.d (dbool false)], .dead, .fix 27 [.d (di .i64 a0.Kind), .d (di .i64 a0.Layout), .d (di .i64 a0.SRID), .d (eS1 a0.Flat), .d (eS2 a0.Ends), .d (eS3 a0.Endss), .d (eS0 a0.Kids)], .grow 32 1 (List.map keS1 g259), .fix 99 [.d (di .i64 y252.geom2.geom1.geom0.layout), .d (di .i64 y252.geom2.geom1.geom0.stride), .own 5, .d (di .i64 a0.SRID), .d (eS2 y252.geom2.ends)], .dead, .frame fr255 [(2, .ptr 1 0), (3, .ptr 2 0), (4, .ifc 52 (.ptr 6 0))], .frame fr256 []]) (fun g259 => (p_Reverse_k21 a0 F y252) g259 = some r0) rfl ?_ ?_
  ·refine AC.block ?_
   refine AC.loopP (V := (Int × Int × (List Nat))) (p_Reverse_l22 F y252) o257 [0, 3, 10, 11] [1, 12] 10 (fun g272 => [(1, .d (di .i64 g272.1)), (12, .d (di .i64 g272.2.1))]) (fun g272 => [.fix 27 [.d (di .i64 a0.Kind), .d (di .i64 a0.Layout), .d (di .i64 a0.SRID), .d (eS1 a0.Flat), .d (eS2 a0.Ends), .d (eS3 a0.Endss), .d (eS0 a0.Kids)], .fix 27 [.d (di .i64 (0 : Int)), .d (di .i64 (0 : Int)), .d (di .i64 (0 : Int)), .d (.v (.slice none 0 0)), .d (.v (.slice none 0 0)), .d (.v (.slice none 0 0)), .d (.v (.slice none 0 0))], .fix 4 [.d (dbool false)], .dead, .fix 27 [.d (di .i64 a0.Kind), .d (di .i64 a0.Layout), .d (di .i64 a0.SRID), .d (eS1 a0.Flat), .d (eS2 a0.Ends), .d (eS3 a0.Endss), .d (eS0 a0.Kids)], .grow 32 1 (List.map keS1 g272.2.2), .fix 99 [.d (di .i64 y252.geom2.geom1.geom0.layout), .d (di .i64 y252.geom2.geom1.geom0.stride), .own 5, .d (di .i64 a0.SRID), .d (eS2 y252.geom2.ends)], .dead, .frame fr255 [(2, .ptr 1 0), (3, .ptr 2 0), (4, .ifc 52 (.ptr 6 0))], .frame fr256 []]) F ((0 : Int), (0 : Int), y2) l258 rfl rfl (LeL.refl _) rfl rfl ?_
   intro n274 g272 h1
   unfold p_Reverse_l22 at h1
   refine AC.seq ?_
   refine AC.region ?_
   refine AO.op rfl (AOp.ilss rfl rfl (ltb rfl) rfl rfl ?_)
   refine AO.nil ?_
   change AC _ _ _ _
   refine AC.seq ?_
   refine AC.cond rfl (fun q275 => ?_) (fun q275 => ?_)
   ·replace h1 := cT h1 q275
    refine AC.skip ?_
    change AC _ _ _ _
    refine AC.seq ?_
    refine AC.block ?_
    refine AC.seq ?_
    refine AC.region ?_
    obtain ⟨x276, q277, h1⟩ := idx_elim h1
    refine AO.op rfl (AOp.indexDs (cells := (List.map keS2 y252.geom2.ends)) rfl rfl (ltb rfl) rfl rfl el23 (by decide) q277.1 (lt1 q277.2) ?_)
    refine AO.op rfl (AOp.loadEp rfl rfl (ltb rfl) rfl agg3 (at1 q277.2) ?_)
    refine AO.op rfl (AOp.assign rfl rfl (ltb rfl) rfl ?_)
    refine AO.nil ?_
    change AC _ _ _ _
    refine AC.seq ?_
    refine AC.region ?_
    refine AO.op rfl (AOp.move rfl rfl (ltb rfl) rfl ?_)
    refine AO.op rfl (AOp.move rfl rfl (ltb rfl) rfl ?_)
    refine AO.op rfl (AOp.move rfl rfl (ltb rfl) rfl ?_)
    refine AO.op rfl (AOp.move rfl rfl (ltb rfl) rfl ?_)
    refine AO.op rfl (AOp.inl [0, 3, 9, 10, 11, 12] (by kernel_rfl) Try.func93 rfl Try.ntmps93 rfl rfl (ltb rfl) rfl (leb rfl) rfl ?_)
    intro fr278
    refine AC.seq ?_
    refine AC.region ?_
    refine AO.op rfl (AOp.move rfl rfl (ltb rfl) rfl ?_)
    refine AO.op rfl (AOp.move rfl rfl (ltb rfl) rfl ?_)
    obtain ⟨q279, h1⟩ := need_elim h1
    refine AO.op rfl (AOp.iadd rfl rfl (ltb rfl) rfl rfl rfl q279.1 q279.2 ?_)
    refine AO.op rfl (AOp.move rfl rfl (ltb rfl) rfl ?_)
    refine AO.op rfl (AOp.assign rfl rfl (ltb rfl) rfl ?_)
    refine AO.op rfl (AOp.assign rfl rfl (ltb rfl) rfl ?_)
    refine AO.objs (obs' := [.fix 27 [.d (di .i64 a0.Kind), .d (di .i64 a0.Layout), .d (di .i64 a0.SRID), .d (eS1 a0.Flat), .d (eS2 a0.Ends), .d (eS3 a0.Endss), .d (eS0 a0.Kids)], .fix 27 [.d (di .i64 (0 : Int)), .d (di .i64 (0 : Int)), .d (di .i64 (0 : Int)), .d (.v (.slice none 0 0)), .d (.v (.slice none 0 0)), .d (.v (.slice none 0 0)), .d (.v (.slice none 0 0))], .fix 4 [.d (dbool false)], .dead, .fix 27 [.d (di .i64 a0.Kind), .d (di .i64 a0.Layout), .d (di .i64 a0.SRID), .d (eS1 a0.Flat), .d (eS2 a0.Ends), .d (eS3 a0.Endss), .d (eS0 a0.Kids)], .grow 32 1 (List.map keS1 g272.2.2), .fix 99 [.d (di .i64 y252.geom2.geom1.geom0.layout), .d (di .i64 y252.geom2.geom1.geom0.stride), .own 5, .d (di .i64 a0.SRID), .d (eS2 y252.geom2.ends)], .dead, .frame fr255 [(2, .ptr 1 0), (3, .ptr 2 0), (4, .ifc 52 (.ptr 6 0))], .frame fr256 [], .frame fr278 [(0, .own 5), (3, .d (di .i64 y252.geom2.geom1.geom0.stride)), (9, .d (di .i64 x276)), (10, .d (eS2 y252.geom2.ends)), (11, .d (di .i64 ((y252.geom2.ends.length : Nat) : Int))), (12, .d (di .i64 g272.2.1))]]) rfl ?_
    refine AO.nil ?_
    change AC _ _ _ _
    obtain ⟨o280, l281, h1⟩ := bind_elim h1
    refine AC.joinE (V := (List Nat)) [] [] 11 (fun g282 => []) (fun g282 => [.fix 27 [.d (di .i64 a0.Kind), .d (di .i64 a0.Layout), .d (di .i64 a0.SRID), .d (eS1 a0.Flat), .d (eS2 a0.Ends), .d (eS3 a0.Endss), .d (eS0 a0.Kids)], .fix 27 [.d (di .i64 (0 : Int)), .d (di .i64 (0 : Int)), .d (di .i64 (0 : Int)), .d (.v (.slice none 0 0)), .d (.v (.slice none 0 0)), .d (.v (.slice none 0 0)), .d (.v (.slice none 0 0))], .fix 4 [.d (dbool false)], .dead, .fix 27 [.d (di .i64 a0.Kind), .d (di .i64 a0.Layout), .d (di .i64 a0.SRID), .d (eS1 a0.Flat), .d (eS2 a0.Ends), .d (eS3 a0.Endss), .d (eS0 a0.Kids)], .grow 32 1 (List.map keS1 g282), .fix 99 [.d (di .i64 y252.geom2.geom1.geom0.layout), .d (di .i64 y252.geom2.geom1.geom0.stride), .own 5, .d (di .i64 a0.SRID), .d (eS2 y252.geom2.ends)], .dead, .frame fr255 [(2, .ptr 1 0), (3, .ptr 2 0), (4, .ifc 52 (.ptr 6 0))], .frame fr256 [], .frame fr278 [(0, .own 5), (3, .d (di .i64 y252.geom2.geom1.geom0.stride)), (9, .d (di .i64 x276)), (10, .d (eS2 y252.geom2.ends)), (11, .d (di .i64 ((y252.geom2.ends.length : Nat) : Int))), (12, .d (di .i64 g272.2.1))]]) (fun g282 => (p_Reverse_k23 g272 (iter (p_Reverse_l22 F y252) n274) x276) g282 = some o257) rfl ?_ ?_
    ·refine AC.block ?_
     refine AC.loopP (V := (Int × Int × (List Nat))) (p_Reverse_l24 F y252) o280 [0, 3] [8, 9] 11 (fun g284 => [(8, .d (di .i64 g284.1)), (9, .d (di .i64 g284.2.1))]) (fun g284 => [.fix 27 [.d (di .i64 a0.Kind), .d (di .i64 a0.Layout), .d (di .i64 a0.SRID), .d (eS1 a0.Flat), .d (eS2 a0.Ends), .d (eS3 a0.Endss), .d (eS0 a0.Kids)], .fix 27 [.d (di .i64 (0 : Int)), .d (di .i64 (0 : Int)), .d (di .i64 (0 : Int)), .d (.v (.slice none 0 0)), .d (.v (.slice none 0 0)), .d (.v (.slice none 0 0)), .d (.v (.slice none 0 0))], .fix 4 [.d (dbool false)], .dead, .fix 27 [.d (di .i64 a0.Kind), .d (di .i64 a0.Layout), .d (di .i64 a0.SRID), .d (eS1 a0.Flat), .d (eS2 a0.Ends), .d (eS3 a0.Endss), .d (eS0 a0.Kids)], .grow 32 1 (List.map keS1 g284.2.2), .fix 99 [.d (di .i64 y252.geom2.geom1.geom0.layout), .d (di .i64 y252.geom2.geom1.geom0.stride), .own 5, .d (di .i64 a0.SRID), .d (eS2 y252.geom2.ends)], .dead, .frame fr255 [(2, .ptr 1 0), (3, .ptr 2 0), (4, .ifc 52 (.ptr 6 0))], .frame fr256 [], .frame fr278 [(0, .own 5), (3, .d (di .i64 y252.geom2.geom1.geom0.stride)), (9, .d (di .i64 x276)), (10, .d (eS2 y252.geom2.ends)), (11, .d (di .i64 ((y252.geom2.ends.length : Nat) : Int))), (12, .d (di .i64 g272.2.1))]]) F ((g272.1 + y252.geom2.geom1.geom0.stride), x276, g272.2.2) l281 rfl rfl (LeL.refl _) rfl rfl ?_
     intro n286 g284 h2
     unfold p_Reverse_l24 at h2
     refine AC.seq ?_
     refine AC.seq ?_
     refine AC.region ?_
     refine AO.op rfl (AOp.move rfl rfl (ltb rfl) rfl ?_)
     refine AO.op rfl (AOp.move rfl rfl (ltb rfl) rfl ?_)
     refine AO.op rfl (AOp.ileq rfl rfl (ltb rfl) rfl rfl ?_)
     refine AO.nil ?_
     change AC _ _ _ _
     refine AC.cond rfl (fun q287 => ?_) (fun q287 => ?_)
     ·replace h2 := cT h2 q287
      refine AC.skip ?_
      change AC _ _ _ _
      refine AC.seq ?_
      refine AC.block ?_
      refine AC.seq ?_
      refine AC.region ?_
      refine AO.op rfl (AOp.move rfl rfl (ltb rfl) rfl ?_)
      refine AO.op rfl (AOp.move rfl rfl (ltb rfl) rfl ?_)
      refine AO.nil ?_
      change AC _ _ _ _
      obtain ⟨o288, l289, h2⟩ := bind_elim h2
      refine AC.joinE (V := (List Nat)) [0, 3, 8, 9] [] 11 (fun g290 => []) (fun g290 => [.fix 27 [.d (di .i64 a0.Kind), .d (di .i64 a0.Layout), .d (di .i64 a0.SRID), .d (eS1 a0.Flat), .d (eS2 a0.Ends), .d (eS3 a0.Endss), .d (eS0 a0.Kids)], .fix 27 [.d (di .i64 (0 : Int)), .d (di .i64 (0 : Int)), .d (di .i64 (0 : Int)), .d (.v (.slice none 0 0)), .d (.v (.slice none 0 0)), .d (.v (.slice none 0 0)), .d (.v (.slice none 0 0))], .fix 4 [.d (dbool false)], .dead, .fix 27 [.d (di .i64 a0.Kind), .d (di .i64 a0.Layout), .d (di .i64 a0.SRID), .d (eS1 a0.Flat), .d (eS2 a0.Ends), .d (eS3 a0.Endss), .d (eS0 a0.Kids)], .grow 32 1 (List.map keS1 g290), .fix 99 [.d (di .i64 y252.geom2.geom1.geom0.layout), .d (di .i64 y252.geom2.geom1.geom0.stride), .own 5, .d (di .i64 a0.SRID), .d (eS2 y252.geom2.ends)], .dead, .frame fr255 [(2, .ptr 1 0), (3, .ptr 2 0), (4, .ifc 52 (.ptr 6 0))], .frame fr256 [], .frame fr278 [(0, .own 5), (3, .d (di .i64 y252.geom2.geom1.geom0.stride)), (9, .d (di .i64 x276)), (10, .d (eS2 y252.geom2.ends)), (11, .d (di .i64 ((y252.geom2.ends.length : Nat) : Int))), (12, .d (di .i64 g272.2.1))]]) (fun g290 => (p_Reverse_k25 y252 g284 (iter (p_Reverse_l24 F y252) n286)) g290 = some o280) rfl ?_ ?_
      ·refine AC.block ?_
       refine AC.loopP (V := (Int × (List Nat))) (p_Reverse_l26 y252 g284) o288 [0, 3, 8, 9, 24] [25] 11 (fun g293 => [(25, .d (di .i64 g293.1))]) (fun g293 => [.fix 27 [.d (di .i64 a0.Kind), .d (di .i64 a0.Layout), .d (di .i64 a0.SRID), .d (eS1 a0.Flat), .d (eS2 a0.Ends), .d (eS3 a0.Endss), .d (eS0 a0.Kids)], .fix 27 [.d (di .i64 (0 : Int)), .d (di .i64 (0 : Int)), .d (di .i64 (0 : Int)), .d (.v (.slice none 0 0)), .d (.v (.slice none 0 0)), .d (.v (.slice none 0 0)), .d (.v (.slice none 0 0))], .fix 4 [.d (dbool false)], .dead, .fix 27 [.d (di .i64 a0.Kind), .d (di .i64 a0.Layout), .d (di .i64 a0.SRID), .d (eS1 a0.Flat), .d (eS2 a0.Ends), .d (eS3 a0.Endss), .d (eS0 a0.Kids)], .grow 32 1 (List.map keS1 g293.2), .fix 99 [.d (di .i64 y252.geom2.geom1.geom0.layout), .d (di .i64 y252.geom2.geom1.geom0.stride), .own 5, .d (di .i64 a0.SRID), .d (eS2 y252.geom2.ends)], .dead, .frame fr255 [(2, .ptr 1 0), (3, .ptr 2 0), (4, .ifc 52 (.ptr 6 0))], .frame fr256 [], .frame fr278 [(0, .own 5), (3, .d (di .i64 y252.geom2.geom1.geom0.stride)), (9, .d (di .i64 x276)), (10, .d (eS2 y252.geom2.ends)), (11, .d (di .i64 ((y252.geom2.ends.length : Nat) : Int))), (12, .d (di .i64 g272.2.1))]]) F ((0 : Int), g284.2.2) l289 rfl rfl (LeL.refl _) rfl rfl ?_
       intro n295 g293 h3
       unfold p_Reverse_l26 at h3
       refine AC.seq ?_
       refine AC.region ?_
       refine AO.op rfl (AOp.ilss rfl rfl (ltb rfl) rfl rfl ?_)
       refine AO.nil ?_
       change AC _ _ _ _
       refine AC.seq ?_
       refine AC.cond rfl (fun q296 => ?_) (fun q296 => ?_)
       ·replace h3 := cT h3 q296
        refine AC.skip ?_
        change AC _ _ _ _
        refine AC.seq ?_
        refine AC.block ?_
        refine AC.seq ?_
        refine AC.region ?_
        refine AO.op rfl (AOp.move rfl rfl (ltb rfl) rfl ?_)
        refine AO.op rfl (AOp.assign rfl rfl (ltb rfl) rfl ?_)
        refine AO.nil ?_
        change AC _ _ _ _
        obtain ⟨q297, h3⟩ := need_elim h3
        obtain ⟨q298, h3⟩ := need_elim h3
        obtain ⟨q299, h3⟩ := need_elim h3
        obtain ⟨q300, h3⟩ := need_elim h3
        obtain ⟨q301, h3⟩ := need_elim h3
        obtain ⟨q302, h3⟩ := need_elim h3
        obtain ⟨q303, h3⟩ := need_elim h3
        obtain ⟨x304, q305, h3⟩ := idx_elim h3
        obtain ⟨q306, h3⟩ := need_elim h3
        obtain ⟨q307, h3⟩ := need_elim h3
        obtain ⟨q308, h3⟩ := need_elim h3
        obtain ⟨x309, q310, h3⟩ := idx_elim h3
        obtain ⟨q311, h3⟩ := need_elim h3
        obtain ⟨q312, h3⟩ := need_elim h3
        refine AC.drawS [0, 1, 2, 3, 4, 5, 6, 7, 8, 9, 10, 11, 12, 13, 14, 15, 16, 17, 18, 19, 20, 21, 22, 23, 24, 25, 26, 27, 28, 29] [29] [30, 31] (fun L => [.fix 27 [.d (di .i64 a0.Kind), .d (di .i64 a0.Layout), .d (di .i64 a0.SRID), .d (eS1 a0.Flat), .d (eS2 a0.Ends), .d (eS3 a0.Endss), .d (eS0 a0.Kids)], .fix 27 [.d (di .i64 (0 : Int)), .d (di .i64 (0 : Int)), .d (di .i64 (0 : Int)), .d (.v (.slice none 0 0)), .d (.v (.slice none 0 0)), .d (.v (.slice none 0 0)), .d (.v (.slice none 0 0))], .fix 4 [.d (dbool false)], .dead, .fix 27 [.d (di .i64 a0.Kind), .d (di .i64 a0.Layout), .d (di .i64 a0.SRID), .d (eS1 a0.Flat), .d (eS2 a0.Ends), .d (eS3 a0.Endss), .d (eS0 a0.Kids)], bif L 29 then .grow 32 1 (List.map keS1 (g293.2.set (((g284.1 - y252.geom2.geom1.geom0.stride) + g293.1)).toNat x304)) else .grow 32 1 (List.map keS1 g293.2), .fix 99 [.d (di .i64 y252.geom2.geom1.geom0.layout), .d (di .i64 y252.geom2.geom1.geom0.stride), .own 5, .d (di .i64 a0.SRID), .d (eS2 y252.geom2.ends)], .dead, .frame fr255 [(2, .ptr 1 0), (3, .ptr 2 0), (4, .ifc 52 (.ptr 6 0))], .frame fr256 [], .frame fr278 [(0, .own 5), (3, .d (di .i64 y252.geom2.geom1.geom0.stride)), (9, .d (di .i64 x276)), (10, .d (eS2 y252.geom2.ends)), (11, .d (di .i64 ((y252.geom2.ends.length : Nat) : Int))), (12, .d (di .i64 g272.2.1))]]) [(29, (fun _ => true))] mixed (by kernel_rfl) (fun L L' h => by simp only [h 29 (by decide)]) rfl ?_
        refine AS.op [0] [] [29] [] rfl rfl rfl (by kernel_rfl) (by kernel_rfl) rfl rfl (fun _ _ _ h => AOp.move rfl rfl (ltb rfl) rfl h) (by kernel_rfl) ?_
        refine AS.op [8] [] [29] [] rfl rfl rfl (by kernel_rfl) (by kernel_rfl) rfl rfl (fun _ _ _ h => AOp.move rfl rfl (ltb rfl) rfl h) (by kernel_rfl) ?_
        refine AS.op [3] [] [29] [] rfl rfl rfl (by kernel_rfl) (by kernel_rfl) rfl rfl (fun _ _ _ h => AOp.move rfl rfl (ltb rfl) rfl h) (by kernel_rfl) ?_
        refine AS.op [29, 30] [] [29] [] rfl rfl rfl (by kernel_rfl) (by kernel_rfl) rfl rfl (fun _ _ _ h => AOp.isub rfl rfl (ltb rfl) rfl rfl rfl q297.1 q297.2 h) (by kernel_rfl) ?_
        refine AS.op [10] [] [29] [] rfl rfl rfl (by kernel_rfl) (by kernel_rfl) rfl rfl (fun _ _ _ h => AOp.move rfl rfl (ltb rfl) rfl h) (by kernel_rfl) ?_
        refine AS.op [31, 32] [] [29] [] rfl rfl rfl (by kernel_rfl) (by kernel_rfl) rfl rfl (fun _ _ _ h => AOp.iadd rfl rfl (ltb rfl) rfl rfl rfl q298.1 q298.2 h) (by kernel_rfl) ?_
        refine AS.op [0] [] [] [29] rfl rfl rfl (by kernel_rfl) (by kernel_rfl) rfl rfl (fun _ _ _ h => AOp.move rfl rfl (ltb rfl) rfl h) (by kernel_rfl) ?_
        refine AS.op [9] [] [] [29] rfl rfl rfl (by kernel_rfl) (by kernel_rfl) rfl rfl (fun _ _ _ h => AOp.move rfl rfl (ltb rfl) rfl h) (by kernel_rfl) ?_
        refine AS.op [3] [] [] [29] rfl rfl rfl (by kernel_rfl) (by kernel_rfl) rfl rfl (fun _ _ _ h => AOp.move rfl rfl (ltb rfl) rfl h) (by kernel_rfl) ?_
        refine AS.op [35, 36] [] [] [29] rfl rfl rfl (by kernel_rfl) (by kernel_rfl) rfl rfl (fun _ _ _ h => AOp.isub rfl rfl (ltb rfl) rfl rfl rfl q299.1 q299.2 h) (by kernel_rfl) ?_
        refine AS.op [10] [] [] [29] rfl rfl rfl (by kernel_rfl) (by kernel_rfl) rfl rfl (fun _ _ _ h => AOp.move rfl rfl (ltb rfl) rfl h) (by kernel_rfl) ?_
        refine AS.op [37, 38] [] [] [29] rfl rfl rfl (by kernel_rfl) (by kernel_rfl) rfl rfl (fun _ _ _ h => AOp.iadd rfl rfl (ltb rfl) rfl rfl rfl q300.1 q300.2 h) (by kernel_rfl) ?_
        refine AS.op [0] [] [29] [] rfl rfl rfl (by kernel_rfl) (by kernel_rfl) rfl rfl (fun _ _ _ h => AOp.move rfl rfl (ltb rfl) rfl h) (by kernel_rfl) ?_
        refine AS.op [9] [] [29] [] rfl rfl rfl (by kernel_rfl) (by kernel_rfl) rfl rfl (fun _ _ _ h => AOp.move rfl rfl (ltb rfl) rfl h) (by kernel_rfl) ?_
        refine AS.op [3] [] [29] [] rfl rfl rfl (by kernel_rfl) (by kernel_rfl) rfl rfl (fun _ _ _ h => AOp.move rfl rfl (ltb rfl) rfl h) (by kernel_rfl) ?_
        refine AS.op [41, 42] [] [29] [] rfl rfl rfl (by kernel_rfl) (by kernel_rfl) rfl rfl (fun _ _ _ h => AOp.isub rfl rfl (ltb rfl) rfl rfl rfl q301.1 q301.2 h) (by kernel_rfl) ?_
        refine AS.op [10] [] [29] [] rfl rfl rfl (by kernel_rfl) (by kernel_rfl) rfl rfl (fun _ _ _ h => AOp.move rfl rfl (ltb rfl) rfl h) (by kernel_rfl) ?_
        refine AS.op [43, 44] [] [29] [] rfl rfl rfl (by kernel_rfl) (by kernel_rfl) rfl rfl (fun _ _ _ h => AOp.iadd rfl rfl (ltb rfl) rfl rfl rfl q302.1 q302.2 h) (by kernel_rfl) ?_
        refine AS.op [40, 45] [] [29] [] rfl rfl rfl (by kernel_rfl) (by kernel_rfl) rfl rfl (fun _ _ _ h => AOp.indexOwn (cells := (List.map keS1 g293.2)) (n := g293.2.length) rfl rfl (ltb rfl) rfl rfl el22 rfl (by decide) (len1 _ _) q303.1 q303.2 h) (by kernel_rfl) ?_
        refine AS.op [46] [] [29] [] rfl rfl rfl (by kernel_rfl) (by kernel_rfl) rfl rfl (fun _ _ _ h => AOp.loadO1 rfl rfl (ltb rfl) rfl agg32 rfl (at1 q305.2) h) (by kernel_rfl) ?_
        refine AS.op [0] [] [29] [] rfl rfl rfl (by kernel_rfl) (by kernel_rfl) rfl rfl (fun _ _ _ h => AOp.move rfl rfl (ltb rfl) rfl h) (by kernel_rfl) ?_
        refine AS.op [8] [] [29] [] rfl rfl rfl (by kernel_rfl) (by kernel_rfl) rfl rfl (fun _ _ _ h => AOp.move rfl rfl (ltb rfl) rfl h) (by kernel_rfl) ?_
        refine AS.op [3] [] [29] [] rfl rfl rfl (by kernel_rfl) (by kernel_rfl) rfl rfl (fun _ _ _ h => AOp.move rfl rfl (ltb rfl) rfl h) (by kernel_rfl) ?_
        refine AS.op [49, 50] [] [29] [] rfl rfl rfl (by kernel_rfl) (by kernel_rfl) rfl rfl (fun _ _ _ h => AOp.isub rfl rfl (ltb rfl) rfl rfl rfl q306.1 q306.2 h) (by kernel_rfl) ?_
        refine AS.op [10] [] [29] [] rfl rfl rfl (by kernel_rfl) (by kernel_rfl) rfl rfl (fun _ _ _ h => AOp.move rfl rfl (ltb rfl) rfl h) (by kernel_rfl) ?_
        refine AS.op [51, 52] [] [29] [] rfl rfl rfl (by kernel_rfl) (by kernel_rfl) rfl rfl (fun _ _ _ h => AOp.iadd rfl rfl (ltb rfl) rfl rfl rfl q307.1 q307.2 h) (by kernel_rfl) ?_
        refine AS.op [48, 53] [] [29] [] rfl rfl rfl (by kernel_rfl) (by kernel_rfl) rfl rfl (fun _ _ _ h => AOp.indexOwn (cells := (List.map keS1 g293.2)) (n := g293.2.length) rfl rfl (ltb rfl) rfl rfl el22 rfl (by decide) (len1 _ _) q308.1 q308.2 h) (by kernel_rfl) ?_
        refine AS.op [54] [] [29] [] rfl rfl rfl (by kernel_rfl) (by kernel_rfl) rfl rfl (fun _ _ _ h => AOp.loadO1 rfl rfl (ltb rfl) rfl agg32 rfl (at1 q310.2) h) (by kernel_rfl) ?_
        refine AS.op [28, 33] [] [29] [] rfl rfl rfl (by kernel_rfl) (by kernel_rfl) rfl rfl (fun _ _ _ h => AOp.indexOwn (cells := (List.map keS1 g293.2)) (n := g293.2.length) rfl rfl (ltb rfl) rfl rfl el22 rfl (by decide) (len1 _ _) q311.1 q311.2 h) (by kernel_rfl) ?_
        refine AS.mid0 [47, 56] [] [29] [] rfl rfl rfl rfl (by kernel_rfl) (by kernel_rfl) rfl rfl (fun _ _ _ h => AOp.storeOL (f := keS1) (l := g293.2) (i := (((g284.1 - y252.geom2.geom1.geom0.stride) + g293.1)).toNat) (v := x304) rfl rfl rfl rfl size32 rfl rfl rfl q312 (AO.dropT h)) (by kernel_rfl) rfl ?_
        refine AS.done ?_
        refine AO.objs (obs' := [.fix 27 [.d (di .i64 a0.Kind), .d (di .i64 a0.Layout), .d (di .i64 a0.SRID), .d (eS1 a0.Flat), .d (eS2 a0.Ends), .d (eS3 a0.Endss), .d (eS0 a0.Kids)], .fix 27 [.d (di .i64 (0 : Int)), .d (di .i64 (0 : Int)), .d (di .i64 (0 : Int)), .d (.v (.slice none 0 0)), .d (.v (.slice none 0 0)), .d (.v (.slice none 0 0)), .d (.v (.slice none 0 0))], .fix 4 [.d (dbool false)], .dead, .fix 27 [.d (di .i64 a0.Kind), .d (di .i64 a0.Layout), .d (di .i64 a0.SRID), .d (eS1 a0.Flat), .d (eS2 a0.Ends), .d (eS3 a0.Endss), .d (eS0 a0.Kids)], .grow 32 1 (List.map keS1 (g293.2.set (((g284.1 - y252.geom2.geom1.geom0.stride) + g293.1)).toNat x304)), .fix 99 [.d (di .i64 y252.geom2.geom1.geom0.layout), .d (di .i64 y252.geom2.geom1.geom0.stride), .own 5, .d (di .i64 a0.SRID), .d (eS2 y252.geom2.ends)], .dead, .frame fr255 [(2, .ptr 1 0), (3, .ptr 2 0), (4, .ifc 52 (.ptr 6 0))], .frame fr256 [], .frame fr278 [(0, .own 5), (3, .d (di .i64 y252.geom2.geom1.geom0.stride)), (9, .d (di .i64 x276)), (10, .d (eS2 y252.geom2.ends)), (11, .d (di .i64 ((y252.geom2.ends.length : Nat) : Int))), (12, .d (di .i64 g272.2.1))]]) rfl ?_
        obtain ⟨q313, h3⟩ := need_elim h3
        refine AO.op rfl (AOp.indexOwn (cells := (List.map keS1 (g293.2.set (((g284.1 - y252.geom2.geom1.geom0.stride) + g293.1)).toNat x304))) (n := (g293.2.set (((g284.1 - y252.geom2.geom1.geom0.stride) + g293.1)).toNat x304).length) rfl rfl (ltb rfl) rfl rfl el22 rfl (by decide) (len1 _ _) q313.1 q313.2 ?_)
        obtain ⟨q314, h3⟩ := need_elim h3
        refine AO.op rfl (AOp.storeOL (f := keS1) (l := (g293.2.set (((g284.1 - y252.geom2.geom1.geom0.stride) + g293.1)).toNat x304)) (i := (((g284.2.1 - y252.geom2.geom1.geom0.stride) + g293.1)).toNat) (v := x309) rfl rfl rfl rfl size32 rfl rfl rfl q314 ?_)
        refine AO.nil ?_
        change AC _ _ _ _
        refine AC.region ?_
        obtain ⟨q315, h3⟩ := need_elim h3
        refine AO.op rfl (AOp.iadd rfl rfl (ltb rfl) rfl rfl rfl q315.1 q315.2 ?_)
        refine AO.op rfl (AOp.move rfl rfl (ltb rfl) rfl ?_)
        refine AO.nil ?_
        exact ⟨((g293.1 + (1 : Int)), ((g293.2.set (((g284.1 - y252.geom2.geom1.geom0.stride) + g293.1)).toNat x304).set (((g284.2.1 - y252.geom2.geom1.geom0.stride) + g293.1)).toNat x309)), _, rfl, (LeL.refl _), rfl, rfl, h3⟩
       replace h3 := cF h3 q296
       refine AC.exit ?_
       obtain rfl := Option.some.inj h3
       exact ⟨g293.2, _, rfl, (LeL.refl _), rfl, rfl, aftL h2⟩
      intro g290 h2
      unfold p_Reverse_k25 at h2
      change AC _ _ _ _
      refine AC.region ?_
      refine AO.op rfl (AOp.move rfl rfl (ltb rfl) rfl ?_)
      refine AO.op rfl (AOp.move rfl rfl (ltb rfl) rfl ?_)
      obtain ⟨q291, h2⟩ := need_elim h2
      refine AO.op rfl (AOp.iadd rfl rfl (ltb rfl) rfl rfl rfl q291.1 q291.2 ?_)
      refine AO.op rfl (AOp.move rfl rfl (ltb rfl) rfl ?_)
      refine AO.op rfl (AOp.move rfl rfl (ltb rfl) rfl ?_)
      obtain ⟨q292, h2⟩ := need_elim h2
      refine AO.op rfl (AOp.isub rfl rfl (ltb rfl) rfl rfl rfl q292.1 q292.2 ?_)
      refine AO.op rfl (AOp.assign rfl rfl (ltb rfl) rfl ?_)
      refine AO.op rfl (AOp.assign rfl rfl (ltb rfl) rfl ?_)
      refine AO.nil ?_
      exact ⟨((g284.1 + y252.geom2.geom1.geom0.stride), (g284.2.1 - y252.geom2.geom1.geom0.stride), g290), _, rfl, (LeL.refl _), rfl, rfl, h2⟩
     replace h2 := cF h2 q287
     refine AC.exit ?_
     obtain rfl := Option.some.inj h2
     exact ⟨g284.2.2, _, rfl, (LeL.refl _), rfl, rfl, aftL h1⟩
    intro g282 h1
    unfold p_Reverse_k23 at h1
    refine inlend (ob' := [.fix 27 [.d (di .i64 a0.Kind), .d (di .i64 a0.Layout), .d (di .i64 a0.SRID), .d (eS1 a0.Flat), .d (eS2 a0.Ends), .d (eS3 a0.Endss), .d (eS0 a0.Kids)], .fix 27 [.d (di .i64 (0 : Int)), .d (di .i64 (0 : Int)), .d (di .i64 (0 : Int)), .d (.v (.slice none 0 0)), .d (.v (.slice none 0 0)), .d (.v (.slice none 0 0)), .d (.v (.slice none 0 0))], .fix 4 [.d (dbool false)], .dead, .fix 27 [.d (di .i64 a0.Kind), .d (di .i64 a0.Layout), .d (di .i64 a0.SRID), .d (eS1 a0.Flat), .d (eS2 a0.Ends), .d (eS3 a0.Endss), .d (eS0 a0.Kids)], .grow 32 1 (List.map keS1 g282), .fix 99 [.d (di .i64 y252.geom2.geom1.geom0.layout), .d (di .i64 y252.geom2.geom1.geom0.stride), .own 5, .d (di .i64 a0.SRID), .d (eS2 y252.geom2.ends)], .dead, .frame fr255 [(2, .ptr 1 0), (3, .ptr 2 0), (4, .ifc 52 (.ptr 6 0))], .frame fr256 [], .dead]) (e' := [(0, .own 5), (3, .d (di .i64 y252.geom2.geom1.geom0.stride)), (9, .d (di .i64 x276)), (10, .d (eS2 y252.geom2.ends)), (11, .d (di .i64 ((y252.geom2.ends.length : Nat) : Int))), (12, .d (di .i64 g272.2.1))]) (r := .tu []) rfl rfl rfl ?_
    change AO _ _ _ _ _
    refine AO.objs (obs' := [.fix 27 [.d (di .i64 a0.Kind), .d (di .i64 a0.Layout), .d (di .i64 a0.SRID), .d (eS1 a0.Flat), .d (eS2 a0.Ends), .d (eS3 a0.Endss), .d (eS0 a0.Kids)], .fix 27 [.d (di .i64 (0 : Int)), .d (di .i64 (0 : Int)), .d (di .i64 (0 : Int)), .d (.v (.slice none 0 0)), .d (.v (.slice none 0 0)), .d (.v (.slice none 0 0)), .d (.v (.slice none 0 0))], .fix 4 [.d (dbool false)], .dead, .fix 27 [.d (di .i64 a0.Kind), .d (di .i64 a0.Layout), .d (di .i64 a0.SRID), .d (eS1 a0.Flat), .d (eS2 a0.Ends), .d (eS3 a0.Endss), .d (eS0 a0.Kids)], .grow 32 1 (List.map keS1 g282), .fix 99 [.d (di .i64 y252.geom2.geom1.geom0.layout), .d (di .i64 y252.geom2.geom1.geom0.stride), .own 5, .d (di .i64 a0.SRID), .d (eS2 y252.geom2.ends)], .dead, .frame fr255 [(2, .ptr 1 0), (3, .ptr 2 0), (4, .ifc 52 (.ptr 6 0))], .frame fr256 [], .dead]) rfl ?_
    refine AO.nil ?_
    change AC _ _ _ _
    refine AC.region ?_
    refine AO.op rfl (AOp.move rfl rfl (ltb rfl) rfl ?_)
    refine AO.op rfl (AOp.assign rfl rfl (ltb rfl) rfl ?_)
    refine AO.nil ?_
    change AC _ _ _ _
    refine AC.region ?_
    obtain ⟨q283, h1⟩ := need_elim h1
    refine AO.op rfl (AOp.iadd rfl rfl (ltb rfl) rfl rfl rfl q283.1 q283.2 ?_)
    refine AO.op rfl (AOp.move rfl rfl (ltb rfl) rfl ?_)
    refine AO.nil ?_
    exact ⟨(x276, (g272.2.1 + (1 : Int)), g282), _, rfl, (LeL.refl _), rfl, rfl, h1⟩
   replace h1 := cF h1 q275
   refine AC.exit ?_
   obtain rfl := Option.some.inj h1
   exact ⟨g272.2.2, _, rfl, (LeL.refl _), rfl, rfl, aftL h0⟩
  intro g259 h0
  unfold p_Reverse_k21 at h0
  refine inlend (ob' := [.fix 27 [.d (di .i64 a0.Kind), .d (di .i64 a0.Layout), .d (di .i64 a0.SRID), .d (eS1 a0.Flat), .d (eS2 a0.Ends), .d (eS3 a0.Endss), .d (eS0 a0.Kids)], .fix 27 [.d (di .i64 (0 : Int)), .d (di .i64 (0 : Int)), .d (di .i64 (0 : Int)), .d (.v (.slice none 0 0)), .d (.v (.slice none 0 0)), .d (.v (.slice none 0 0)), .d (.v (.slice none 0 0))], .fix 4 [.d (dbool false)], .dead, .fix 27 [.d (di .i64 a0.Kind), .d (di .i64 a0.Layout), .d (di .i64 a0.SRID), .d (eS1 a0.Flat), .d (eS2 a0.Ends), .d (eS3 a0.Endss), .d (eS0 a0.Kids)], .grow 32 1 (List.map keS1 g259), .fix 99 [.d (di .i64 y252.geom2.geom1.geom0.layout), .d (di .i64 y252.geom2.geom1.geom0.stride), .own 5, .d (di .i64 a0.SRID), .d (eS2 y252.geom2.ends)], .dead, .frame fr255 [(2, .ptr 1 0), (3, .ptr 2 0), (4, .ifc 52 (.ptr 6 0))], .dead]) (e' := []) (r := .tu []) rfl rfl rfl ?_
  change AO _ _ _ _ _
  refine AO.objs (obs' := [.fix 27 [.d (di .i64 a0.Kind), .d (di .i64 a0.Layout), .d (di .i64 a0.SRID), .d (eS1 a0.Flat), .d (eS2 a0.Ends), .d (eS3 a0.Endss), .d (eS0 a0.Kids)], .fix 27 [.d (di .i64 (0 : Int)), .d (di .i64 (0 : Int)), .d (di .i64 (0 : Int)), .d (.v (.slice none 0 0)), .d (.v (.slice none 0 0)), .d (.v (.slice none 0 0)), .d (.v (.slice none 0 0))], .fix 4 [.d (dbool false)], .dead, .fix 27 [.d (di .i64 a0.Kind), .d (di .i64 a0.Layout), .d (di .i64 a0.SRID), .d (eS1 a0.Flat), .d (eS2 a0.Ends), .d (eS3 a0.Endss), .d (eS0 a0.Kids)], .grow 32 1 (List.map keS1 g259), .fix 99 [.d (di .i64 y252.geom2.geom1.geom0.layout), .d (di .i64 y252.geom2.geom1.geom0.stride), .own 5, .d (di .i64 a0.SRID), .d (eS2 y252.geom2.ends)], .dead, .frame fr255 [(2, .ptr 1 0), (3, .ptr 2 0), (4, .ifc 52 (.ptr 6 0))], .dead]) rfl ?_
  refine AO.nil ?_
  refine inlend (ob' := [.fix 27 [.d (di .i64 a0.Kind), .d (di .i64 a0.Layout), .d (di .i64 a0.SRID), .d (eS1 a0.Flat), .d (eS2 a0.Ends), .d (eS3 a0.Endss), .d (eS0 a0.Kids)], .fix 27 [.d (di .i64 (0 : Int)), .d (di .i64 (0 : Int)), .d (di .i64 (0 : Int)), .d (.v (.slice none 0 0)), .d (.v (.slice none 0 0)), .d (.v (.slice none 0 0)), .d (.v (.slice none 0 0))], .fix 4 [.d (dbool false)], .dead, .fix 27 [.d (di .i64 a0.Kind), .d (di .i64 a0.Layout), .d (di .i64 a0.SRID), .d (eS1 a0.Flat), .d (eS2 a0.Ends), .d (eS3 a0.Endss), .d (eS0 a0.Kids)], .grow 32 1 (List.map keS1 g259), .fix 99 [.d (di .i64 y252.geom2.geom1.geom0.layout), .d (di .i64 y252.geom2.geom1.geom0.stride), .own 5, .d (di .i64 a0.SRID), .d (eS2 y252.geom2.ends)], .dead, .dead, .dead]) (e' := [(2, .ptr 1 0), (3, .ptr 2 0), (4, .ifc 52 (.ptr 6 0))]) (r := .tu []) rfl rfl rfl ?_
  change AO _ _ _ _ _
  refine AO.objs (obs' := [.fix 27 [.d (di .i64 a0.Kind), .d (di .i64 a0.Layout), .d (di .i64 a0.SRID), .d (eS1 a0.Flat), .d (eS2 a0.Ends), .d (eS3 a0.Endss), .d (eS0 a0.Kids)], .fix 27 [.d (di .i64 (0 : Int)), .d (di .i64 (0 : Int)), .d (di .i64 (0 : Int)), .d (.v (.slice none 0 0)), .d (.v (.slice none 0 0)), .d (.v (.slice none 0 0)), .d (.v (.slice none 0 0))], .fix 4 [.d (dbool false)], .dead, .fix 27 [.d (di .i64 a0.Kind), .d (di .i64 a0.Layout), .d (di .i64 a0.SRID), .d (eS1 a0.Flat), .d (eS2 a0.Ends), .d (eS3 a0.Endss), .d (eS0 a0.Kids)], .grow 32 1 (List.map keS1 g259), .fix 99 [.d (di .i64 y252.geom2.geom1.geom0.layout), .d (di .i64 y252.geom2.geom1.geom0.stride), .own 5, .d (di .i64 a0.SRID), .d (eS2 y252.geom2.ends)], .dead, .dead, .dead]) rfl ?_
  refine AO.nil ?_
  change AC _ _ _ _
  refine AC.seq ?_
  refine AC.region ?_
  refine AO.op rfl (AOp.move rfl rfl (ltb rfl) rfl ?_)
  refine AO.op rfl (AOp.inl [2, 3] (by kernel_rfl) Try.func32 rfl Try.ntmps32 rfl rfl (ltb rfl) rfl (leb rfl) rfl ?_)
  intro fr260
  refine AC.seq ?_
  refine AC.region ?_
  refine AO.op rfl (AOp.alloc rfl rfl (ltb rfl) zero27 rfl ?_)
  refine AO.objs (obs' := [.fix 27 [.d (di .i64 a0.Kind), .d (di .i64 a0.Layout), .d (di .i64 a0.SRID), .d (eS1 a0.Flat), .d (eS2 a0.Ends), .d (eS3 a0.Endss), .d (eS0 a0.Kids)], .fix 27 [.d (di .i64 (0 : Int)), .d (di .i64 (0 : Int)), .d (di .i64 (0 : Int)), .d (.v (.slice none 0 0)), .d (.v (.slice none 0 0)), .d (.v (.slice none 0 0)), .d (.v (.slice none 0 0))], .fix 4 [.d (dbool false)], .dead, .fix 27 [.d (di .i64 a0.Kind), .d (di .i64 a0.Layout), .d (di .i64 a0.SRID), .d (eS1 a0.Flat), .d (eS2 a0.Ends), .d (eS3 a0.Endss), .d (eS0 a0.Kids)], .grow 32 1 (List.map keS1 g259), .fix 99 [.d (di .i64 y252.geom2.geom1.geom0.layout), .d (di .i64 y252.geom2.geom1.geom0.stride), .own 5, .d (di .i64 a0.SRID), .d (eS2 y252.geom2.ends)], .dead, .dead, .dead, .frame fr260 [(2, .ptr 1 0), (3, .ptr 2 0)], .fix 27 [.d (di .i64 (0 : Int)), .d (di .i64 (0 : Int)), .d (di .i64 (0 : Int)), .d (.v (.slice none 0 0)), .d (.v (.slice none 0 0)), .d (.v (.slice none 0 0)), .d (.v (.slice none 0 0))]]) rfl ?_
  refine AO.nil ?_
  change AC _ _ _ _
  refine AC.seq ?_
  refine AC.region ?_
  refine AO.op rfl (AOp.move rfl rfl (ltb rfl) rfl ?_)
  refine AO.op rfl (AOp.inlE [0, 2] (EntersS.meth (by kernel_rfl) rfl rfl rfl meth52_SRID rfl rfl) Try.func90 rfl Try.ntmps90 rfl (ltb rfl) (leb rfl) rfl ?_)
  intro fr261
  refine AC.seq ?_
  refine AC.region ?_
  refine AO.op rfl (AOp.assign rfl rfl (ltb rfl) rfl ?_)
  refine AO.objs (obs' := [.fix 27 [.d (di .i64 a0.Kind), .d (di .i64 a0.Layout), .d (di .i64 a0.SRID), .d (eS1 a0.Flat), .d (eS2 a0.Ends), .d (eS3 a0.Endss), .d (eS0 a0.Kids)], .fix 27 [.d (di .i64 (0 : Int)), .d (di .i64 (0 : Int)), .d (di .i64 (0 : Int)), .d (.v (.slice none 0 0)), .d (.v (.slice none 0 0)), .d (.v (.slice none 0 0)), .d (.v (.slice none 0 0))], .fix 4 [.d (dbool false)], .dead, .fix 27 [.d (di .i64 a0.Kind), .d (di .i64 a0.Layout), .d (di .i64 a0.SRID), .d (eS1 a0.Flat), .d (eS2 a0.Ends), .d (eS3 a0.Endss), .d (eS0 a0.Kids)], .grow 32 1 (List.map keS1 g259), .fix 99 [.d (di .i64 y252.geom2.geom1.geom0.layout), .d (di .i64 y252.geom2.geom1.geom0.stride), .own 5, .d (di .i64 a0.SRID), .d (eS2 y252.geom2.ends)], .dead, .dead, .dead, .frame fr260 [(2, .ptr 1 0), (3, .ptr 2 0)], .fix 27 [.d (di .i64 (0 : Int)), .d (di .i64 (0 : Int)), .d (di .i64 (0 : Int)), .d (.v (.slice none 0 0)), .d (.v (.slice none 0 0)), .d (.v (.slice none 0 0)), .d (.v (.slice none 0 0))], .frame fr261 [(0, .ifc 52 (.ptr 6 0)), (2, .ptr 11 0)]]) rfl ?_
  refine AO.nil ?_
  change AC _ _ _ _
  refine AC.seq ?_
  refine AC.region ?_
  refine AO.op rfl (AOp.move rfl rfl (ltb rfl) rfl ?_)
  refine AO.op rfl (AOp.nilCheck rfl rfl (ltb rfl) rfl rfl ?_)
  refine AO.op rfl (AOp.fieldAddr rfl rfl (ltb rfl) rfl fo91_3 ?_)
  refine AO.op rfl (AOp.load1 rfl rfl (ltb rfl) rfl agg3 rfl rfl ?_)
  refine AO.op rfl (AOp.assign rfl rfl (ltb rfl) rfl ?_)
  refine AO.nil ?_
  change AC _ _ _ _
  refine AC.ret ?_
  refine inlret (ob' := [.fix 27 [.d (di .i64 a0.Kind), .d (di .i64 a0.Layout), .d (di .i64 a0.SRID), .d (eS1 a0.Flat), .d (eS2 a0.Ends), .d (eS3 a0.Endss), .d (eS0 a0.Kids)], .fix 27 [.d (di .i64 (0 : Int)), .d (di .i64 (0 : Int)), .d (di .i64 (0 : Int)), .d (.v (.slice none 0 0)), .d (.v (.slice none 0 0)), .d (.v (.slice none 0 0)), .d (.v (.slice none 0 0))], .fix 4 [.d (dbool false)], .dead, .fix 27 [.d (di .i64 a0.Kind), .d (di .i64 a0.Layout), .d (di .i64 a0.SRID), .d (eS1 a0.Flat), .d (eS2 a0.Ends), .d (eS3 a0.Endss), .d (eS0 a0.Kids)], .grow 32 1 (List.map keS1 g259), .fix 99 [.d (di .i64 y252.geom2.geom1.geom0.layout), .d (di .i64 y252.geom2.geom1.geom0.stride), .own 5, .d (di .i64 a0.SRID), .d (eS2 y252.geom2.ends)], .dead, .dead, .dead, .frame fr260 [(2, .ptr 1 0), (3, .ptr 2 0)], .fix 27 [.d (di .i64 (0 : Int)), .d (di .i64 (0 : Int)), .d (di .i64 (0 : Int)), .d (.v (.slice none 0 0)), .d (.v (.slice none 0 0)), .d (.v (.slice none 0 0)), .d (.v (.slice none 0 0))], .dead]) (e' := [(0, .ifc 52 (.ptr 6 0)), (2, .ptr 11 0)]) (r := .d (di .i64 a0.SRID)) rfl rfl rfl ?_
  change AO _ _ _ _ _
  refine AO.op rfl (AOp.build rfl rfl (ltb rfl) zero27 rfl places27 rfl rfl ?_)
  refine AO.op rfl (AOp.alloc rfl rfl (ltb rfl) zero27 rfl ?_)
  refine AO.op rfl (AOp.store rfl rfl rfl rfl size27 rfl rfl rfl (leb rfl) ?_)
  refine AO.objs (obs' := [.fix 27 [.d (di .i64 a0.Kind), .d (di .i64 a0.Layout), .d (di .i64 a0.SRID), .d (eS1 a0.Flat), .d (eS2 a0.Ends), .d (eS3 a0.Endss), .d (eS0 a0.Kids)], .fix 27 [.d (di .i64 (0 : Int)), .d (di .i64 (0 : Int)), .d (di .i64 (0 : Int)), .d (.v (.slice none 0 0)), .d (.v (.slice none 0 0)), .d (.v (.slice none 0 0)), .d (.v (.slice none 0 0))], .fix 4 [.d (dbool false)], .dead, .fix 27 [.d (di .i64 a0.Kind), .d (di .i64 a0.Layout), .d (di .i64 a0.SRID), .d (eS1 a0.Flat), .d (eS2 a0.Ends), .d (eS3 a0.Endss), .d (eS0 a0.Kids)], .grow 32 1 (List.map keS1 g259), .fix 99 [.d (di .i64 y252.geom2.geom1.geom0.layout), .d (di .i64 y252.geom2.geom1.geom0.stride), .own 5, .d (di .i64 a0.SRID), .d (eS2 y252.geom2.ends)], .dead, .dead, .dead, .frame fr260 [(2, .ptr 1 0), (3, .ptr 2 0)], .fix 27 [.d (di .i64 (0 : Int)), .d (di .i64 (0 : Int)), .d (di .i64 (0 : Int)), .d (.v (.slice none 0 0)), .d (.v (.slice none 0 0)), .d (.v (.slice none 0 0)), .d (.v (.slice none 0 0))], .dead, .fix 27 [.d (di .i64 (0 : Int)), .d (di .i64 (0 : Int)), .d (di .i64 a0.SRID), .d (.v (.slice none 0 0)), .d (.v (.slice none 0 0)), .d (.v (.slice none 0 0)), .d (.v (.slice none 0 0))]]) rfl ?_
  refine AO.nil ?_
  change AC _ _ _ _
  refine AC.seq ?_
  refine AC.seq ?_
  refine AC.region ?_
  refine AO.op rfl (AOp.move rfl rfl (ltb rfl) rfl ?_)
  refine AO.nil ?_
  change AC _ _ _ _
  refine AC.block ?_
  refine AC.seq ?_
  refine AC.region ?_
  refine AO.op rfl (AOp.assertNo rfl rfl (ltb rfl) rfl rfl pass52_64 zero64 ?_)
  first | refine AO.op rfl (AOp.extractD rfl rfl (ltb rfl) rfl rfl ?_) | refine AO.op rfl (AOp.extract rfl rfl (ltb rfl) rfl rfl ?_)
  first | refine AO.op rfl (AOp.extractD rfl rfl (ltb rfl) rfl rfl ?_) | refine AO.op rfl (AOp.extract rfl rfl (ltb rfl) rfl rfl ?_)
  refine AO.nil ?_
  change AC _ _ _ _
  refine AC.condF rfl rfl ?_
  refine AC.seq ?_
  refine AC.region ?_
  refine AO.op rfl (AOp.assertNo rfl rfl (ltb rfl) rfl rfl pass52_67 zero67 ?_)
  first | refine AO.op rfl (AOp.extractD rfl rfl (ltb rfl) rfl rfl ?_) | refine AO.op rfl (AOp.extract rfl rfl (ltb rfl) rfl rfl ?_)
  first | refine AO.op rfl (AOp.extractD rfl rfl (ltb rfl) rfl rfl ?_) | refine AO.op rfl (AOp.extract rfl rfl (ltb rfl) rfl rfl ?_)
  refine AO.nil ?_
  change AC _ _ _ _
  refine AC.condF rfl rfl ?_
  refine AC.seq ?_
  refine AC.region ?_
  refine AO.op rfl (AOp.assertNo rfl rfl (ltb rfl) rfl rfl pass52_70 zero70 ?_)
  first | refine AO.op rfl (AOp.extractD rfl rfl (ltb rfl) rfl rfl ?_) | refine AO.op rfl (AOp.extract rfl rfl (ltb rfl) rfl rfl ?_)
  first | refine AO.op rfl (AOp.extractD rfl rfl (ltb rfl) rfl rfl ?_) | refine AO.op rfl (AOp.extract rfl rfl (ltb rfl) rfl rfl ?_)
  refine AO.nil ?_
  change AC _ _ _ _
  refine AC.condF rfl rfl ?_
  refine AC.seq ?_
  refine AC.region ?_
  refine AO.op rfl (AOp.assertNo rfl rfl (ltb rfl) rfl rfl pass52_49 zero49 ?_)
  first | refine AO.op rfl (AOp.extractD rfl rfl (ltb rfl) rfl rfl ?_) | refine AO.op rfl (AOp.extract rfl rfl (ltb rfl) rfl rfl ?_)
  first | refine AO.op rfl (AOp.extractD rfl rfl (ltb rfl) rfl rfl ?_) | refine AO.op rfl (AOp.extract rfl rfl (ltb rfl) rfl rfl ?_)
  refine AO.nil ?_
  change AC _ _ _ _
  refine AC.condF rfl rfl ?_
  refine AC.seq ?_
  refine AC.region ?_
  refine AO.op rfl (AOp.assertNo rfl rfl (ltb rfl) rfl rfl pass52_51 zero51 ?_)
  first | refine AO.op rfl (AOp.extractD rfl rfl (ltb rfl) rfl rfl ?_) | refine AO.op rfl (AOp.extract rfl rfl (ltb rfl) rfl rfl ?_)
  first | refine AO.op rfl (AOp.extractD rfl rfl (ltb rfl) rfl rfl ?_) | refine AO.op rfl (AOp.extract rfl rfl (ltb rfl) rfl rfl ?_)
  refine AO.nil ?_
  change AC _ _ _ _
  refine AC.condF rfl rfl ?_
  refine AC.seq ?_
  refine AC.region ?_
  refine AO.op rfl (AOp.assertYes rfl rfl (ltb rfl) rfl rfl pass52_52 rfl ?_)
  first | refine AO.op rfl (AOp.extractD rfl rfl (ltb rfl) rfl rfl ?_) | refine AO.op rfl (AOp.extract rfl rfl (ltb rfl) rfl rfl ?_)
  first | refine AO.op rfl (AOp.extractD rfl rfl (ltb rfl) rfl rfl ?_) | refine AO.op rfl (AOp.extract rfl rfl (ltb rfl) rfl rfl ?_)
  refine AO.nil ?_
  change AC _ _ _ _
  refine AC.condT rfl rfl ?_
  refine AC.seq ?_
  refine AC.region ?_
  refine AO.op rfl (AOp.assign rfl rfl (ltb rfl) rfl ?_)
  refine AO.nil ?_
  change AC _ _ _ _
  refine AC.region ?_
  refine AO.op rfl (AOp.fieldAddr rfl rfl (ltb rfl) rfl fo27_0 ?_)
  refine AO.op rfl (AOp.store rfl rfl rfl rfl size3 rfl rfl rfl (leb rfl) ?_)
  refine AO.nil ?_
  change AC _ _ _ _
  refine AC.seq ?_
  refine AC.region ?_
  refine AO.op rfl (AOp.move rfl rfl (ltb rfl) rfl ?_)
  refine AO.op rfl (AOp.inlE [0, 2, 3] (EntersS.meth (by kernel_rfl) rfl rfl rfl meth52_Layout rfl rfl) Try.func88 rfl Try.ntmps88 rfl (ltb rfl) (leb rfl) rfl ?_)
  intro fr262
  refine AC.seq ?_
  refine AC.region ?_
  refine AO.op rfl (AOp.assign rfl rfl (ltb rfl) rfl ?_)
  refine AO.objs (obs' := [.fix 27 [.d (di .i64 a0.Kind), .d (di .i64 a0.Layout), .d (di .i64 a0.SRID), .d (eS1 a0.Flat), .d (eS2 a0.Ends), .d (eS3 a0.Endss), .d (eS0 a0.Kids)], .fix 27 [.d (di .i64 (0 : Int)), .d (di .i64 (0 : Int)), .d (di .i64 (0 : Int)), .d (.v (.slice none 0 0)), .d (.v (.slice none 0 0)), .d (.v (.slice none 0 0)), .d (.v (.slice none 0 0))], .fix 4 [.d (dbool false)], .dead, .fix 27 [.d (di .i64 a0.Kind), .d (di .i64 a0.Layout), .d (di .i64 a0.SRID), .d (eS1 a0.Flat), .d (eS2 a0.Ends), .d (eS3 a0.Endss), .d (eS0 a0.Kids)], .grow 32 1 (List.map keS1 g259), .fix 99 [.d (di .i64 y252.geom2.geom1.geom0.layout), .d (di .i64 y252.geom2.geom1.geom0.stride), .own 5, .d (di .i64 a0.SRID), .d (eS2 y252.geom2.ends)], .dead, .dead, .dead, .frame fr260 [(2, .ptr 1 0), (3, .ptr 2 0)], .fix 27 [.d (di .i64 (0 : Int)), .d (di .i64 (0 : Int)), .d (di .i64 (0 : Int)), .d (.v (.slice none 0 0)), .d (.v (.slice none 0 0)), .d (.v (.slice none 0 0)), .d (.v (.slice none 0 0))], .dead, .fix 27 [.d (di .i64 (5 : Int)), .d (di .i64 (0 : Int)), .d (di .i64 a0.SRID), .d (.v (.slice none 0 0)), .d (.v (.slice none 0 0)), .d (.v (.slice none 0 0)), .d (.v (.slice none 0 0))], .frame fr262 [(0, .ifc 52 (.ptr 6 0)), (2, .ptr 11 0), (3, .ptr 13 0)]]) rfl ?_
  refine AO.nil ?_
  change AC _ _ _ _
  refine AC.seq ?_
  refine AC.region ?_
  refine AO.op rfl (AOp.move rfl rfl (ltb rfl) rfl ?_)
  refine AO.op rfl (AOp.nilCheck rfl rfl (ltb rfl) rfl rfl ?_)
  refine AO.op rfl (AOp.fieldAddr rfl rfl (ltb rfl) rfl fo91_0 ?_)
  refine AO.op rfl (AOp.load1 rfl rfl (ltb rfl) rfl agg63 rfl rfl ?_)
  refine AO.op rfl (AOp.assign rfl rfl (ltb rfl) rfl ?_)
  refine AO.nil ?_
  change AC _ _ _ _
  refine AC.ret ?_
  refine inlret (ob' := [.fix 27 [.d (di .i64 a0.Kind), .d (di .i64 a0.Layout), .d (di .i64 a0.SRID), .d (eS1 a0.Flat), .d (eS2 a0.Ends), .d (eS3 a0.Endss), .d (eS0 a0.Kids)], .fix 27 [.d (di .i64 (0 : Int)), .d (di .i64 (0 : Int)), .d (di .i64 (0 : Int)), .d (.v (.slice none 0 0)), .d (.v (.slice none 0 0)), .d (.v (.slice none 0 0)), .d (.v (.slice none 0 0))], .fix 4 [.d (dbool false)], .dead, .fix 27 [.d (di .i64 a0.Kind), .d (di .i64 a0.Layout), .d (di .i64 a0.SRID), .d (eS1 a0.Flat), .d (eS2 a0.Ends), .d (eS3 a0.Endss), .d (eS0 a0.Kids)], .grow 32 1 (List.map keS1 g259), .fix 99 [.d (di .i64 y252.geom2.geom1.geom0.layout), .d (di .i64 y252.geom2.geom1.geom0.stride), .own 5, .d (di .i64 a0.SRID), .d (eS2 y252.geom2.ends)], .dead, .dead, .dead, .frame fr260 [(2, .ptr 1 0), (3, .ptr 2 0)], .fix 27 [.d (di .i64 (0 : Int)), .d (di .i64 (0 : Int)), .d (di .i64 (0 : Int)), .d (.v (.slice none 0 0)), .d (.v (.slice none 0 0)), .d (.v (.slice none 0 0)), .d (.v (.slice none 0 0))], .dead, .fix 27 [.d (di .i64 (5 : Int)), .d (di .i64 (0 : Int)), .d (di .i64 a0.SRID), .d (.v (.slice none 0 0)), .d (.v (.slice none 0 0)), .d (.v (.slice none 0 0)), .d (.v (.slice none 0 0))], .dead]) (e' := [(0, .ifc 52 (.ptr 6 0)), (2, .ptr 11 0), (3, .ptr 13 0)]) (r := .d (di .i64 y252.geom2.geom1.geom0.layout)) rfl rfl rfl ?_
  change AO _ _ _ _ _
  refine AO.op rfl (AOp.move rfl rfl (ltb rfl) rfl ?_)
  refine AO.op rfl (AOp.inlE [0, 2, 3, 70] (EntersS.meth (by kernel_rfl) rfl rfl rfl meth52_FlatCoords rfl rfl) Try.func87 rfl Try.ntmps87 rfl (ltb rfl) (leb rfl) rfl ?_)
  intro fr263
  refine AC.seq ?_
  refine AC.region ?_
  refine AO.op rfl (AOp.assign rfl rfl (ltb rfl) rfl ?_)
  refine AO.objs (obs' := [.fix 27 [.d (di .i64 a0.Kind), .d (di .i64 a0.Layout), .d (di .i64 a0.SRID), .d (eS1 a0.Flat), .d (eS2 a0.Ends), .d (eS3 a0.Endss), .d (eS0 a0.Kids)], .fix 27 [.d (di .i64 (0 : Int)), .d (di .i64 (0 : Int)), .d (di .i64 (0 : Int)), .d (.v (.slice none 0 0)), .d (.v (.slice none 0 0)), .d (.v (.slice none 0 0)), .d (.v (.slice none 0 0))], .fix 4 [.d (dbool false)], .dead, .fix 27 [.d (di .i64 a0.Kind), .d (di .i64 a0.Layout), .d (di .i64 a0.SRID), .d (eS1 a0.Flat), .d (eS2 a0.Ends), .d (eS3 a0.Endss), .d (eS0 a0.Kids)], .grow 32 1 (List.map keS1 g259), .fix 99 [.d (di .i64 y252.geom2.geom1.geom0.layout), .d (di .i64 y252.geom2.geom1.geom0.stride), .own 5, .d (di .i64 a0.SRID), .d (eS2 y252.geom2.ends)], .dead, .dead, .dead, .frame fr260 [(2, .ptr 1 0), (3, .ptr 2 0)], .fix 27 [.d (di .i64 (0 : Int)), .d (di .i64 (0 : Int)), .d (di .i64 (0 : Int)), .d (.v (.slice none 0 0)), .d (.v (.slice none 0 0)), .d (.v (.slice none 0 0)), .d (.v (.slice none 0 0))], .dead, .fix 27 [.d (di .i64 (5 : Int)), .d (di .i64 (0 : Int)), .d (di .i64 a0.SRID), .d (.v (.slice none 0 0)), .d (.v (.slice none 0 0)), .d (.v (.slice none 0 0)), .d (.v (.slice none 0 0))], .dead, .frame fr263 [(0, .ifc 52 (.ptr 6 0)), (2, .ptr 11 0), (3, .ptr 13 0), (70, .d (di .i64 y252.geom2.geom1.geom0.layout))]]) rfl ?_
  refine AO.nil ?_
  change AC _ _ _ _
  refine AC.seq ?_
  refine AC.region ?_
  refine AO.op rfl (AOp.move rfl rfl (ltb rfl) rfl ?_)
  refine AO.op rfl (AOp.nilCheck rfl rfl (ltb rfl) rfl rfl ?_)
  refine AO.op rfl (AOp.fieldAddr rfl rfl (ltb rfl) rfl fo91_2 ?_)
  refine AO.op rfl (AOp.load1 rfl rfl (ltb rfl) rfl agg22 rfl rfl ?_)
  refine AO.op rfl (AOp.assign rfl rfl (ltb rfl) rfl ?_)
  refine AO.nil ?_
  change AC _ _ _ _
  refine AC.ret ?_
  refine inlret (ob' := [.fix 27 [.d (di .i64 a0.Kind), .d (di .i64 a0.Layout), .d (di .i64 a0.SRID), .d (eS1 a0.Flat), .d (eS2 a0.Ends), .d (eS3 a0.Endss), .d (eS0 a0.Kids)], .fix 27 [.d (di .i64 (0 : Int)), .d (di .i64 (0 : Int)), .d (di .i64 (0 : Int)), .d (.v (.slice none 0 0)), .d (.v (.slice none 0 0)), .d (.v (.slice none 0 0)), .d (.v (.slice none 0 0))], .fix 4 [.d (dbool false)], .dead, .fix 27 [.d (di .i64 a0.Kind), .d (di .i64 a0.Layout), .d (di .i64 a0.SRID), .d (eS1 a0.Flat), .d (eS2 a0.Ends), .d (eS3 a0.Endss), .d (eS0 a0.Kids)], .grow 32 1 (List.map keS1 g259), .fix 99 [.d (di .i64 y252.geom2.geom1.geom0.layout), .d (di .i64 y252.geom2.geom1.geom0.stride), .own 5, .d (di .i64 a0.SRID), .d (eS2 y252.geom2.ends)], .dead, .dead, .dead, .frame fr260 [(2, .ptr 1 0), (3, .ptr 2 0)], .fix 27 [.d (di .i64 (0 : Int)), .d (di .i64 (0 : Int)), .d (di .i64 (0 : Int)), .d (.v (.slice none 0 0)), .d (.v (.slice none 0 0)), .d (.v (.slice none 0 0)), .d (.v (.slice none 0 0))], .dead, .fix 27 [.d (di .i64 (5 : Int)), .d (di .i64 (0 : Int)), .d (di .i64 a0.SRID), .d (.v (.slice none 0 0)), .d (.v (.slice none 0 0)), .d (.v (.slice none 0 0)), .d (.v (.slice none 0 0))], .dead, .dead]) (e' := [(0, .ifc 52 (.ptr 6 0)), (2, .ptr 11 0), (3, .ptr 13 0), (70, .d (di .i64 y252.geom2.geom1.geom0.layout))]) (r := .own 5) rfl rfl rfl ?_
  change AO _ _ _ _ _
  refine AO.subO 6 rfl (.cons (SVLe.refl _) (.cons (SVLe.refl _) (.cons (SVLe.any _) (.cons (SVLe.refl _) (.cons (SVLe.refl _) .nil))))) ?_
  refine AO.freezeG 5 rfl rfl rfl ?_
  obtain ⟨y264, q265, h0⟩ := bind_elim h0
  refine AO.op rfl (AOp.callD rfl rfl (ltb rfl) rfl rfl (w_floats g259 y264 q265) ?_)
  rintro _ rfl
  refine AO.op rfl (AOp.move rfl rfl (ltb rfl) rfl ?_)
  refine AO.op rfl (AOp.inlE [0, 2, 3, 70, 73] (EntersS.meth (by kernel_rfl) rfl rfl rfl meth52_Ends rfl rfl) Try.func85 rfl Try.ntmps85 rfl (ltb rfl) (leb rfl) rfl ?_)
  intro fr266
  refine AC.seq ?_
  refine AC.region ?_
  refine AO.op rfl (AOp.assign rfl rfl (ltb rfl) rfl ?_)
  refine AO.objs (obs' := [.fix 27 [.d (di .i64 a0.Kind), .d (di .i64 a0.Layout), .d (di .i64 a0.SRID), .d (eS1 a0.Flat), .d (eS2 a0.Ends), .d (eS3 a0.Endss), .d (eS0 a0.Kids)], .fix 27 [.d (di .i64 (0 : Int)), .d (di .i64 (0 : Int)), .d (di .i64 (0 : Int)), .d (.v (.slice none 0 0)), .d (.v (.slice none 0 0)), .d (.v (.slice none 0 0)), .d (.v (.slice none 0 0))], .fix 4 [.d (dbool false)], .dead, .fix 27 [.d (di .i64 a0.Kind), .d (di .i64 a0.Layout), .d (di .i64 a0.SRID), .d (eS1 a0.Flat), .d (eS2 a0.Ends), .d (eS3 a0.Endss), .d (eS0 a0.Kids)], .dead, .fix 99 [.d (di .i64 y252.geom2.geom1.geom0.layout), .d (di .i64 y252.geom2.geom1.geom0.stride), .any, .d (di .i64 a0.SRID), .d (eS2 y252.geom2.ends)], .dead, .dead, .dead, .frame fr260 [(2, .ptr 1 0), (3, .ptr 2 0)], .fix 27 [.d (di .i64 (0 : Int)), .d (di .i64 (0 : Int)), .d (di .i64 (0 : Int)), .d (.v (.slice none 0 0)), .d (.v (.slice none 0 0)), .d (.v (.slice none 0 0)), .d (.v (.slice none 0 0))], .dead, .fix 27 [.d (di .i64 (5 : Int)), .d (di .i64 (0 : Int)), .d (di .i64 a0.SRID), .d (.v (.slice none 0 0)), .d (.v (.slice none 0 0)), .d (.v (.slice none 0 0)), .d (.v (.slice none 0 0))], .dead, .dead, .frame fr266 [(0, .ifc 52 (.ptr 6 0)), (2, .ptr 11 0), (3, .ptr 13 0), (70, .d (di .i64 y252.geom2.geom1.geom0.layout)), (73, .d (eS1 y264))]]) rfl ?_
  refine AO.nil ?_
  change AC _ _ _ _
  refine AC.seq ?_
  refine AC.region ?_
  refine AO.op rfl (AOp.move rfl rfl (ltb rfl) rfl ?_)
  refine AO.op rfl (AOp.nilCheck rfl rfl (ltb rfl) rfl rfl ?_)
  refine AO.op rfl (AOp.fieldAddr rfl rfl (ltb rfl) rfl fo95_1 ?_)
  refine AO.op rfl (AOp.load1 rfl rfl (ltb rfl) rfl agg23 rfl rfl ?_)
  refine AO.op rfl (AOp.assign rfl rfl (ltb rfl) rfl ?_)
  refine AO.nil ?_
  change AC _ _ _ _
  refine AC.ret ?_
  refine inlret (ob' := [.fix 27 [.d (di .i64 a0.Kind), .d (di .i64 a0.Layout), .d (di .i64 a0.SRID), .d (eS1 a0.Flat), .d (eS2 a0.Ends), .d (eS3 a0.Endss), .d (eS0 a0.Kids)], .fix 27 [.d (di .i64 (0 : Int)), .d (di .i64 (0 : Int)), .d (di .i64 (0 : Int)), .d (.v (.slice none 0 0)), .d (.v (.slice none 0 0)), .d (.v (.slice none 0 0)), .d (.v (.slice none 0 0))], .fix 4 [.d (dbool false)], .dead, .fix 27 [.d (di .i64 a0.Kind), .d (di .i64 a0.Layout), .d (di .i64 a0.SRID), .d (eS1 a0.Flat), .d (eS2 a0.Ends), .d (eS3 a0.Endss), .d (eS0 a0.Kids)], .dead, .fix 99 [.d (di .i64 y252.geom2.geom1.geom0.layout), .d (di .i64 y252.geom2.geom1.geom0.stride), .any, .d (di .i64 a0.SRID), .d (eS2 y252.geom2.ends)], .dead, .dead, .dead, .frame fr260 [(2, .ptr 1 0), (3, .ptr 2 0)], .fix 27 [.d (di .i64 (0 : Int)), .d (di .i64 (0 : Int)), .d (di .i64 (0 : Int)), .d (.v (.slice none 0 0)), .d (.v (.slice none 0 0)), .d (.v (.slice none 0 0)), .d (.v (.slice none 0 0))], .dead, .fix 27 [.d (di .i64 (5 : Int)), .d (di .i64 (0 : Int)), .d (di .i64 a0.SRID), .d (.v (.slice none 0 0)), .d (.v (.slice none 0 0)), .d (.v (.slice none 0 0)), .d (.v (.slice none 0 0))], .dead, .dead, .dead]) (e' := [(0, .ifc 52 (.ptr 6 0)), (2, .ptr 11 0), (3, .ptr 13 0), (70, .d (di .i64 y252.geom2.geom1.geom0.layout)), (73, .d (eS1 y264))]) (r := .d (eS2 y252.geom2.ends)) rfl rfl rfl ?_
  change AO _ _ _ _ _
  obtain ⟨y267, q268, h0⟩ := bind_elim h0
  refine AO.op rfl (AOp.callD rfl rfl (ltb rfl) rfl rfl (w_ints y252.geom2.ends y267 q268) ?_)
  rintro _ rfl
  refine AO.op rfl (AOp.move rfl rfl (ltb rfl) rfl ?_)
  refine AO.op rfl (AOp.inlE [2, 3, 70, 73, 76] (EntersS.meth (by kernel_rfl) rfl rfl rfl meth52_Endss rfl rfl) Try.func86 rfl Try.ntmps86 rfl (ltb rfl) (leb rfl) rfl ?_)
  intro fr269
  refine AC.seq ?_
  refine AC.region ?_
  refine AO.op rfl (AOp.assign rfl rfl (ltb rfl) rfl ?_)
  refine AO.objs (obs' := [.fix 27 [.d (di .i64 a0.Kind), .d (di .i64 a0.Layout), .d (di .i64 a0.SRID), .d (eS1 a0.Flat), .d (eS2 a0.Ends), .d (eS3 a0.Endss), .d (eS0 a0.Kids)], .fix 27 [.d (di .i64 (0 : Int)), .d (di .i64 (0 : Int)), .d (di .i64 (0 : Int)), .d (.v (.slice none 0 0)), .d (.v (.slice none 0 0)), .d (.v (.slice none 0 0)), .d (.v (.slice none 0 0))], .fix 4 [.d (dbool false)], .dead, .fix 27 [.d (di .i64 a0.Kind), .d (di .i64 a0.Layout), .d (di .i64 a0.SRID), .d (eS1 a0.Flat), .d (eS2 a0.Ends), .d (eS3 a0.Endss), .d (eS0 a0.Kids)], .dead, .fix 99 [.d (di .i64 y252.geom2.geom1.geom0.layout), .d (di .i64 y252.geom2.geom1.geom0.stride), .any, .d (di .i64 a0.SRID), .d (eS2 y252.geom2.ends)], .dead, .dead, .dead, .frame fr260 [(2, .ptr 1 0), (3, .ptr 2 0)], .fix 27 [.d (di .i64 (0 : Int)), .d (di .i64 (0 : Int)), .d (di .i64 (0 : Int)), .d (.v (.slice none 0 0)), .d (.v (.slice none 0 0)), .d (.v (.slice none 0 0)), .d (.v (.slice none 0 0))], .dead, .fix 27 [.d (di .i64 (5 : Int)), .d (di .i64 (0 : Int)), .d (di .i64 a0.SRID), .d (.v (.slice none 0 0)), .d (.v (.slice none 0 0)), .d (.v (.slice none 0 0)), .d (.v (.slice none 0 0))], .dead, .dead, .dead, .frame fr269 [(2, .ptr 11 0), (3, .ptr 13 0), (70, .d (di .i64 y252.geom2.geom1.geom0.layout)), (73, .d (eS1 y264)), (76, .d (eS2 y267))]]) rfl ?_
  refine AO.nil ?_
  change AC _ _ _ _
  refine AC.seq ?_
  refine AC.region ?_
  refine AO.op rfl (AOp.assign rfl rfl (ltb rfl) rfl ?_)
  refine AO.nil ?_
  change AC _ _ _ _
  refine AC.ret ?_
  refine inlret (ob' := [.fix 27 [.d (di .i64 a0.Kind), .d (di .i64 a0.Layout), .d (di .i64 a0.SRID), .d (eS1 a0.Flat), .d (eS2 a0.Ends), .d (eS3 a0.Endss), .d (eS0 a0.Kids)], .fix 27 [.d (di .i64 (0 : Int)), .d (di .i64 (0 : Int)), .d (di .i64 (0 : Int)), .d (.v (.slice none 0 0)), .d (.v (.slice none 0 0)), .d (.v (.slice none 0 0)), .d (.v (.slice none 0 0))], .fix 4 [.d (dbool false)], .dead, .fix 27 [.d (di .i64 a0.Kind), .d (di .i64 a0.Layout), .d (di .i64 a0.SRID), .d (eS1 a0.Flat), .d (eS2 a0.Ends), .d (eS3 a0.Endss), .d (eS0 a0.Kids)], .dead, .fix 99 [.d (di .i64 y252.geom2.geom1.geom0.layout), .d (di .i64 y252.geom2.geom1.geom0.stride), .any, .d (di .i64 a0.SRID), .d (eS2 y252.geom2.ends)], .dead, .dead, .dead, .frame fr260 [(2, .ptr 1 0), (3, .ptr 2 0)], .fix 27 [.d (di .i64 (0 : Int)), .d (di .i64 (0 : Int)), .d (di .i64 (0 : Int)), .d (.v (.slice none 0 0)), .d (.v (.slice none 0 0)), .d (.v (.slice none 0 0)), .d (.v (.slice none 0 0))], .dead, .fix 27 [.d (di .i64 (5 : Int)), .d (di .i64 (0 : Int)), .d (di .i64 a0.SRID), .d (.v (.slice none 0 0)), .d (.v (.slice none 0 0)), .d (.v (.slice none 0 0)), .d (.v (.slice none 0 0))], .dead, .dead, .dead, .dead]) (e' := [(2, .ptr 11 0), (3, .ptr 13 0), (70, .d (di .i64 y252.geom2.geom1.geom0.layout)), (73, .d (eS1 y264)), (76, .d (eS2 y267))]) (r := .d (.v (.slice none 0 0))) rfl rfl rfl ?_
  change AO _ _ _ _ _
  refine AO.sub 78 rfl (SVLe.nil 1) ?_
  obtain ⟨y270, q271, h0⟩ := bind_elim h0
  refine AO.op rfl (AOp.callD rfl rfl (ltb rfl) rfl rfl (w_intss F [] y270 q271) ?_)
  rintro _ rfl
  refine AO.op rfl (AOp.fieldAddr rfl rfl (ltb rfl) rfl fo27_1 ?_)
  refine AO.op rfl (AOp.store rfl rfl rfl rfl size3 rfl rfl rfl (leb rfl) ?_)
  refine AO.op rfl (AOp.fieldAddr rfl rfl (ltb rfl) rfl fo27_3 ?_)
  refine AO.op rfl (AOp.store rfl rfl rfl rfl size22 rfl rfl rfl (leb rfl) ?_)
  refine AO.op rfl (AOp.fieldAddr rfl rfl (ltb rfl) rfl fo27_4 ?_)
  refine AO.op rfl (AOp.store rfl rfl rfl rfl size23 rfl rfl rfl (leb rfl) ?_)
  refine AO.op rfl (AOp.fieldAddr rfl rfl (ltb rfl) rfl fo27_5 ?_)
  refine AO.op rfl (AOp.store rfl rfl rfl rfl size24 rfl rfl rfl (leb rfl) ?_)
  refine AO.objs (obs' := [.fix 27 [.d (di .i64 a0.Kind), .d (di .i64 a0.Layout), .d (di .i64 a0.SRID), .d (eS1 a0.Flat), .d (eS2 a0.Ends), .d (eS3 a0.Endss), .d (eS0 a0.Kids)], .fix 27 [.d (di .i64 (0 : Int)), .d (di .i64 (0 : Int)), .d (di .i64 (0 : Int)), .d (.v (.slice none 0 0)), .d (.v (.slice none 0 0)), .d (.v (.slice none 0 0)), .d (.v (.slice none 0 0))], .fix 4 [.d (dbool false)], .dead, .fix 27 [.d (di .i64 a0.Kind), .d (di .i64 a0.Layout), .d (di .i64 a0.SRID), .d (eS1 a0.Flat), .d (eS2 a0.Ends), .d (eS3 a0.Endss), .d (eS0 a0.Kids)], .dead, .fix 99 [.d (di .i64 y252.geom2.geom1.geom0.layout), .d (di .i64 y252.geom2.geom1.geom0.stride), .any, .d (di .i64 a0.SRID), .d (eS2 y252.geom2.ends)], .dead, .dead, .dead, .frame fr260 [(2, .ptr 1 0), (3, .ptr 2 0)], .fix 27 [.d (di .i64 (0 : Int)), .d (di .i64 (0 : Int)), .d (di .i64 (0 : Int)), .d (.v (.slice none 0 0)), .d (.v (.slice none 0 0)), .d (.v (.slice none 0 0)), .d (.v (.slice none 0 0))], .dead, .fix 27 [.d (di .i64 (5 : Int)), .d (di .i64 y252.geom2.geom1.geom0.layout), .d (di .i64 a0.SRID), .d (eS1 y264), .d (eS2 y267), .d (eS3 y270), .d (.v (.slice none 0 0))], .dead, .dead, .dead, .dead]) rfl ?_
  refine AO.nil ?_
  change AC _ _ _ _
  refine AC.seq ?_
  refine AC.region ?_
  refine AO.op rfl (AOp.loadN rfl rfl (ltb rfl) rfl agg27 size27 rfl (leb rfl) rfl ?_)
  refine AO.op rfl (AOp.store rfl rfl rfl rfl size27 rfl rfl rfl (leb rfl) ?_)
  refine AO.nil ?_
  change AC _ _ _ _
  refine AC.ret ?_
  refine inlret (ob' := [.fix 27 [.d (di .i64 a0.Kind), .d (di .i64 a0.Layout), .d (di .i64 a0.SRID), .d (eS1 a0.Flat), .d (eS2 a0.Ends), .d (eS3 a0.Endss), .d (eS0 a0.Kids)], .fix 27 [.d (di .i64 (0 : Int)), .d (di .i64 (0 : Int)), .d (di .i64 (0 : Int)), .d (.v (.slice none 0 0)), .d (.v (.slice none 0 0)), .d (.v (.slice none 0 0)), .d (.v (.slice none 0 0))], .fix 4 [.d (dbool false)], .dead, .fix 27 [.d (di .i64 a0.Kind), .d (di .i64 a0.Layout), .d (di .i64 a0.SRID), .d (eS1 a0.Flat), .d (eS2 a0.Ends), .d (eS3 a0.Endss), .d (eS0 a0.Kids)], .dead, .fix 99 [.d (di .i64 y252.geom2.geom1.geom0.layout), .d (di .i64 y252.geom2.geom1.geom0.stride), .any, .d (di .i64 a0.SRID), .d (eS2 y252.geom2.ends)], .dead, .dead, .dead, .dead, .fix 27 [.d (di .i64 (5 : Int)), .d (di .i64 y252.geom2.geom1.geom0.layout), .d (di .i64 a0.SRID), .d (eS1 y264), .d (eS2 y267), .d (eS3 y270), .d (.v (.slice none 0 0))], .dead, .fix 27 [.d (di .i64 (5 : Int)), .d (di .i64 y252.geom2.geom1.geom0.layout), .d (di .i64 a0.SRID), .d (eS1 y264), .d (eS2 y267), .d (eS3 y270), .d (.v (.slice none 0 0))], .dead, .dead, .dead, .dead]) (e' := [(2, .ptr 1 0), (3, .ptr 2 0)]) (r := .ag [.d (di .i64 (5 : Int)), .d (di .i64 y252.geom2.geom1.geom0.layout), .d (di .i64 a0.SRID), .d (eS1 y264), .d (eS2 y267), .d (eS3 y270), .d (.v (.slice none 0 0))]) rfl rfl rfl ?_
  change AO _ _ _ _ _
  refine AO.op rfl (AOp.store rfl rfl rfl rfl size27 rfl rfl rfl (leb rfl) ?_)
  refine AO.op rfl (AOp.store rfl rfl rfl rfl size4 rfl rfl rfl (leb rfl) ?_)
  refine AO.objs (obs' := [.fix 27 [.d (di .i64 a0.Kind), .d (di .i64 a0.Layout), .d (di .i64 a0.SRID), .d (eS1 a0.Flat), .d (eS2 a0.Ends), .d (eS3 a0.Endss), .d (eS0 a0.Kids)], .fix 27 [.d (di .i64 (5 : Int)), .d (di .i64 y252.geom2.geom1.geom0.layout), .d (di .i64 a0.SRID), .d (eS1 y264), .d (eS2 y267), .d (eS3 y270), .d (.v (.slice none 0 0))], .fix 4 [.d (dbool true)], .dead, .fix 27 [.d (di .i64 a0.Kind), .d (di .i64 a0.Layout), .d (di .i64 a0.SRID), .d (eS1 a0.Flat), .d (eS2 a0.Ends), .d (eS3 a0.Endss), .d (eS0 a0.Kids)], .dead, .fix 99 [.d (di .i64 y252.geom2.geom1.geom0.layout), .d (di .i64 y252.geom2.geom1.geom0.stride), .any, .d (di .i64 a0.SRID), .d (eS2 y252.geom2.ends)], .dead, .dead, .dead, .dead, .fix 27 [.d (di .i64 (5 : Int)), .d (di .i64 y252.geom2.geom1.geom0.layout), .d (di .i64 a0.SRID), .d (eS1 y264), .d (eS2 y267), .d (eS3 y270), .d (.v (.slice none 0 0))], .dead, .fix 27 [.d (di .i64 (5 : Int)), .d (di .i64 y252.geom2.geom1.geom0.layout), .d (di .i64 a0.SRID), .d (eS1 y264), .d (eS2 y267), .d (eS3 y270), .d (.v (.slice none 0 0))], .dead, .dead, .dead, .dead]) rfl ?_
  refine AO.nil ?_
  change AC _ _ _ _
  refine AC.subO 1 rfl (.cons (SVLe.refl _) (.cons (SVLe.refl _) (.cons (SVLe.refl _) (.cons (SVLe.refl _) (.cons (SVLe.refl _) (.cons (SVLe.refl _) (.cons (SVLe.nil 7) .nil))))))) ?_
  refine AC.ret ?_
  change RetQ _ _ _ .ret _
  obtain rfl := Option.some.inj h0
  refine retq rfl rfl
 exact absurd (hp5.symm.trans q249) (by decide)

set_option maxRecDepth 100000 in
set_option maxHeartbeats 4000000 in
/-- pub-orthodrome/impl.Reverse -/
theorem w_Reverse_c6 (F : Nat) (a0 : TImpl_Geom) (r0 : (TImpl_Geom × Bool)) (h0 : p_Reverse F a0 = some r0) (hp0 : (decide (a0.Kind = (1 : Int))) = false) (hp1 : (decide (a0.Kind = (2 : Int))) = false) (hp2 : (decide (a0.Kind = (8 : Int))) = false) (hp3 : (decide (a0.Kind = (3 : Int))) = false) (hp4 : (decide (a0.Kind = (4 : Int))) = false) (hp5 : (decide (a0.Kind = (5 : Int))) = false) (hp6 : (decide (a0.Kind = (6 : Int))) = true) : FnD Try.prog 14 [e_TImpl_Geom a0] (fun r => r = .tu [e_TImpl_Geom r0.1, dbool r0.2]) := by
 refine FnD.wrap (g := 31) (m := 2) (fun vs w h => idle31 vs w h) (by kernel_rfl) Try.func14 rfl Try.ntmps14 rfl (leb rfl) fun W ok => ?_
 unfold p_Reverse at h0
 refine AW.seq ?_
 refine AC.region ?_
 refine AO.op rfl (AOp.box rfl rfl (ltb rfl) rfl rfl ?_)
 refine AO.op rfl (AOp.alloc rfl rfl (ltb rfl) zero27 rfl ?_)
 refine AO.op rfl (AOp.alloc rfl rfl (ltb rfl) zero4 rfl ?_)
 refine AO.nil ?_
 refine ⟨rfl, ?_⟩
 refine AW.defer (caps := [.tmp 2, .tmp 3]) rfl rfl rfl (ltb rfl) rfl rfl rfl rfl (by kernel_rfl) rfl fun df => ?_
 refine AC.seq ?_
 refine AC.region ?_
 refine AO.op rfl (AOp.loadN rfl rfl (ltb rfl) rfl agg27 size27 rfl (leb rfl) rfl ?_)
 refine AO.op rfl (AOp.inl [2, 3] (by kernel_rfl) Try.func22 rfl Try.ntmps22 rfl rfl (ltb rfl) rfl (leb rfl) rfl ?_)
 intro fr1
 refine AC.seq ?_
 refine AC.region ?_
 refine AO.op rfl (AOp.box rfl rfl (ltb rfl) rfl rfl ?_)
 refine AO.op rfl (AOp.assign rfl rfl (ltb rfl) rfl ?_)
 refine AO.nil ?_
 change AC _ _ _ _
 refine AC.seq ?_
 refine AC.room ?_
 obtain ⟨y2, q3, h0⟩ := bind_elim h0
 refine AC.drawS [0, 1, 2, 3, 4] [4] [5, 6] (fun L => [.fix 27 [.d (di .i64 a0.Kind), .d (di .i64 a0.Layout), .d (di .i64 a0.SRID), .d (eS1 a0.Flat), .d (eS2 a0.Ends), .d (eS3 a0.Endss), .d (eS0 a0.Kids)], .fix 27 [.d (di .i64 (0 : Int)), .d (di .i64 (0 : Int)), .d (di .i64 (0 : Int)), .d (.v (.slice none 0 0)), .d (.v (.slice none 0 0)), .d (.v (.slice none 0 0)), .d (.v (.slice none 0 0))], .fix 4 [.d (dbool false)], .frame fr1 [(2, .ptr 1 0), (3, .ptr 2 0)], .fix 27 [.d (di .i64 a0.Kind), .d (di .i64 a0.Layout), .d (di .i64 a0.SRID), .d (eS1 a0.Flat), .d (eS2 a0.Ends), .d (eS3 a0.Endss), .d (eS0 a0.Kids)], bif L 4 then .grow 32 1 (List.map keS1 y2) else .dead]) [(4, SV.noO2 5 6)] mixed (by kernel_rfl) (fun L L' h => by simp only [h 4 (by decide)]) rfl ?_
 refine AS.op [1] [] [] [4] rfl rfl rfl (by kernel_rfl) (by kernel_rfl) rfl rfl (fun _ _ _ h => AOp.fieldAddr rfl rfl (ltb rfl) rfl fo27_1 h) (by kernel_rfl) ?_
 refine AS.op [8] [] [] [4] rfl rfl rfl (by kernel_rfl) (by kernel_rfl) rfl rfl (fun _ _ _ h => AOp.load1 rfl rfl (ltb rfl) rfl agg3 rfl rfl h) (by kernel_rfl) ?_
 refine AS.op [1] [] [4] [] rfl rfl rfl (by kernel_rfl) (by kernel_rfl) rfl rfl (fun _ _ _ h => AOp.fieldAddr rfl rfl (ltb rfl) rfl fo27_3 h) (by kernel_rfl) ?_
 refine AS.op [10] [] [4] [] rfl rfl rfl (by kernel_rfl) (by kernel_rfl) rfl rfl (fun _ _ _ h => AOp.load1 rfl rfl (ltb rfl) rfl agg22 rfl rfl h) (by kernel_rfl) ?_
 refine AS.mid [11] [] [4] [] rfl rfl rfl rfl (by kernel_rfl) (by kernel_rfl) rfl rfl (fun _ _ _ h => AOp.callNew rfl rfl (ltb rfl) rfl rfl (wn_floats a0.Flat y2 q3) (AO.sink 5 6 rfl rfl rfl (.cons rfl (.cons rfl (.cons rfl (.cons rfl (.cons rfl (.cons (noO2_cond rfl rfl) .nil)))))) rfl h)) (by kernel_rfl) rfl ?_
 refine AS.done ?_
 refine AO.objs (obs' := [.fix 27 [.d (di .i64 a0.Kind), .d (di .i64 a0.Layout), .d (di .i64 a0.SRID), .d (eS1 a0.Flat), .d (eS2 a0.Ends), .d (eS3 a0.Endss), .d (eS0 a0.Kids)], .fix 27 [.d (di .i64 (0 : Int)), .d (di .i64 (0 : Int)), .d (di .i64 (0 : Int)), .d (.v (.slice none 0 0)), .d (.v (.slice none 0 0)), .d (.v (.slice none 0 0)), .d (.v (.slice none 0 0))], .fix 4 [.d (dbool false)], .frame fr1 [(2, .ptr 1 0), (3, .ptr 2 0)], .fix 27 [.d (di .i64 a0.Kind), .d (di .i64 a0.Layout), .d (di .i64 a0.SRID), .d (eS1 a0.Flat), .d (eS2 a0.Ends), .d (eS3 a0.Endss), .d (eS0 a0.Kids)], .grow 32 1 (List.map keS1 y2)]) rfl ?_
 refine AO.op rfl (AOp.assign rfl rfl (ltb rfl) rfl ?_)
 refine AO.op rfl (AOp.assign rfl rfl (ltb rfl) rfl ?_)
 refine AO.objs (obs' := [.fix 27 [.d (di .i64 a0.Kind), .d (di .i64 a0.Layout), .d (di .i64 a0.SRID), .d (eS1 a0.Flat), .d (eS2 a0.Ends), .d (eS3 a0.Endss), .d (eS0 a0.Kids)], .fix 27 [.d (di .i64 (0 : Int)), .d (di .i64 (0 : Int)), .d (di .i64 (0 : Int)), .d (.v (.slice none 0 0)), .d (.v (.slice none 0 0)), .d (.v (.slice none 0 0)), .d (.v (.slice none 0 0))], .fix 4 [.d (dbool false)], .frame fr1 [(2, .ptr 1 0), (3, .ptr 2 0)], .fix 27 [.d (di .i64 a0.Kind), .d (di .i64 a0.Layout), .d (di .i64 a0.SRID), .d (eS1 a0.Flat), .d (eS2 a0.Ends), .d (eS3 a0.Endss), .d (eS0 a0.Kids)], .grow 32 1 (List.map keS1 y2)]) rfl ?_
 refine AO.nil ?_
 change AC _ _ _ _
 refine AC.seq ?_
 refine AC.seq ?_
 refine AC.region ?_
 refine AO.op rfl (AOp.fieldAddr rfl rfl (ltb rfl) rfl fo27_0 ?_)
 refine AO.op rfl (AOp.load1 rfl rfl (ltb rfl) rfl agg3 rfl rfl ?_)
 refine AO.nil ?_
 change AC _ _ _ _
 refine AC.block ?_
 refine AC.seq ?_
 refine AC.region ?_
 refine AO.op rfl (AOp.ieql rfl rfl (ltb rfl) rfl rfl ?_)
 refine AO.op rfl (AOp.assign rfl rfl (ltb rfl) rfl ?_)
 refine AO.nil ?_
 change AC _ _ _ _
 refine AC.cond rfl (fun q4 => ?_) (fun q4 => ?_)
 ·exact absurd (hp0.symm.trans q4) (by decide)
 replace h0 := cF h0 q4
 refine AC.seq ?_
 refine AC.region ?_
 refine AO.op rfl (AOp.ieql rfl rfl (ltb rfl) rfl rfl ?_)
 refine AO.op rfl (AOp.assign rfl rfl (ltb rfl) rfl ?_)
 refine AO.nil ?_
 change AC _ _ _ _
 refine AC.cond rfl (fun q5 => ?_) (fun q5 => ?_)
 ·exact absurd (hp1.symm.trans q5) (by decide)
 replace h0 := cF h0 q5
 refine AC.seq ?_
 refine AC.region ?_
 refine AO.op rfl (AOp.ieql rfl rfl (ltb rfl) rfl rfl ?_)
 refine AO.op rfl (AOp.assign rfl rfl (ltb rfl) rfl ?_)
 refine AO.nil ?_
 change AC _ _ _ _
 refine AC.cond rfl (fun q59 => ?_) (fun q59 => ?_)
 ·exact absurd (hp2.symm.trans q59) (by decide)
 replace h0 := cF h0 q59
 refine AC.seq ?_
 refine AC.region ?_
 refine AO.op rfl (AOp.ieql rfl rfl (ltb rfl) rfl rfl ?_)
 refine AO.op rfl (AOp.assign rfl rfl (ltb rfl) rfl ?_)
 refine AO.nil ?_
 change AC _ _ _ _
 refine AC.cond rfl (fun q113 => ?_) (fun q113 => ?_)
 ·exact absurd (hp3.symm.trans q113) (by decide)
 replace h0 := cF h0 q113
 refine AC.seq ?_
 refine AC.region ?_
 refine AO.op rfl (AOp.ieql rfl rfl (ltb rfl) rfl rfl ?_)
 refine AO.op rfl (AOp.assign rfl rfl (ltb rfl) rfl ?_)
 refine AO.nil ?_
 change AC _ _ _ _
 refine AC.cond rfl (fun q180 => ?_) (fun q180 => ?_)
 ·exact absurd (hp4.symm.trans q180) (by decide)
 replace h0 := cF h0 q180
 refine AC.seq ?_
 refine AC.region ?_
 refine AO.op rfl (AOp.ieql rfl rfl (ltb rfl) rfl rfl ?_)
 refine AO.op rfl (AOp.assign rfl rfl (ltb rfl) rfl ?_)
 refine AO.nil ?_
 change AC _ _ _ _
 refine AC.cond rfl (fun q249 => ?_) (fun q249 => ?_)
 ·exact absurd (hp5.symm.trans q249) (by decide)
 replace h0 := cF h0 q249
 refine AC.seq ?_
 refine AC.region ?_
 refine AO.op rfl (AOp.ieql rfl rfl (ltb rfl) rfl rfl ?_)
 refine AO.op rfl (AOp.assign rfl rfl (ltb rfl) rfl ?_)
 refine AO.nil ?_
 change AC _ _ _ _
 refine AC.cond rfl (fun q316 => ?_) (fun q316 => ?_)
 ·replace h0 := cT h0 q316
  refine AC.seq ?_
  refine AC.room ?_
  obtain ⟨y317, q318, h0⟩ := bind_elim h0
  obtain ⟨y319, q320, h0⟩ := bind_elim h0
  refine AC.drawS [0, 1, 2, 3, 4, 5, 6, 7] [5] [8, 9, 10] (fun L => [.fix 27 [.d (di .i64 a0.Kind), .d (di .i64 a0.Layout), .d (di .i64 a0.SRID), .d (eS1 a0.Flat), .d (eS2 a0.Ends), .d (eS3 a0.Endss), .d (eS0 a0.Kids)], .fix 27 [.d (di .i64 (0 : Int)), .d (di .i64 (0 : Int)), .d (di .i64 (0 : Int)), .d (.v (.slice none 0 0)), .d (.v (.slice none 0 0)), .d (.v (.slice none 0 0)), .d (.v (.slice none 0 0))], .fix 4 [.d (dbool false)], .frame fr1 [(2, .ptr 1 0), (3, .ptr 2 0)], .fix 27 [.d (di .i64 a0.Kind), .d (di .i64 a0.Layout), .d (di .i64 a0.SRID), .d (eS1 a0.Flat), .d (eS2 a0.Ends), .d (eS3 a0.Endss), .d (eS0 a0.Kids)], .grow 32 1 (List.map keS1 y2), bif L 5 then .fix 103 [.d (di .i64 y319.geom3.geom1.geom0.layout), .d (di .i64 y319.geom3.geom1.geom0.stride), .own 5, .d (di .i64 y319.geom3.geom1.geom0.srid), .d (eS3 y319.geom3.endss)] else .dead]) [(5, SV.noO2 6 7)] mixed (by kernel_rfl) (fun L L' h => by simp only [h 5 (by decide)]) rfl ?_
  refine AS.op [3] [] [5] [] rfl rfl rfl (by kernel_rfl) (by kernel_rfl) rfl rfl (fun _ _ _ h => AOp.move rfl rfl (ltb rfl) rfl h) (by kernel_rfl) ?_
  refine AS.op [4] [] [5] [] rfl rfl rfl (by kernel_rfl) (by kernel_rfl) rfl rfl (fun _ _ _ h => AOp.move rfl rfl (ltb rfl) rfl h) (by kernel_rfl) ?_
  refine AS.op [1] [] [5] [] rfl rfl rfl (by kernel_rfl) (by kernel_rfl) rfl rfl (fun _ _ _ h => AOp.fieldAddr rfl rfl (ltb rfl) rfl fo27_5 h) (by kernel_rfl) ?_
  refine AS.op [84] [] [5] [] rfl rfl rfl (by kernel_rfl) (by kernel_rfl) rfl rfl (fun _ _ _ h => AOp.load1 rfl rfl (ltb rfl) rfl agg24 rfl rfl h) (by kernel_rfl) ?_
  refine AS.op [85] [] [5] [] rfl rfl rfl (by kernel_rfl) (by kernel_rfl) rfl rfl (fun _ _ _ h => AOp.callD rfl rfl (ltb rfl) rfl rfl (w_intss F a0.Endss y317 q318) (by rintro _ rfl; exact h)) (by kernel_rfl) ?_
  refine AS.mid [82, 83, 86] [] [5] [] rfl rfl rfl rfl (by kernel_rfl) (by kernel_rfl) rfl rfl (fun _ _ _ h => AOp.callAT (p := 5) (n := y2.length) (cz := [some (di .i64 y319.geom3.geom1.geom0.layout), some (di .i64 y319.geom3.geom1.geom0.stride), none, some (di .i64 y319.geom3.geom1.geom0.srid), some (eS3 y319.geom3.endss)]) rfl rfl (ltb rfl) rfl rfl rfl (by decide) (len1 _ _) (fun sa sc => wt_NewMultiPolygonFlat sa sc a0.Layout y2.length y317 y319 q320) rfl (AO.sink 6 7 rfl rfl rfl (.cons rfl (.cons rfl (.cons rfl (.cons rfl (.cons rfl (.cons rfl (.cons (noO2_cond rfl rfl) .nil))))))) rfl h)) (by kernel_rfl) rfl ?_
  refine AS.op [1] [] [] [5] rfl rfl rfl (by kernel_rfl) (by kernel_rfl) rfl rfl (fun _ _ _ h => AOp.fieldAddr rfl rfl (ltb rfl) rfl fo27_2 h) (by kernel_rfl) ?_
  refine AS.op [88] [] [] [5] rfl rfl rfl (by kernel_rfl) (by kernel_rfl) rfl rfl (fun _ _ _ h => AOp.load1 rfl rfl (ltb rfl) rfl agg3 rfl rfl h) (by kernel_rfl) ?_
  refine AS.done ?_
  refine AO.objs (obs' := [.fix 27 [.d (di .i64 a0.Kind), .d (di .i64 a0.Layout), .d (di .i64 a0.SRID), .d (eS1 a0.Flat), .d (eS2 a0.Ends), .d (eS3 a0.Endss), .d (eS0 a0.Kids)], .fix 27 [.d (di .i64 (0 : Int)), .d (di .i64 (0 : Int)), .d (di .i64 (0 : Int)), .d (.v (.slice none 0 0)), .d (.v (.slice none 0 0)), .d (.v (.slice none 0 0)), .d (.v (.slice none 0 0))], .fix 4 [.d (dbool false)], .frame fr1 [(2, .ptr 1 0), (3, .ptr 2 0)], .fix 27 [.d (di .i64 a0.Kind), .d (di .i64 a0.Layout), .d (di .i64 a0.SRID), .d (eS1 a0.Flat), .d (eS2 a0.Ends), .d (eS3 a0.Endss), .d (eS0 a0.Kids)], .grow 32 1 (List.map keS1 y2), .fix 103 [.d (di .i64 y319.geom3.geom1.geom0.layout), .d (di .i64 y319.geom3.geom1.geom0.stride), .own 5, .d (di .i64 y319.geom3.geom1.geom0.srid), .d (eS3 y319.geom3.endss)]]) rfl ?_
  refine AO.op rfl (AOp.inl [2] (by kernel_rfl) Try.func55 rfl Try.ntmps55 rfl rfl (ltb rfl) rfl (leb rfl) rfl ?_)
  intro fr321
  refine AC.seq ?_
  refine AC.region ?_
  refine AO.op rfl (AOp.assign rfl rfl (ltb rfl) rfl ?_)
  refine AO.objs (obs' := [.fix 27 [.d (di .i64 a0.Kind), .d (di .i64 a0.Layout), .d (di .i64 a0.SRID), .d (eS1 a0.Flat), .d (eS2 a0.Ends), .d (eS3 a0.Endss), .d (eS0 a0.Kids)], .fix 27 [.d (di .i64 (0 : Int)), .d (di .i64 (0 : Int)), .d (di .i64 (0 : Int)), .d (.v (.slice none 0 0)), .d (.v (.slice none 0 0)), .d (.v (.slice none 0 0)), .d (.v (.slice none 0 0))], .fix 4 [.d (dbool false)], .frame fr1 [(2, .ptr 1 0), (3, .ptr 2 0)], .fix 27 [.d (di .i64 a0.Kind), .d (di .i64 a0.Layout), .d (di .i64 a0.SRID), .d (eS1 a0.Flat), .d (eS2 a0.Ends), .d (eS3 a0.Endss), .d (eS0 a0.Kids)], .grow 32 1 (List.map keS1 y2), .fix 103 [.d (di .i64 y319.geom3.geom1.geom0.layout), .d (di .i64 y319.geom3.geom1.geom0.stride), .own 5, .d (di .i64 y319.geom3.geom1.geom0.srid), .d (eS3 y319.geom3.endss)], .frame fr321 [(2, .d (.v (.nilIface)))]]) rfl ?_
  refine AO.nil ?_
  change AC _ _ _ _
  refine AC.seq ?_
  refine AC.region ?_
  refine AO.op rfl (AOp.move rfl rfl (ltb rfl) rfl ?_)
  refine AO.op rfl (AOp.move rfl rfl (ltb rfl) rfl ?_)
  refine AO.op rfl (AOp.nilCheck rfl rfl (ltb rfl) rfl rfl ?_)
  refine AO.op rfl (AOp.fieldAddr rfl rfl (ltb rfl) rfl fo103_0 ?_)
  refine AO.op rfl (AOp.fieldAddr rfl rfl (ltb rfl) rfl fo101_0 ?_)
  refine AO.op rfl (AOp.fieldAddr rfl rfl (ltb rfl) rfl fo93_0 ?_)
  refine AO.op rfl (AOp.fieldAddr rfl rfl (ltb rfl) rfl fo91_3 ?_)
  refine AO.op rfl (AOp.store rfl rfl rfl rfl size3 rfl rfl rfl (leb rfl) ?_)
  refine AO.nil ?_
  change AC _ _ _ _
  refine AC.seq ?_
  refine AC.region ?_
  refine AO.op rfl (AOp.move rfl rfl (ltb rfl) rfl ?_)
  refine AO.op rfl (AOp.assign rfl rfl (ltb rfl) rfl ?_)
  refine AO.nil ?_
  change AC _ _ _ _
  refine AC.ret ?_
  refine inlret (ob' := [.fix 27 [.d (di .i64 a0.Kind), .d (di .i64 a0.Layout), .d (di .i64 a0.SRID), .d (eS1 a0.Flat), .d (eS2 a0.Ends), .d (eS3 a0.Endss), .d (eS0 a0.Kids)], .fix 27 [.d (di .i64 (0 : Int)), .d (di .i64 (0 : Int)), .d (di .i64 (0 : Int)), .d (.v (.slice none 0 0)), .d (.v (.slice none 0 0)), .d (.v (.slice none 0 0)), .d (.v (.slice none 0 0))], .fix 4 [.d (dbool false)], .frame fr1 [(2, .ptr 1 0), (3, .ptr 2 0)], .fix 27 [.d (di .i64 a0.Kind), .d (di .i64 a0.Layout), .d (di .i64 a0.SRID), .d (eS1 a0.Flat), .d (eS2 a0.Ends), .d (eS3 a0.Endss), .d (eS0 a0.Kids)], .grow 32 1 (List.map keS1 y2), .fix 103 [.d (di .i64 y319.geom3.geom1.geom0.layout), .d (di .i64 y319.geom3.geom1.geom0.stride), .own 5, .d (di .i64 a0.SRID), .d (eS3 y319.geom3.endss)], .dead]) (e' := [(2, .d (.v (.nilIface)))]) (r := .ptr 6 0) rfl rfl rfl ?_
  change AO _ _ _ _ _
  refine AO.op rfl (AOp.makeIfc rfl rfl (ltb rfl) rfl conc53 ?_)
  refine AO.op rfl (AOp.assign rfl rfl (ltb rfl) rfl ?_)
  refine AO.objs (obs' := [.fix 27 [.d (di .i64 a0.Kind), .d (di .i64 a0.Layout), .d (di .i64 a0.SRID), .d (eS1 a0.Flat), .d (eS2 a0.Ends), .d (eS3 a0.Endss), .d (eS0 a0.Kids)], .fix 27 [.d (di .i64 (0 : Int)), .d (di .i64 (0 : Int)), .d (di .i64 (0 : Int)), .d (.v (.slice none 0 0)), .d (.v (.slice none 0 0)), .d (.v (.slice none 0 0)), .d (.v (.slice none 0 0))], .fix 4 [.d (dbool false)], .frame fr1 [(2, .ptr 1 0), (3, .ptr 2 0)], .fix 27 [.d (di .i64 a0.Kind), .d (di .i64 a0.Layout), .d (di .i64 a0.SRID), .d (eS1 a0.Flat), .d (eS2 a0.Ends), .d (eS3 a0.Endss), .d (eS0 a0.Kids)], .grow 32 1 (List.map keS1 y2), .fix 103 [.d (di .i64 y319.geom3.geom1.geom0.layout), .d (di .i64 y319.geom3.geom1.geom0.stride), .own 5, .d (di .i64 a0.SRID), .d (eS3 y319.geom3.endss)], .dead]) rfl ?_
  refine AO.nil ?_
  change AC _ _ _ _
  refine AC.ret ?_
  refine inlret (ob' := [.fix 27 [.d (di .i64 a0.Kind), .d (di .i64 a0.Layout), .d (di .i64 a0.SRID), .d (eS1 a0.Flat), .d (eS2 a0.Ends), .d (eS3 a0.Endss), .d (eS0 a0.Kids)], .fix 27 [.d (di .i64 (0 : Int)), .d (di .i64 (0 : Int)), .d (di .i64 (0 : Int)), .d (.v (.slice none 0 0)), .d (.v (.slice none 0 0)), .d (.v (.slice none 0 0)), .d (.v (.slice none 0 0))], .fix 4 [.d (dbool false)], .dead, .fix 27 [.d (di .i64 a0.Kind), .d (di .i64 a0.Layout), .d (di .i64 a0.SRID), .d (eS1 a0.Flat), .d (eS2 a0.Ends), .d (eS3 a0.Endss), .d (eS0 a0.Kids)], .grow 32 1 (List.map keS1 y2), .fix 103 [.d (di .i64 y319.geom3.geom1.geom0.layout), .d (di .i64 y319.geom3.geom1.geom0.stride), .own 5, .d (di .i64 a0.SRID), .d (eS3 y319.geom3.endss)], .dead]) (e' := [(2, .ptr 1 0), (3, .ptr 2 0)]) (r := .ifc 53 (.ptr 6 0)) rfl rfl rfl ?_
  change AO _ _ _ _ _
  refine AO.op rfl (AOp.assign rfl rfl (ltb rfl) rfl ?_)
  refine AO.objs (obs' := [.fix 27 [.d (di .i64 a0.Kind), .d (di .i64 a0.Layout), .d (di .i64 a0.SRID), .d (eS1 a0.Flat), .d (eS2 a0.Ends), .d (eS3 a0.Endss), .d (eS0 a0.Kids)], .fix 27 [.d (di .i64 (0 : Int)), .d (di .i64 (0 : Int)), .d (di .i64 (0 : Int)), .d (.v (.slice none 0 0)), .d (.v (.slice none 0 0)), .d (.v (.slice none 0 0)), .d (.v (.slice none 0 0))], .fix 4 [.d (dbool false)], .dead, .fix 27 [.d (di .i64 a0.Kind), .d (di .i64 a0.Layout), .d (di .i64 a0.SRID), .d (eS1 a0.Flat), .d (eS2 a0.Ends), .d (eS3 a0.Endss), .d (eS0 a0.Kids)], .grow 32 1 (List.map keS1 y2), .fix 103 [.d (di .i64 y319.geom3.geom1.geom0.layout), .d (di .i64 y319.geom3.geom1.geom0.stride), .own 5, .d (di .i64 a0.SRID), .d (eS3 y319.geom3.endss)], .dead]) rfl ?_
  refine AO.nil ?_
  change AC _ _ _ _
  refine AC.seq ?_
  refine AC.region ?_
  refine AO.op rfl (AOp.move rfl rfl (ltb rfl) rfl ?_)
  refine AO.op rfl (AOp.assertYes rfl rfl (ltb rfl) rfl rfl pass53_55 rfl ?_)
  refine AO.op rfl (AOp.move rfl rfl (ltb rfl) rfl ?_)
  first | refine AO.op rfl (AOp.extractD rfl rfl (ltb rfl) rfl rfl ?_) | refine AO.op rfl (AOp.extract rfl rfl (ltb rfl) rfl rfl ?_)
  first | refine AO.op rfl (AOp.extractD rfl rfl (ltb rfl) rfl rfl ?_) | refine AO.op rfl (AOp.extract rfl rfl (ltb rfl) rfl rfl ?_)
  refine AO.op rfl (AOp.assign rfl rfl (ltb rfl) rfl ?_)
  refine AO.op rfl (AOp.assign rfl rfl (ltb rfl) rfl ?_)
  refine AO.nil ?_
  change AC _ _ _ _
  refine AC.seq ?_
  refine AC.seq ?_
  refine AC.region ?_
  refine AO.op rfl (AOp.move rfl rfl (ltb rfl) rfl ?_)
  refine AO.op rfl (AOp.bnot rfl rfl (ltb rfl) rfl ?_)
  refine AO.nil ?_
  change AC _ _ _ _
  refine AC.condF rfl rfl ?_
  refine AC.skip ?_
  change AC _ _ _ _
  refine AC.seq ?_
  refine AC.region ?_
  refine AO.op rfl (AOp.move rfl rfl (ltb rfl) rfl ?_)
  refine AO.op rfl (AOp.inlE [2, 3, 4] (EntersS.meth (by kernel_rfl) rfl rfl rfl meth53_Reverse rfl rfl) Try.func96 rfl Try.ntmps96 rfl (ltb rfl) (leb rfl) rfl ?_)
  intro fr322
  refine AC.draw 16 mixed (by kernel_rfl) ?_
  refine AD.op [0] rfl (by kernel_rfl) rfl rfl (fun _ _ h => AOp.move rfl rfl (ltb rfl) rfl h) ?_
  refine AD.op [2] rfl (by kernel_rfl) rfl rfl (fun _ _ h => AOp.nilCheck rfl rfl (ltb rfl) rfl rfl h) ?_
  refine AD.op [3] rfl (by kernel_rfl) rfl rfl (fun _ _ h => AOp.fieldAddr rfl rfl (ltb rfl) rfl fo101_0 h) ?_
  refine AD.op [4] rfl (by kernel_rfl) rfl rfl (fun _ _ h => AOp.fieldAddr rfl rfl (ltb rfl) rfl fo93_0 h) ?_
  refine AD.op [5] rfl (by kernel_rfl) rfl rfl (fun _ _ h => AOp.fieldAddr rfl rfl (ltb rfl) rfl fo91_2 h) ?_
  refine AD.op [6] rfl (by kernel_rfl) rfl rfl (fun _ _ h => AOp.load1 rfl rfl (ltb rfl) rfl agg22 rfl rfl h) ?_
  refine AD.op [0] rfl (by kernel_rfl) rfl rfl (fun _ _ h => AOp.move rfl rfl (ltb rfl) rfl h) ?_
  refine AD.op [8] rfl (by kernel_rfl) rfl rfl (fun _ _ h => AOp.nilCheck rfl rfl (ltb rfl) rfl rfl h) ?_
  refine AD.op [9] rfl (by kernel_rfl) rfl rfl (fun _ _ h => AOp.fieldAddr rfl rfl (ltb rfl) rfl fo101_1 h) ?_
  refine AD.op [10] rfl (by kernel_rfl) rfl rfl (fun _ _ h => AOp.load1 rfl rfl (ltb rfl) rfl agg24 rfl rfl h) ?_
  refine AD.op [0] rfl (by kernel_rfl) rfl rfl (fun _ _ h => AOp.move rfl rfl (ltb rfl) rfl h) ?_
  refine AD.op [12] rfl (by kernel_rfl) rfl rfl (fun _ _ h => AOp.nilCheck rfl rfl (ltb rfl) rfl rfl h) ?_
  refine AD.op [13] rfl (by kernel_rfl) rfl rfl (fun _ _ h => AOp.fieldAddr rfl rfl (ltb rfl) rfl fo101_0 h) ?_
  refine AD.op [14] rfl (by kernel_rfl) rfl rfl (fun _ _ h => AOp.fieldAddr rfl rfl (ltb rfl) rfl fo93_0 h) ?_
  refine AD.op [15] rfl (by kernel_rfl) rfl rfl (fun _ _ h => AOp.fieldAddr rfl rfl (ltb rfl) rfl fo91_1 h) ?_
  refine AD.op [16] rfl (by kernel_rfl) rfl rfl (fun _ _ h => AOp.load1 rfl rfl (ltb rfl) rfl agg3 rfl rfl h) ?_
  refine AD.done ?_
  refine AO.op rfl (AOp.inl [] (by kernel_rfl) Try.func97 rfl Try.ntmps97 rfl rfl (ltb rfl) rfl (leb rfl) rfl ?_)
  intro fr323
  refine AC.seq ?_
  refine AC.region ?_
  refine AO.op rfl (AOp.move rfl rfl (ltb rfl) rfl ?_)
  refine AO.op rfl (AOp.lenDs (n := y319.geom3.endss.length) (cells := (List.map keS3 y319.geom3.endss)) rfl rfl (ltb rfl) rfl el24 (by decide) (len1 _ _) ?_)
  refine AO.op rfl (AOp.move rfl rfl (ltb rfl) rfl ?_)
  refine AO.objs (obs' := [.fix 27 [.d (di .i64 a0.Kind), .d (di .i64 a0.Layout), .d (di .i64 a0.SRID), .d (eS1 a0.Flat), .d (eS2 a0.Ends), .d (eS3 a0.Endss), .d (eS0 a0.Kids)], .fix 27 [.d (di .i64 (0 : Int)), .d (di .i64 (0 : Int)), .d (di .i64 (0 : Int)), .d (.v (.slice none 0 0)), .d (.v (.slice none 0 0)), .d (.v (.slice none 0 0)), .d (.v (.slice none 0 0))], .fix 4 [.d (dbool false)], .dead, .fix 27 [.d (di .i64 a0.Kind), .d (di .i64 a0.Layout), .d (di .i64 a0.SRID), .d (eS1 a0.Flat), .d (eS2 a0.Ends), .d (eS3 a0.Endss), .d (eS0 a0.Kids)], .grow 32 1 (List.map keS1 y2), .fix 103 [.d (di .i64 y319.geom3.geom1.geom0.layout), .d (di .i64 y319.geom3.geom1.geom0.stride), .own 5, .d (di .i64 a0.SRID), .d (eS3 y319.geom3.endss)], .dead, .frame fr322 [(2, .ptr 1 0), (3, .ptr 2 0), (4, .ifc 53 (.ptr 6 0))], .frame fr323 []]) rfl ?_
  refine AO.nil ?_
  change AC _ _ _ _
  obtain ⟨o324, l325, h0⟩ := bind_elim h0
  refine AC.joinE (V := (List Nat)) [] [] 10 (fun g326 => []) (fun g326 => [.fix 27 [.d (di .i64 a0.Kind), .d (di .i64 a0.Layout), .d (di .i64 a0.SRID), .d (eS1 a0.Flat), .d (eS2 a0.Ends), .d (eS3 a0.Endss), .d (eS0 a0.Kids)], .fix 27 [.d (di .i64 (0 : Int)), .d (di .i64 (0 : Int)), .d (di .i64 (0 : Int)), .d (.v (.slice none 0 0)), .d (.v (.slice none 0 0)), .d (.v (.slice none 0 0)), .d (.v (.slice none 0 0))], .fix 4 [.d (dbool false)], .dead, .fix 27 [.d (di .i64 a0.Kind), .d (di .i64 a0.Layout), .d (di .i64 a0.SRID), .d (eS1 a0.Flat), .d (eS2 a0.Ends), .d (eS3 a0.Endss), .d (eS0 a0.Kids)], .grow 32 1 (List.map keS1 g326), .fix 103 [.d (di .i64 y319.geom3.geom1.geom0.layout), .d (di .i64 y319.geom3.geom1.geom0.stride), .own 5, .d (di .i64 a0.SRID), .d (eS3 y319.geom3.endss)], .dead, .frame fr322 [(2, .ptr 1 0), (3, .ptr 2 0), (4, .ifc 53 (.ptr 6 0))], .frame fr323 []]) (fun g326 => (p_Reverse_k27 a0 F y319) g326 = some r0) rfl ?_ ?_
  ·refine AC.block ?_
   refine AC.loopP (V := (Int × Int × (List Nat))) (p_Reverse_l28 F y319) o324 [0, 3, 10, 11] [1, 12] 10 (fun g339 => [(1, .d (di .i64 g339.1)), (12, .d (di .i64 g339.2.1))]) (fun g339 => [.fix 27 [.d (di .i64 a0.Kind), .d (di .i64 a0.Layout), .d (di .i64 a0.SRID), .d (eS1 a0.Flat), .d (eS2 a0.Ends), .d (eS3 a0.Endss), .d (eS0 a0.Kids)], .fix 27 [.d (di .i64 (0 : Int)), .d (di .i64 (0 : Int)), .d (di .i64 (0 : Int)), .d (.v (.slice none 0 0)), .d (.v (.slice none 0 0)), .d (.v (.slice none 0 0)), .d (.v (.slice none 0 0))], .fix 4 [.d (dbool false)], .dead, .fix 27 [.d (di .i64 a0.Kind), .d (di .i64 a0.Layout), .d (di .i64 a0.SRID), .d (eS1 a0.Flat), .d (eS2 a0.Ends), .d (eS3 a0.Endss), .d (eS0 a0.Kids)], .grow 32 1 (List.map keS1 g339.2.2), .fix 103 [.d (di .i64 y319.geom3.geom1.geom0.layout), .d (di .i64 y319.geom3.geom1.geom0.stride), .own 5, .d (di .i64 a0.SRID), .d (eS3 y319.geom3.endss)], .dead, .frame fr322 [(2, .ptr 1 0), (3, .ptr 2 0), (4, .ifc 53 (.ptr 6 0))], .frame fr323 []]) F ((0 : Int), (0 : Int), y2) l325 rfl rfl (LeL.refl _) rfl rfl ?_
   intro n341 g339 h1
   unfold p_Reverse_l28 at h1
   refine AC.seq ?_
   refine AC.region ?_
   refine AO.op rfl (AOp.ilss rfl rfl (ltb rfl) rfl rfl ?_)
   refine AO.nil ?_
   change AC _ _ _ _
   refine AC.seq ?_
   refine AC.cond rfl (fun q342 => ?_) (fun q342 => ?_)
   ·replace h1 := cT h1 q342
    refine AC.skip ?_
    change AC _ _ _ _
    refine AC.seq ?_
    refine AC.block ?_
    refine AC.seq ?_
    refine AC.region ?_
    obtain ⟨x343, q344, h1⟩ := idx_elim h1
    refine AO.op rfl (AOp.indexDs (cells := (List.map keS3 y319.geom3.endss)) rfl rfl (ltb rfl) rfl rfl el24 (by decide) q344.1 (lt1 q344.2) ?_)
    refine AO.op rfl (AOp.loadEp rfl rfl (ltb rfl) rfl agg23 (at1 q344.2) ?_)
    refine AO.op rfl (AOp.assign rfl rfl (ltb rfl) rfl ?_)
    refine AO.nil ?_
    change AC _ _ _ _
    refine AC.seq ?_
    refine AC.seq ?_
    refine AC.region ?_
    refine AO.op rfl (AOp.move rfl rfl (ltb rfl) rfl ?_)
    refine AO.op rfl (AOp.lenDs (n := x343.length) (cells := (List.map keS2 x343)) rfl rfl (ltb rfl) rfl el23 (by decide) (len1 _ _) ?_)
    refine AO.op rfl (AOp.ieql rfl rfl (ltb rfl) rfl rfl ?_)
    refine AO.nil ?_
    change AC _ _ _ _
    refine AC.cond rfl (fun q345 => ?_) (fun q345 => ?_)
    ·replace h1 := cT h1 q345
     refine AC.exit ?_
     change AC _ _ _ _
     refine AC.region ?_
     obtain ⟨q346, h1⟩ := need_elim h1
     refine AO.op rfl (AOp.iadd rfl rfl (ltb rfl) rfl rfl rfl q346.1 q346.2 ?_)
     refine AO.op rfl (AOp.move rfl rfl (ltb rfl) rfl ?_)
     refine AO.nil ?_
     exact ⟨(g339.1, (g339.2.1 + (1 : Int)), g339.2.2), _, rfl, (LeL.refl _), rfl, rfl, h1⟩
    replace h1 := cF h1 q345
    refine AC.skip ?_
    change AC _ _ _ _
    refine AC.seq ?_
    refine AC.region ?_
    refine AO.op rfl (AOp.move rfl rfl (ltb rfl) rfl ?_)
    refine AO.op rfl (AOp.move rfl rfl (ltb rfl) rfl ?_)
    refine AO.op rfl (AOp.move rfl rfl (ltb rfl) rfl ?_)
    refine AO.op rfl (AOp.move rfl rfl (ltb rfl) rfl ?_)
    refine AO.op rfl (AOp.inl [0, 3, 9, 10, 11, 12] (by kernel_rfl) Try.func92 rfl Try.ntmps92 rfl rfl (ltb rfl) rfl (leb rfl) rfl ?_)
    intro fr347
    refine AC.seq ?_
    refine AC.region ?_
    refine AO.op rfl (AOp.move rfl rfl (ltb rfl) rfl ?_)
    refine AO.op rfl (AOp.lenDs (n := x343.length) (cells := (List.map keS2 x343)) rfl rfl (ltb rfl) rfl el23 (by decide) (len1 _ _) ?_)
    refine AO.op rfl (AOp.move rfl rfl (ltb rfl) rfl ?_)
    refine AO.objs (obs' := [.fix 27 [.d (di .i64 a0.Kind), .d (di .i64 a0.Layout), .d (di .i64 a0.SRID), .d (eS1 a0.Flat), .d (eS2 a0.Ends), .d (eS3 a0.Endss), .d (eS0 a0.Kids)], .fix 27 [.d (di .i64 (0 : Int)), .d (di .i64 (0 : Int)), .d (di .i64 (0 : Int)), .d (.v (.slice none 0 0)), .d (.v (.slice none 0 0)), .d (.v (.slice none 0 0)), .d (.v (.slice none 0 0))], .fix 4 [.d (dbool false)], .dead, .fix 27 [.d (di .i64 a0.Kind), .d (di .i64 a0.Layout), .d (di .i64 a0.SRID), .d (eS1 a0.Flat), .d (eS2 a0.Ends), .d (eS3 a0.Endss), .d (eS0 a0.Kids)], .grow 32 1 (List.map keS1 g339.2.2), .fix 103 [.d (di .i64 y319.geom3.geom1.geom0.layout), .d (di .i64 y319.geom3.geom1.geom0.stride), .own 5, .d (di .i64 a0.SRID), .d (eS3 y319.geom3.endss)], .dead, .frame fr322 [(2, .ptr 1 0), (3, .ptr 2 0), (4, .ifc 53 (.ptr 6 0))], .frame fr323 [], .frame fr347 [(0, .own 5), (3, .d (di .i64 y319.geom3.geom1.geom0.stride)), (9, .d (eS2 x343)), (10, .d (eS3 y319.geom3.endss)), (11, .d (di .i64 ((y319.geom3.endss.length : Nat) : Int))), (12, .d (di .i64 g339.2.1))]]) rfl ?_
    refine AO.nil ?_
    change AC _ _ _ _
    obtain ⟨o348, l349, h1⟩ := bind_elim h1
    refine AC.joinE (V := (List Nat)) [] [] 11 (fun g350 => []) (fun g350 => [.fix 27 [.d (di .i64 a0.Kind), .d (di .i64 a0.Layout), .d (di .i64 a0.SRID), .d (eS1 a0.Flat), .d (eS2 a0.Ends), .d (eS3 a0.Endss), .d (eS0 a0.Kids)], .fix 27 [.d (di .i64 (0 : Int)), .d (di .i64 (0 : Int)), .d (di .i64 (0 : Int)), .d (.v (.slice none 0 0)), .d (.v (.slice none 0 0)), .d (.v (.slice none 0 0)), .d (.v (.slice none 0 0))], .fix 4 [.d (dbool false)], .dead, .fix 27 [.d (di .i64 a0.Kind), .d (di .i64 a0.Layout), .d (di .i64 a0.SRID), .d (eS1 a0.Flat), .d (eS2 a0.Ends), .d (eS3 a0.Endss), .d (eS0 a0.Kids)], .grow 32 1 (List.map keS1 g350), .fix 103 [.d (di .i64 y319.geom3.geom1.geom0.layout), .d (di .i64 y319.geom3.geom1.geom0.stride), .own 5, .d (di .i64 a0.SRID), .d (eS3 y319.geom3.endss)], .dead, .frame fr322 [(2, .ptr 1 0), (3, .ptr 2 0), (4, .ifc 53 (.ptr 6 0))], .frame fr323 [], .frame fr347 [(0, .own 5), (3, .d (di .i64 y319.geom3.geom1.geom0.stride)), (9, .d (eS2 x343)), (10, .d (eS3 y319.geom3.endss)), (11, .d (di .i64 ((y319.geom3.endss.length : Nat) : Int))), (12, .d (di .i64 g339.2.1))]]) (fun g350 => (p_Reverse_k29 g339 (iter (p_Reverse_l28 F y319) n341) x343) g350 = some o324) rfl ?_ ?_
    ·refine AC.block ?_
     refine AC.loopP (V := (Int × Int × (List Nat))) (p_Reverse_l30 F y319 x343) o348 [0, 3, 10, 11] [1, 12] 11 (fun g355 => [(1, .d (di .i64 g355.1)), (12, .d (di .i64 g355.2.1))]) (fun g355 => [.fix 27 [.d (di .i64 a0.Kind), .d (di .i64 a0.Layout), .d (di .i64 a0.SRID), .d (eS1 a0.Flat), .d (eS2 a0.Ends), .d (eS3 a0.Endss), .d (eS0 a0.Kids)], .fix 27 [.d (di .i64 (0 : Int)), .d (di .i64 (0 : Int)), .d (di .i64 (0 : Int)), .d (.v (.slice none 0 0)), .d (.v (.slice none 0 0)), .d (.v (.slice none 0 0)), .d (.v (.slice none 0 0))], .fix 4 [.d (dbool false)], .dead, .fix 27 [.d (di .i64 a0.Kind), .d (di .i64 a0.Layout), .d (di .i64 a0.SRID), .d (eS1 a0.Flat), .d (eS2 a0.Ends), .d (eS3 a0.Endss), .d (eS0 a0.Kids)], .grow 32 1 (List.map keS1 g355.2.2), .fix 103 [.d (di .i64 y319.geom3.geom1.geom0.layout), .d (di .i64 y319.geom3.geom1.geom0.stride), .own 5, .d (di .i64 a0.SRID), .d (eS3 y319.geom3.endss)], .dead, .frame fr322 [(2, .ptr 1 0), (3, .ptr 2 0), (4, .ifc 53 (.ptr 6 0))], .frame fr323 [], .frame fr347 [(0, .own 5), (3, .d (di .i64 y319.geom3.geom1.geom0.stride)), (9, .d (eS2 x343)), (10, .d (eS3 y319.geom3.endss)), (11, .d (di .i64 ((y319.geom3.endss.length : Nat) : Int))), (12, .d (di .i64 g339.2.1))]]) F (g339.1, (0 : Int), g339.2.2) l349 rfl rfl (LeL.refl _) rfl rfl ?_
     intro n357 g355 h2
     unfold p_Reverse_l30 at h2
     refine AC.seq ?_
     refine AC.region ?_
     refine AO.op rfl (AOp.ilss rfl rfl (ltb rfl) rfl rfl ?_)
     refine AO.nil ?_
     change AC _ _ _ _
     refine AC.seq ?_
     refine AC.cond rfl (fun q358 => ?_) (fun q358 => ?_)
     ·replace h2 := cT h2 q358
      refine AC.skip ?_
      change AC _ _ _ _
      refine AC.seq ?_
      refine AC.block ?_
      refine AC.seq ?_
      refine AC.region ?_
      obtain ⟨x359, q360, h2⟩ := idx_elim h2
      refine AO.op rfl (AOp.indexDs (cells := (List.map keS2 x343)) rfl rfl (ltb rfl) rfl rfl el23 (by decide) q360.1 (lt1 q360.2) ?_)
      refine AO.op rfl (AOp.loadEp rfl rfl (ltb rfl) rfl agg3 (at1 q360.2) ?_)
      refine AO.op rfl (AOp.assign rfl rfl (ltb rfl) rfl ?_)
      refine AO.nil ?_
      change AC _ _ _ _
      refine AC.seq ?_
      refine AC.region ?_
      refine AO.op rfl (AOp.move rfl rfl (ltb rfl) rfl ?_)
      refine AO.op rfl (AOp.move rfl rfl (ltb rfl) rfl ?_)
      refine AO.op rfl (AOp.move rfl rfl (ltb rfl) rfl ?_)
      refine AO.op rfl (AOp.move rfl rfl (ltb rfl) rfl ?_)
      refine AO.op rfl (AOp.inl [0, 3, 9, 10, 11, 12] (by kernel_rfl) Try.func93 rfl Try.ntmps93 rfl rfl (ltb rfl) rfl (leb rfl) rfl ?_)
      intro fr361
      refine AC.seq ?_
      refine AC.region ?_
      refine AO.op rfl (AOp.move rfl rfl (ltb rfl) rfl ?_)
      refine AO.op rfl (AOp.move rfl rfl (ltb rfl) rfl ?_)
      obtain ⟨q362, h2⟩ := need_elim h2
      refine AO.op rfl (AOp.iadd rfl rfl (ltb rfl) rfl rfl rfl q362.1 q362.2 ?_)
      refine AO.op rfl (AOp.move rfl rfl (ltb rfl) rfl ?_)
      refine AO.op rfl (AOp.assign rfl rfl (ltb rfl) rfl ?_)
      refine AO.op rfl (AOp.assign rfl rfl (ltb rfl) rfl ?_)
      refine AO.objs (obs' := [.fix 27 [.d (di .i64 a0.Kind), .d (di .i64 a0.Layout), .d (di .i64 a0.SRID), .d (eS1 a0.Flat), .d (eS2 a0.Ends), .d (eS3 a0.Endss), .d (eS0 a0.Kids)], .fix 27 [.d (di .i64 (0 : Int)), .d (di .i64 (0 : Int)), .d (di .i64 (0 : Int)), .d (.v (.slice none 0 0)), .d (.v (.slice none 0 0)), .d (.v (.slice none 0 0)), .d (.v (.slice none 0 0))], .fix 4 [.d (dbool false)], .dead, .fix 27 [.d (di .i64 a0.Kind), .d (di .i64 a0.Layout), .d (di .i64 a0.SRID), .d (eS1 a0.Flat), .d (eS2 a0.Ends), .d (eS3 a0.Endss), .d (eS0 a0.Kids)], .grow 32 1 (List.map keS1 g355.2.2), .fix 103 [.d (di .i64 y319.geom3.geom1.geom0.layout), .d (di .i64 y319.geom3.geom1.geom0.stride), .own 5, .d (di .i64 a0.SRID), .d (eS3 y319.geom3.endss)], .dead, .frame fr322 [(2, .ptr 1 0), (3, .ptr 2 0), (4, .ifc 53 (.ptr 6 0))], .frame fr323 [], .frame fr347 [(0, .own 5), (3, .d (di .i64 y319.geom3.geom1.geom0.stride)), (9, .d (eS2 x343)), (10, .d (eS3 y319.geom3.endss)), (11, .d (di .i64 ((y319.geom3.endss.length : Nat) : Int))), (12, .d (di .i64 g339.2.1))], .frame fr361 [(0, .own 5), (3, .d (di .i64 y319.geom3.geom1.geom0.stride)), (9, .d (di .i64 x359)), (10, .d (eS2 x343)), (11, .d (di .i64 ((x343.length : Nat) : Int))), (12, .d (di .i64 g355.2.1))]]) rfl ?_
      refine AO.nil ?_
      change AC _ _ _ _
      obtain ⟨o363, l364, h2⟩ := bind_elim h2
      refine AC.joinE (V := (List Nat)) [] [] 12 (fun g365 => []) (fun g365 => [.fix 27 [.d (di .i64 a0.Kind), .d (di .i64 a0.Layout), .d (di .i64 a0.SRID), .d (eS1 a0.Flat), .d (eS2 a0.Ends), .d (eS3 a0.Endss), .d (eS0 a0.Kids)], .fix 27 [.d (di .i64 (0 : Int)), .d (di .i64 (0 : Int)), .d (di .i64 (0 : Int)), .d (.v (.slice none 0 0)), .d (.v (.slice none 0 0)), .d (.v (.slice none 0 0)), .d (.v (.slice none 0 0))], .fix 4 [.d (dbool false)], .dead, .fix 27 [.d (di .i64 a0.Kind), .d (di .i64 a0.Layout), .d (di .i64 a0.SRID), .d (eS1 a0.Flat), .d (eS2 a0.Ends), .d (eS3 a0.Endss), .d (eS0 a0.Kids)], .grow 32 1 (List.map keS1 g365), .fix 103 [.d (di .i64 y319.geom3.geom1.geom0.layout), .d (di .i64 y319.geom3.geom1.geom0.stride), .own 5, .d (di .i64 a0.SRID), .d (eS3 y319.geom3.endss)], .dead, .frame fr322 [(2, .ptr 1 0), (3, .ptr 2 0), (4, .ifc 53 (.ptr 6 0))], .frame fr323 [], .frame fr347 [(0, .own 5), (3, .d (di .i64 y319.geom3.geom1.geom0.stride)), (9, .d (eS2 x343)), (10, .d (eS3 y319.geom3.endss)), (11, .d (di .i64 ((y319.geom3.endss.length : Nat) : Int))), (12, .d (di .i64 g339.2.1))], .frame fr361 [(0, .own 5), (3, .d (di .i64 y319.geom3.geom1.geom0.stride)), (9, .d (di .i64 x359)), (10, .d (eS2 x343)), (11, .d (di .i64 ((x343.length : Nat) : Int))), (12, .d (di .i64 g355.2.1))]]) (fun g365 => (p_Reverse_k31 g355 (iter (p_Reverse_l30 F y319 x343) n357) x359) g365 = some o348) rfl ?_ ?_
      ·refine AC.block ?_
       refine AC.loopP (V := (Int × Int × (List Nat))) (p_Reverse_l32 F y319) o363 [0, 3] [8, 9] 12 (fun g367 => [(8, .d (di .i64 g367.1)), (9, .d (di .i64 g367.2.1))]) (fun g367 => [.fix 27 [.d (di .i64 a0.Kind), .d (di .i64 a0.Layout), .d (di .i64 a0.SRID), .d (eS1 a0.Flat), .d (eS2 a0.Ends), .d (eS3 a0.Endss), .d (eS0 a0.Kids)], .fix 27 [.d (di .i64 (0 : Int)), .d (di .i64 (0 : Int)), .d (di .i64 (0 : Int)), .d (.v (.slice none 0 0)), .d (.v (.slice none 0 0)), .d (.v (.slice none 0 0)), .d (.v (.slice none 0 0))], .fix 4 [.d (dbool false)], .dead, .fix 27 [.d (di .i64 a0.Kind), .d (di .i64 a0.Layout), .d (di .i64 a0.SRID), .d (eS1 a0.Flat), .d (eS2 a0.Ends), .d (eS3 a0.Endss), .d (eS0 a0.Kids)], .grow 32 1 (List.map keS1 g367.2.2), .fix 103 [.d (di .i64 y319.geom3.geom1.geom0.layout), .d (di .i64 y319.geom3.geom1.geom0.stride), .own 5, .d (di .i64 a0.SRID), .d (eS3 y319.geom3.endss)], .dead, .frame fr322 [(2, .ptr 1 0), (3, .ptr 2 0), (4, .ifc 53 (.ptr 6 0))], .frame fr323 [], .frame fr347 [(0, .own 5), (3, .d (di .i64 y319.geom3.geom1.geom0.stride)), (9, .d (eS2 x343)), (10, .d (eS3 y319.geom3.endss)), (11, .d (di .i64 ((y319.geom3.endss.length : Nat) : Int))), (12, .d (di .i64 g339.2.1))], .frame fr361 [(0, .own 5), (3, .d (di .i64 y319.geom3.geom1.geom0.stride)), (9, .d (di .i64 x359)), (10, .d (eS2 x343)), (11, .d (di .i64 ((x343.length : Nat) : Int))), (12, .d (di .i64 g355.2.1))]]) F ((g355.1 + y319.geom3.geom1.geom0.stride), x359, g355.2.2) l364 rfl rfl (LeL.refl _) rfl rfl ?_
       intro n369 g367 h3
       unfold p_Reverse_l32 at h3
       refine AC.seq ?_
       refine AC.seq ?_
       refine AC.region ?_
       refine AO.op rfl (AOp.move rfl rfl (ltb rfl) rfl ?_)
       refine AO.op rfl (AOp.move rfl rfl (ltb rfl) rfl ?_)
       refine AO.op rfl (AOp.ileq rfl rfl (ltb rfl) rfl rfl ?_)
       refine AO.nil ?_
       change AC _ _ _ _
       refine AC.cond rfl (fun q370 => ?_) (fun q370 => ?_)
       ·replace h3 := cT h3 q370
        refine AC.skip ?_
        change AC _ _ _ _
        refine AC.seq ?_
        refine AC.block ?_
        refine AC.seq ?_
        refine AC.region ?_
        refine AO.op rfl (AOp.move rfl rfl (ltb rfl) rfl ?_)
        refine AO.op rfl (AOp.move rfl rfl (ltb rfl) rfl ?_)
        refine AO.nil ?_
        change AC _ _ _ _
        obtain ⟨o371, l372, h3⟩ := bind_elim h3
        refine AC.joinE (V := (List Nat)) [0, 3, 8, 9] [] 12 (fun g373 => []) (fun g373 => [.fix 27 [.d (di .i64 a0.Kind), .d (di .i64 a0.Layout), .d (di .i64 a0.SRID), .d (eS1 a0.Flat), .d (eS2 a0.Ends), .d (eS3 a0.Endss), .d (eS0 a0.Kids)], .fix 27 [.d (di .i64 (0 : Int)), .d (di .i64 (0 : Int)), .d (di .i64 (0 : Int)), .d (.v (.slice none 0 0)), .d (.v (.slice none 0 0)), .d (.v (.slice none 0 0)), .d (.v (.slice none 0 0))], .fix 4 [.d (dbool false)], .dead, .fix 27 [.d (di .i64 a0.Kind), .d (di .i64 a0.Layout), .d (di .i64 a0.SRID), .d (eS1 a0.Flat), .d (eS2 a0.Ends), .d (eS3 a0.Endss), .d (eS0 a0.Kids)], .grow 32 1 (List.map keS1 g373), .fix 103 [.d (di .i64 y319.geom3.geom1.geom0.layout), .d (di .i64 y319.geom3.geom1.geom0.stride), .own 5, .d (di .i64 a0.SRID), .d (eS3 y319.geom3.endss)], .dead, .frame fr322 [(2, .ptr 1 0), (3, .ptr 2 0), (4, .ifc 53 (.ptr 6 0))], .frame fr323 [], .frame fr347 [(0, .own 5), (3, .d (di .i64 y319.geom3.geom1.geom0.stride)), (9, .d (eS2 x343)), (10, .d (eS3 y319.geom3.endss)), (11, .d (di .i64 ((y319.geom3.endss.length : Nat) : Int))), (12, .d (di .i64 g339.2.1))], .frame fr361 [(0, .own 5), (3, .d (di .i64 y319.geom3.geom1.geom0.stride)), (9, .d (di .i64 x359)), (10, .d (eS2 x343)), (11, .d (di .i64 ((x343.length : Nat) : Int))), (12, .d (di .i64 g355.2.1))]]) (fun g373 => (p_Reverse_k33 y319 g367 (iter (p_Reverse_l32 F y319) n369)) g373 = some o363) rfl ?_ ?_
        ·refine AC.block ?_
         refine AC.loopP (V := (Int × (List Nat))) (p_Reverse_l34 y319 g367) o371 [0, 3, 8, 9, 24] [25] 12 (fun g376 => [(25, .d (di .i64 g376.1))]) (fun g376 => [.fix 27 [.d (di .i64 a0.Kind), .d (di .i64 a0.Layout), .d (di .i64 a0.SRID), .d (eS1 a0.Flat), .d (eS2 a0.Ends), .d (eS3 a0.Endss), .d (eS0 a0.Kids)], .fix 27 [.d (di .i64 (0 : Int)), .d (di .i64 (0 : Int)), .d (di .i64 (0 : Int)), .d (.v (.slice none 0 0)), .d (.v (.slice none 0 0)), .d (.v (.slice none 0 0)), .d (.v (.slice none 0 0))], .fix 4 [.d (dbool false)], .dead, .fix 27 [.d (di .i64 a0.Kind), .d (di .i64 a0.Layout), .d (di .i64 a0.SRID), .d (eS1 a0.Flat), .d (eS2 a0.Ends), .d (eS3 a0.Endss), .d (eS0 a0.Kids)], .grow 32 1 (List.map keS1 g376.2), .fix 103 [.d (di .i64 y319.geom3.geom1.geom0.layout), .d (di .i64 y319.geom3.geom1.geom0.stride), .own 5, .d (di .i64 a0.SRID), .d (eS3 y319.geom3.endss)], .dead, .frame fr322 [(2, .ptr 1 0), (3, .ptr 2 0), (4, .ifc 53 (.ptr 6 0))], .frame fr323 [], .frame fr347 [(0, .own 5), (3, .d (di .i64 y319.geom3.geom1.geom0.stride)), (9, .d (eS2 x343)), (10, .d (eS3 y319.geom3.endss)), (11, .d (di .i64 ((y319.geom3.endss.length : Nat) : Int))), (12, .d (di .i64 g339.2.1))], .frame fr361 [(0, .own 5), (3, .d (di .i64 y319.geom3.geom1.geom0.stride)), (9, .d (di .i64 x359)), (10, .d (eS2 x343)), (11, .d (di .i64 ((x343.length : Nat) : Int))), (12, .d (di .i64 g355.2.1))]]) F ((0 : Int), g367.2.2) l372 rfl rfl (LeL.refl _) rfl rfl ?_
         intro n378 g376 h4
         unfold p_Reverse_l34 at h4
         refine AC.seq ?_
         refine AC.region ?_
         refine AO.op rfl (AOp.ilss rfl rfl (ltb rfl) rfl rfl ?_)
         refine AO.nil ?_
         change AC _ _ _ _
         refine AC.seq ?_
         refine AC.cond rfl (fun q379 => ?_) (fun q379 => ?_)
         ·replace h4 := cT h4 q379
          refine AC.skip ?_
          change AC _ _ _ _
          refine AC.seq ?_
          refine AC.block ?_
          refine AC.seq ?_
          refine AC.region ?_
          refine AO.op rfl (AOp.move rfl rfl (ltb rfl) rfl ?_)
          refine AO.op rfl (AOp.assign rfl rfl (ltb rfl) rfl ?_)
          refine AO.nil ?_
          change AC _ _ _ _
          obtain ⟨q380, h4⟩ := need_elim h4
          obtain ⟨q381, h4⟩ := need_elim h4
          obtain ⟨q382, h4⟩ := need_elim h4
          obtain ⟨q383, h4⟩ := need_elim h4
          obtain ⟨q384, h4⟩ := need_elim h4
          obtain ⟨q385, h4⟩ := need_elim h4
          obtain ⟨q386, h4⟩ := need_elim h4
          obtain ⟨x387, q388, h4⟩ := idx_elim h4
          obtain ⟨q389, h4⟩ := need_elim h4
          obtain ⟨q390, h4⟩ := need_elim h4
          obtain ⟨q391, h4⟩ := need_elim h4
          obtain ⟨x392, q393, h4⟩ := idx_elim h4
          obtain ⟨q394, h4⟩ := need_elim h4
          obtain ⟨q395, h4⟩ := need_elim h4
          refine AC.drawS [0, 1, 2, 3, 4, 5, 6, 7, 8, 9, 10, 11, 12, 13, 14, 15, 16, 17, 18, 19, 20, 21, 22, 23, 24, 25, 26, 27, 28, 29] [29] [30, 31] (fun L => [.fix 27 [.d (di .i64 a0.Kind), .d (di .i64 a0.Layout), .d (di .i64 a0.SRID), .d (eS1 a0.Flat), .d (eS2 a0.Ends), .d (eS3 a0.Endss), .d (eS0 a0.Kids)], .fix 27 [.d (di .i64 (0 : Int)), .d (di .i64 (0 : Int)), .d (di .i64 (0 : Int)), .d (.v (.slice none 0 0)), .d (.v (.slice none 0 0)), .d (.v (.slice none 0 0)), .d (.v (.slice none 0 0))], .fix 4 [.d (dbool false)], .dead, .fix 27 [.d (di .i64 a0.Kind), .d (di .i64 a0.Layout), .d (di .i64 a0.SRID), .d (eS1 a0.Flat), .d (eS2 a0.Ends), .d (eS3 a0.Endss), .d (eS0 a0.Kids)], bif L 29 then .grow 32 1 (List.map keS1 (g376.2.set (((g367.1 - y319.geom3.geom1.geom0.stride) + g376.1)).toNat x387)) else .grow 32 1 (List.map keS1 g376.2), .fix 103 [.d (di .i64 y319.geom3.geom1.geom0.layout), .d (di .i64 y319.geom3.geom1.geom0.stride), .own 5, .d (di .i64 a0.SRID), .d (eS3 y319.geom3.endss)], .dead, .frame fr322 [(2, .ptr 1 0), (3, .ptr 2 0), (4, .ifc 53 (.ptr 6 0))], .frame fr323 [], .frame fr347 [(0, .own 5), (3, .d (di .i64 y319.geom3.geom1.geom0.stride)), (9, .d (eS2 x343)), (10, .d (eS3 y319.geom3.endss)), (11, .d (di .i64 ((y319.geom3.endss.length : Nat) : Int))), (12, .d (di .i64 g339.2.1))], .frame fr361 [(0, .own 5), (3, .d (di .i64 y319.geom3.geom1.geom0.stride)), (9, .d (di .i64 x359)), (10, .d (eS2 x343)), (11, .d (di .i64 ((x343.length : Nat) : Int))), (12, .d (di .i64 g355.2.1))]]) [(29, (fun _ => true))] mixed (by kernel_rfl) (fun L L' h => by simp only [h 29 (by decide)]) rfl ?_
          refine AS.op [0] [] [29] [] rfl rfl rfl (by kernel_rfl) (by kernel_rfl) rfl rfl (fun _ _ _ h => AOp.move rfl rfl (ltb rfl) rfl h) (by kernel_rfl) ?_
          refine AS.op [8] [] [29] [] rfl rfl rfl (by kernel_rfl) (by kernel_rfl) rfl rfl (fun _ _ _ h => AOp.move rfl rfl (ltb rfl) rfl h) (by kernel_rfl) ?_
          refine AS.op [3] [] [29] [] rfl rfl rfl (by kernel_rfl) (by kernel_rfl) rfl rfl (fun _ _ _ h => AOp.move rfl rfl (ltb rfl) rfl h) (by kernel_rfl) ?_
          refine AS.op [29, 30] [] [29] [] rfl rfl rfl (by kernel_rfl) (by kernel_rfl) rfl rfl (fun _ _ _ h => AOp.isub rfl rfl (ltb rfl) rfl rfl rfl q380.1 q380.2 h) (by kernel_rfl) ?_
          refine AS.op [10] [] [29] [] rfl rfl rfl (by kernel_rfl) (by kernel_rfl) rfl rfl (fun _ _ _ h => AOp.move rfl rfl (ltb rfl) rfl h) (by kernel_rfl) ?_
          refine AS.op [31, 32] [] [29] [] rfl rfl rfl (by kernel_rfl) (by kernel_rfl) rfl rfl (fun _ _ _ h => AOp.iadd rfl rfl (ltb rfl) rfl rfl rfl q381.1 q381.2 h) (by kernel_rfl) ?_
          refine AS.op [0] [] [] [29] rfl rfl rfl (by kernel_rfl) (by kernel_rfl) rfl rfl (fun _ _ _ h => AOp.move rfl rfl (ltb rfl) rfl h) (by kernel_rfl) ?_
          refine AS.op [9] [] [] [29] rfl rfl rfl (by kernel_rfl) (by kernel_rfl) rfl rfl (fun _ _ _ h => AOp.move rfl rfl (ltb rfl) rfl h) (by kernel_rfl) ?_
          refine AS.op [3] [] [] [29] rfl rfl rfl (by kernel_rfl) (by kernel_rfl) rfl rfl (fun _ _ _ h => AOp.move rfl rfl (ltb rfl) rfl h) (by kernel_rfl) ?_
          refine AS.op [35, 36] [] [] [29] rfl rfl rfl (by kernel_rfl) (by kernel_rfl) rfl rfl (fun _ _ _ h => AOp.isub rfl rfl (ltb rfl) rfl rfl rfl q382.1 q382.2 h) (by kernel_rfl) ?_
          refine AS.op [10] [] [] [29] rfl rfl rfl (by kernel_rfl) (by kernel_rfl) rfl rfl (fun _ _ _ h => AOp.move rfl rfl (ltb rfl) rfl h) (by kernel_rfl) ?_
          refine AS.op [37, 38] [] [] [29] rfl rfl rfl (by kernel_rfl) (by kernel_rfl) rfl rfl (fun _ _ _ h => AOp.iadd rfl rfl (ltb rfl) rfl rfl rfl q383.1 q383.2 h) (by kernel_rfl) ?_
          refine AS.op [0] [] [29] [] rfl rfl rfl (by kernel_rfl) (by kernel_rfl) rfl rfl (fun _ _ _ h => AOp.move rfl rfl (ltb rfl) rfl h) (by kernel_rfl) ?_
          refine AS.op [9] [] [29] [] rfl rfl rfl (by kernel_rfl) (by kernel_rfl) rfl rfl (fun _ _ _ h => AOp.move rfl rfl (ltb rfl) rfl h) (by kernel_rfl) ?_
          refine AS.op [3] [] [29] [] rfl rfl rfl (by kernel_rfl) (by kernel_rfl) rfl rfl (fun _ _ _ h => AOp.move rfl rfl (ltb rfl) rfl h) (by kernel_rfl) ?_
          refine AS.op [41, 42] [] [29] [] rfl rfl rfl (by kernel_rfl) (by kernel_rfl) rfl rfl (fun _ _ _ h => AOp.isub rfl rfl (ltb rfl) rfl rfl rfl q384.1 q384.2 h) (by kernel_rfl) ?_
          refine AS.op [10] [] [29] [] rfl rfl rfl (by kernel_rfl) (by kernel_rfl) rfl rfl (fun _ _ _ h => AOp.move rfl rfl (ltb rfl) rfl h) (by kernel_rfl) ?_
          refine AS.op [43, 44] [] [29] [] rfl rfl rfl (by kernel_rfl) (by kernel_rfl) rfl rfl (fun _ _ _ h => AOp.iadd rfl rfl (ltb rfl) rfl rfl rfl q385.1 q385.2 h) (by kernel_rfl) ?_
          refine AS.op [40, 45] [] [29] [] rfl rfl rfl (by kernel_rfl) (by kernel_rfl) rfl rfl (fun _ _ _ h => AOp.indexOwn (cells := (List.map keS1 g376.2)) (n := g376.2.length) rfl rfl (ltb rfl) rfl rfl el22 rfl (by decide) (len1 _ _) q386.1 q386.2 h) (by kernel_rfl) ?_
          refine AS.op [46] [] [29] [] rfl rfl rfl (by kernel_rfl) (by kernel_rfl) rfl rfl (fun _ _ _ h => AOp.loadO1 rfl rfl (ltb rfl) rfl agg32 rfl (at1 q388.2) h) (by kernel_rfl) ?_
          refine AS.op [0] [] [29] [] rfl rfl rfl (by kernel_rfl) (by kernel_rfl) rfl rfl (fun _ _ _ h => AOp.move rfl rfl (ltb rfl) rfl h) (by kernel_rfl) ?_
          refine AS.op [8] [] [29] [] rfl rfl rfl (by kernel_rfl) (by kernel_rfl) rfl rfl (fun _ _ _ h => AOp.move rfl rfl (ltb rfl) rfl h) (by kernel_rfl) ?_
          refine AS.op [3] [] [29] [] rfl rfl rfl (by kernel_rfl) (by kernel_rfl) rfl rfl (fun _ _ _ h => AOp.move rfl rfl (ltb rfl) rfl h) (by kernel_rfl) ?_
          refine AS.op [49, 50] [] [29] [] rfl rfl rfl (by kernel_rfl) (by kernel_rfl) rfl rfl (fun _ _ _ h => AOp.isub rfl rfl (ltb rfl) rfl rfl rfl q389.1 q389.2 h) (by kernel_rfl) ?_
          refine AS.op [10] [] [29] [] rfl rfl rfl (by kernel_rfl) (by kernel_rfl) rfl rfl (fun _ _ _ h => AOp.move rfl rfl (ltb rfl) rfl h) (by kernel_rfl) ?_
          refine AS.op [51, 52] [] [29] [] rfl rfl rfl (by kernel_rfl) (by kernel_rfl) rfl rfl (fun _ _ _ h => AOp.iadd rfl rfl (ltb rfl) rfl rfl rfl q390.1 q390.2 h) (by kernel_rfl) ?_
          refine AS.op [48, 53] [] [29] [] rfl rfl rfl (by kernel_rfl) (by kernel_rfl) rfl rfl (fun _ _ _ h => AOp.indexOwn (cells := (List.map keS1 g376.2)) (n := g376.2.length) rfl rfl (ltb rfl) rfl rfl el22 rfl (by decide) (len1 _ _) q391.1 q391.2 h) (by kernel_rfl) ?_
          refine AS.op [54] [] [29] [] rfl rfl rfl (by kernel_rfl) (by kernel_rfl) rfl rfl (fun _ _ _ h => AOp.loadO1 rfl rfl (ltb rfl) rfl agg32 rfl (at1 q393.2) h) (by kernel_rfl) ?_
          refine AS.op [28, 33] [] [29] [] rfl rfl rfl (by kernel_rfl) (by kernel_rfl) rfl rfl (fun _ _ _ h => AOp.indexOwn (cells := (List.map keS1 g376.2)) (n := g376.2.length) rfl rfl (ltb rfl) rfl rfl el22 rfl (by decide) (len1 _ _) q394.1 q394.2 h) (by kernel_rfl) ?_
          refine AS.mid0 [47, 56] [] [29] [] rfl rfl rfl rfl (by kernel_rfl) (by kernel_rfl) rfl rfl (fun _ _ _ h => AOp.storeOL (f := keS1) (l := g376.2) (i := (((g367.1 - y319.geom3.geom1.geom0.stride) + g376.1)).toNat) (v := x387) rfl rfl rfl rfl size32 rfl rfl rfl q395 (AO.dropT h)) (by kernel_rfl) rfl ?_
          refine AS.done ?_
          refine AO.objs (obs' := [.fix 27 [.d (di .i64 a0.Kind), .d (di .i64 a0.Layout), .d (di .i64 a0.SRID), .d (eS1 a0.Flat), .d (eS2 a0.Ends), .d (eS3 a0.Endss), .d (eS0 a0.Kids)], .fix 27 [.d (di .i64 (0 : Int)), .d (di .i64 (0 : Int)), .d (di .i64 (0 : Int)), .d (.v (.slice none 0 0)), .d (.v (.slice none 0 0)), .d (.v (.slice none 0 0)), .d (.v (.slice none 0 0))], .fix 4 [.d (dbool false)], .dead, .fix 27 [.d (di .i64 a0.Kind), .d (di .i64 a0.Layout), .d (di .i64 a0.SRID), .d (eS1 a0.Flat), .d (eS2 a0.Ends), .d (eS3 a0.Endss), .d (eS0 a0.Kids)], .grow 32 1 (List.map keS1 (g376.2.set (((g367.1 - y319.geom3.geom1.geom0.stride) + g376.1)).toNat x387)), .fix 103 [.d (di .i64 y319.geom3.geom1.geom0.layout), .d (di .i64 y319.geom3.geom1.geom0.stride), .own 5, .d (di .i64 a0.SRID), .d (eS3 y319.geom3.endss)], .dead, .frame fr322 [(2, .ptr 1 0), (3, .ptr 2 0), (4, .ifc 53 (.ptr 6 0))], .frame fr323 [], .frame fr347 [(0, .own 5), (3, .d (di .i64 y319.geom3.geom1.geom0.stride)), (9, .d (eS2 x343)), (10, .d (eS3 y319.geom3.endss)), (11, .d (di .i64 ((y319.geom3.endss.length : Nat) : Int))), (12, .d (di .i64 g339.2.1))], .frame fr361 [(0, .own 5), (3, .d (di .i64 y319.geom3.geom1.geom0.stride)), (9, .d (di .i64 x359)), (10, .d (eS2 x343)), (11, .d (di .i64 ((x343.length : Nat) : Int))), (12, .d (di .i64 g355.2.1))]]) rfl ?_
          obtain ⟨q396, h4⟩ := need_elim h4
          refine AO.op rfl (AOp.indexOwn (cells := (List.map keS1 (g376.2.set (((g367.1 - y319.geom3.geom1.geom0.stride) + g376.1)).toNat x387))) (n := (g376.2.set (((g367.1 - y319.geom3.geom1.geom0.stride) + g376.1)).toNat x387).length) rfl rfl (ltb rfl) rfl rfl el22 rfl (by decide) (len1 _ _) q396.1 q396.2 ?_)
          obtain ⟨q397, h4⟩ := need_elim h4
          refine AO.op rfl (AOp.storeOL (f := keS1) (l := (g376.2.set (((g367.1 - y319.geom3.geom1.geom0.stride) + g376.1)).toNat x387)) (i := (((g367.2.1 - y319.geom3.geom1.geom0.stride) + g376.1)).toNat) (v := x392) rfl rfl rfl rfl size32 rfl rfl rfl q397 ?_)
          refine AO.nil ?_
          change AC _ _ _ _
          refine AC.region ?_
          obtain ⟨q398, h4⟩ := need_elim h4
          refine AO.op rfl (AOp.iadd rfl rfl (ltb rfl) rfl rfl rfl q398.1 q398.2 ?_)
          refine AO.op rfl (AOp.move rfl rfl (ltb rfl) rfl ?_)
          refine AO.nil ?_
          exact ⟨((g376.1 + (1 : Int)), ((g376.2.set (((g367.1 - y319.geom3.geom1.geom0.stride) + g376.1)).toNat x387).set (((g367.2.1 - y319.geom3.geom1.geom0.stride) + g376.1)).toNat x392)), _, rfl, (LeL.refl _), rfl, rfl, h4⟩
         replace h4 := cF h4 q379
         refine AC.exit ?_
         obtain rfl := Option.some.inj h4
         exact ⟨g376.2, _, rfl, (LeL.refl _), rfl, rfl, aftL h3⟩
        intro g373 h3
        unfold p_Reverse_k33 at h3
        change AC _ _ _ _
        refine AC.region ?_
        refine AO.op rfl (AOp.move rfl rfl (ltb rfl) rfl ?_)
        refine AO.op rfl (AOp.move rfl rfl (ltb rfl) rfl ?_)
        obtain ⟨q374, h3⟩ := need_elim h3
        refine AO.op rfl (AOp.iadd rfl rfl (ltb rfl) rfl rfl rfl q374.1 q374.2 ?_)
        refine AO.op rfl (AOp.move rfl rfl (ltb rfl) rfl ?_)
        refine AO.op rfl (AOp.move rfl rfl (ltb rfl) rfl ?_)
        obtain ⟨q375, h3⟩ := need_elim h3
        refine AO.op rfl (AOp.isub rfl rfl (ltb rfl) rfl rfl rfl q375.1 q375.2 ?_)
        refine AO.op rfl (AOp.assign rfl rfl (ltb rfl) rfl ?_)
        refine AO.op rfl (AOp.assign rfl rfl (ltb rfl) rfl ?_)
        refine AO.nil ?_
        exact ⟨((g367.1 + y319.geom3.geom1.geom0.stride), (g367.2.1 - y319.geom3.geom1.geom0.stride), g373), _, rfl, (LeL.refl _), rfl, rfl, h3⟩
       replace h3 := cF h3 q370
       refine AC.exit ?_
       obtain rfl := Option.some.inj h3
       exact ⟨g367.2.2, _, rfl, (LeL.refl _), rfl, rfl, aftL h2⟩
      intro g365 h2
      unfold p_Reverse_k31 at h2
      refine inlend (ob' := [.fix 27 [.d (di .i64 a0.Kind), .d (di .i64 a0.Layout), .d (di .i64 a0.SRID), .d (eS1 a0.Flat), .d (eS2 a0.Ends), .d (eS3 a0.Endss), .d (eS0 a0.Kids)], .fix 27 [.d (di .i64 (0 : Int)), .d (di .i64 (0 : Int)), .d (di .i64 (0 : Int)), .d (.v (.slice none 0 0)), .d (.v (.slice none 0 0)), .d (.v (.slice none 0 0)), .d (.v (.slice none 0 0))], .fix 4 [.d (dbool false)], .dead, .fix 27 [.d (di .i64 a0.Kind), .d (di .i64 a0.Layout), .d (di .i64 a0.SRID), .d (eS1 a0.Flat), .d (eS2 a0.Ends), .d (eS3 a0.Endss), .d (eS0 a0.Kids)], .grow 32 1 (List.map keS1 g365), .fix 103 [.d (di .i64 y319.geom3.geom1.geom0.layout), .d (di .i64 y319.geom3.geom1.geom0.stride), .own 5, .d (di .i64 a0.SRID), .d (eS3 y319.geom3.endss)], .dead, .frame fr322 [(2, .ptr 1 0), (3, .ptr 2 0), (4, .ifc 53 (.ptr 6 0))], .frame fr323 [], .frame fr347 [(0, .own 5), (3, .d (di .i64 y319.geom3.geom1.geom0.stride)), (9, .d (eS2 x343)), (10, .d (eS3 y319.geom3.endss)), (11, .d (di .i64 ((y319.geom3.endss.length : Nat) : Int))), (12, .d (di .i64 g339.2.1))], .dead]) (e' := [(0, .own 5), (3, .d (di .i64 y319.geom3.geom1.geom0.stride)), (9, .d (di .i64 x359)), (10, .d (eS2 x343)), (11, .d (di .i64 ((x343.length : Nat) : Int))), (12, .d (di .i64 g355.2.1))]) (r := .tu []) rfl rfl rfl ?_
      change AO _ _ _ _ _
      refine AO.objs (obs' := [.fix 27 [.d (di .i64 a0.Kind), .d (di .i64 a0.Layout), .d (di .i64 a0.SRID), .d (eS1 a0.Flat), .d (eS2 a0.Ends), .d (eS3 a0.Endss), .d (eS0 a0.Kids)], .fix 27 [.d (di .i64 (0 : Int)), .d (di .i64 (0 : Int)), .d (di .i64 (0 : Int)), .d (.v (.slice none 0 0)), .d (.v (.slice none 0 0)), .d (.v (.slice none 0 0)), .d (.v (.slice none 0 0))], .fix 4 [.d (dbool false)], .dead, .fix 27 [.d (di .i64 a0.Kind), .d (di .i64 a0.Layout), .d (di .i64 a0.SRID), .d (eS1 a0.Flat), .d (eS2 a0.Ends), .d (eS3 a0.Endss), .d (eS0 a0.Kids)], .grow 32 1 (List.map keS1 g365), .fix 103 [.d (di .i64 y319.geom3.geom1.geom0.layout), .d (di .i64 y319.geom3.geom1.geom0.stride), .own 5, .d (di .i64 a0.SRID), .d (eS3 y319.geom3.endss)], .dead, .frame fr322 [(2, .ptr 1 0), (3, .ptr 2 0), (4, .ifc 53 (.ptr 6 0))], .frame fr323 [], .frame fr347 [(0, .own 5), (3, .d (di .i64 y319.geom3.geom1.geom0.stride)), (9, .d (eS2 x343)), (10, .d (eS3 y319.geom3.endss)), (11, .d (di .i64 ((y319.geom3.endss.length : Nat) : Int))), (12, .d (di .i64 g339.2.1))], .dead]) rfl ?_
      refine AO.nil ?_
      change AC _ _ _ _
      refine AC.region ?_
      refine AO.op rfl (AOp.move rfl rfl (ltb rfl) rfl ?_)
      refine AO.op rfl (AOp.assign rfl rfl (ltb rfl) rfl ?_)
      refine AO.nil ?_
      change AC _ _ _ _
      refine AC.region ?_
      obtain ⟨q366, h2⟩ := need_elim h2
      refine AO.op rfl (AOp.iadd rfl rfl (ltb rfl) rfl rfl rfl q366.1 q366.2 ?_)
      refine AO.op rfl (AOp.move rfl rfl (ltb rfl) rfl ?_)
      refine AO.nil ?_
      exact ⟨(x359, (g355.2.1 + (1 : Int)), g365), _, rfl, (LeL.refl _), rfl, rfl, h2⟩
     replace h2 := cF h2 q358
     refine AC.exit ?_
     obtain rfl := Option.some.inj h2
     exact ⟨g355.2.2, _, rfl, (LeL.refl _), rfl, rfl, aftL h1⟩
    intro g350 h1
    unfold p_Reverse_k29 at h1
    refine inlend (ob' := [.fix 27 [.d (di .i64 a0.Kind), .d (di .i64 a0.Layout), .d (di .i64 a0.SRID), .d (eS1 a0.Flat), .d (eS2 a0.Ends), .d (eS3 a0.Endss), .d (eS0 a0.Kids)], .fix 27 [.d (di .i64 (0 : Int)), .d (di .i64 (0 : Int)), .d (di .i64 (0 : Int)), .d (.v (.slice none 0 0)), .d (.v (.slice none 0 0)), .d (.v (.slice none 0 0)), .d (.v (.slice none 0 0))], .fix 4 [.d (dbool false)], .dead, .fix 27 [.d (di .i64 a0.Kind), .d (di .i64 a0.Layout), .d (di .i64 a0.SRID), .d (eS1 a0.Flat), .d (eS2 a0.Ends), .d (eS3 a0.Endss), .d (eS0 a0.Kids)], .grow 32 1 (List.map keS1 g350), .fix 103 [.d (di .i64 y319.geom3.geom1.geom0.layout), .d (di .i64 y319.geom3.geom1.geom0.stride), .own 5, .d (di .i64 a0.SRID), .d (eS3 y319.geom3.endss)], .dead, .frame fr322 [(2, .ptr 1 0), (3, .ptr 2 0), (4, .ifc 53 (.ptr 6 0))], .frame fr323 [], .dead]) (e' := [(0, .own 5), (3, .d (di .i64 y319.geom3.geom1.geom0.stride)), (9, .d (eS2 x343)), (10, .d (eS3 y319.geom3.endss)), (11, .d (di .i64 ((y319.geom3.endss.length : Nat) : Int))), (12, .d (di .i64 g339.2.1))]) (r := .tu []) rfl rfl rfl ?_
    change AO _ _ _ _ _
    refine AO.objs (obs' := [.fix 27 [.d (di .i64 a0.Kind), .d (di .i64 a0.Layout), .d (di .i64 a0.SRID), .d (eS1 a0.Flat), .d (eS2 a0.Ends), .d (eS3 a0.Endss), .d (eS0 a0.Kids)], .fix 27 [.d (di .i64 (0 : Int)), .d (di .i64 (0 : Int)), .d (di .i64 (0 : Int)), .d (.v (.slice none 0 0)), .d (.v (.slice none 0 0)), .d (.v (.slice none 0 0)), .d (.v (.slice none 0 0))], .fix 4 [.d (dbool false)], .dead, .fix 27 [.d (di .i64 a0.Kind), .d (di .i64 a0.Layout), .d (di .i64 a0.SRID), .d (eS1 a0.Flat), .d (eS2 a0.Ends), .d (eS3 a0.Endss), .d (eS0 a0.Kids)], .grow 32 1 (List.map keS1 g350), .fix 103 [.d (di .i64 y319.geom3.geom1.geom0.layout), .d (di .i64 y319.geom3.geom1.geom0.stride), .own 5, .d (di .i64 a0.SRID), .d (eS3 y319.geom3.endss)], .dead, .frame fr322 [(2, .ptr 1 0), (3, .ptr 2 0), (4, .ifc 53 (.ptr 6 0))], .frame fr323 [], .dead]) rfl ?_
    refine AO.nil ?_
    change AC _ _ _ _
    refine AC.region ?_
    refine AO.op rfl (AOp.move rfl rfl (ltb rfl) rfl ?_)
    refine AO.op rfl (AOp.move rfl rfl (ltb rfl) rfl ?_)
    refine AO.op rfl (AOp.lenDs (n := x343.length) (cells := (List.map keS2 x343)) rfl rfl (ltb rfl) rfl el23 (by decide) (len1 _ _) ?_)
    obtain ⟨q351, h1⟩ := need_elim h1
    refine AO.op rfl (AOp.isub rfl rfl (ltb rfl) rfl rfl rfl q351.1 q351.2 ?_)
    obtain ⟨x352, q353, h1⟩ := idx_elim h1
    refine AO.op rfl (AOp.indexDs (cells := (List.map keS2 x343)) rfl rfl (ltb rfl) rfl rfl el23 (by decide) q353.1 (lt1 q353.2) ?_)
    refine AO.op rfl (AOp.loadEp rfl rfl (ltb rfl) rfl agg3 (at1 q353.2) ?_)
    refine AO.op rfl (AOp.assign rfl rfl (ltb rfl) rfl ?_)
    refine AO.nil ?_
    change AC _ _ _ _
    refine AC.region ?_
    obtain ⟨q354, h1⟩ := need_elim h1
    refine AO.op rfl (AOp.iadd rfl rfl (ltb rfl) rfl rfl rfl q354.1 q354.2 ?_)
    refine AO.op rfl (AOp.move rfl rfl (ltb rfl) rfl ?_)
    refine AO.nil ?_
    exact ⟨(x352, (g339.2.1 + (1 : Int)), g350), _, rfl, (LeL.refl _), rfl, rfl, h1⟩
   replace h1 := cF h1 q342
   refine AC.exit ?_
   obtain rfl := Option.some.inj h1
   exact ⟨g339.2.2, _, rfl, (LeL.refl _), rfl, rfl, aftL h0⟩
  intro g326 h0
  unfold p_Reverse_k27 at h0
  refine inlend (ob' := [.fix 27 [.d (di .i64 a0.Kind), .d (di .i64 a0.Layout), .d (di .i64 a0.SRID), .d (eS1 a0.Flat), .d (eS2 a0.Ends), .d (eS3 a0.Endss), .d (eS0 a0.Kids)], .fix 27 [.d (di .i64 (0 : Int)), .d (di .i64 (0 : Int)), .d (di .i64 (0 : Int)), .d (.v (.slice none 0 0)), .d (.v (.slice none 0 0)), .d (.v (.slice none 0 0)), .d (.v (.slice none 0 0))], .fix 4 [.d (dbool false)], .dead, .fix 27 [.d (di .i64 a0.Kind), .d (di .i64 a0.Layout), .d (di .i64 a0.SRID), .d (eS1 a0.Flat), .d (eS2 a0.Ends), .d (eS3 a0.Endss), .d (eS0 a0.Kids)], .grow 32 1 (List.map keS1 g326), .fix 103 [.d (di .i64 y319.geom3.geom1.geom0.layout), .d (di .i64 y319.geom3.geom1.geom0.stride), .own 5, .d (di .i64 a0.SRID), .d (eS3 y319.geom3.endss)], .dead, .frame fr322 [(2, .ptr 1 0), (3, .ptr 2 0), (4, .ifc 53 (.ptr 6 0))], .dead]) (e' := []) (r := .tu []) rfl rfl rfl ?_
  change AO _ _ _ _ _
  refine AO.objs (obs' := [.fix 27 [.d (di .i64 a0.Kind), .d (di .i64 a0.Layout), .d (di .i64 a0.SRID), .d (eS1 a0.Flat), .d (eS2 a0.Ends), .d (eS3 a0.Endss), .d (eS0 a0.Kids)], .fix 27 [.d (di .i64 (0 : Int)), .d (di .i64 (0 : Int)), .d (di .i64 (0 : Int)), .d (.v (.slice none 0 0)), .d (.v (.slice none 0 0)), .d (.v (.slice none 0 0)), .d (.v (.slice none 0 0))], .fix 4 [.d (dbool false)], .dead, .fix 27 [.d (di .i64 a0.Kind), .d (di .i64 a0.Layout), .d (di .i64 a0.SRID), .d (eS1 a0.Flat), .d (eS2 a0.Ends), .d (eS3 a0.Endss), .d (eS0 a0.Kids)], .grow 32 1 (List.map keS1 g326), .fix 103 [.d (di .i64 y319.geom3.geom1.geom0.layout), .d (di .i64 y319.geom3.geom1.geom0.stride), .own 5, .d (di .i64 a0.SRID), .d (eS3 y319.geom3.endss)], .dead, .frame fr322 [(2, .ptr 1 0), (3, .ptr 2 0), (4, .ifc 53 (.ptr 6 0))], .dead]) rfl ?_
  refine AO.nil ?_
  refine inlend (ob' := [.fix 27 [.d (di .i64 a0.Kind), .d (di .i64 a0.Layout), .d (di .i64 a0.SRID), .d (eS1 a0.Flat), .d (eS2 a0.Ends), .d (eS3 a0.Endss), .d (eS0 a0.Kids)], .fix 27 [.d (di .i64 (0 : Int)), .d (di .i64 (0 : Int)), .d (di .i64 (0 : Int)), .d (.v (.slice none 0 0)), .d (.v (.slice none 0 0)), .d (.v (.slice none 0 0)), .d (.v (.slice none 0 0))], .fix 4 [.d (dbool false)], .dead, .fix 27 [.d (di .i64 a0.Kind), .d (di .i64 a0.Layout), .d (di .i64 a0.SRID), .d (eS1 a0.Flat), .d (eS2 a0.Ends), .d (eS3 a0.Endss), .d (eS0 a0.Kids)], .grow 32 1 (List.map keS1 g326), .fix 103 [.d (di .i64 y319.geom3.geom1.geom0.layout), .d (di .i64 y319.geom3.geom1.geom0.stride), .own 5, .d (di .i64 a0.SRID), .d (eS3 y319.geom3.endss)], .dead, .dead, .dead]) (e' := [(2, .ptr 1 0), (3, .ptr 2 0), (4, .ifc 53 (.ptr 6 0))]) (r := .tu []) rfl rfl rfl ?_
  change AO _ _ _ _ _
  refine AO.objs (obs' := [.fix 27 [.d (di .i64 a0.Kind), .d (di .i64 a0.Layout), .d (di .i64 a0.SRID), .d (eS1 a0.Flat), .d (eS2 a0.Ends), .d (eS3 a0.Endss), .d (eS0 a0.Kids)], .fix 27 [.d (di .i64 (0 : Int)), .d (di .i64 (0 : Int)), .d (di .i64 (0 : Int)), .d (.v (.slice none 0 0)), .d (.v (.slice none 0 0)), .d (.v (.slice none 0 0)), .d (.v (.slice none 0 0))], .fix 4 [.d (dbool false)], .dead, .fix 27 [.d (di .i64 a0.Kind), .d (di .i64 a0.Layout), .d (di .i64 a0.SRID), .d (eS1 a0.Flat), .d (eS2 a0.Ends), .d (eS3 a0.Endss), .d (eS0 a0.Kids)], .grow 32 1 (List.map keS1 g326), .fix 103 [.d (di .i64 y319.geom3.geom1.geom0.layout), .d (di .i64 y319.geom3.geom1.geom0.stride), .own 5, .d (di .i64 a0.SRID), .d (eS3 y319.geom3.endss)], .dead, .dead, .dead]) rfl ?_
  refine AO.nil ?_
  change AC _ _ _ _
  refine AC.seq ?_
  refine AC.region ?_
  refine AO.op rfl (AOp.move rfl rfl (ltb rfl) rfl ?_)
  refine AO.op rfl (AOp.inl [2, 3] (by kernel_rfl) Try.func32 rfl Try.ntmps32 rfl rfl (ltb rfl) rfl (leb rfl) rfl ?_)
  intro fr327
  refine AC.seq ?_
  refine AC.region ?_
  refine AO.op rfl (AOp.alloc rfl rfl (ltb rfl) zero27 rfl ?_)
  refine AO.objs (obs' := [.fix 27 [.d (di .i64 a0.Kind), .d (di .i64 a0.Layout), .d (di .i64 a0.SRID), .d (eS1 a0.Flat), .d (eS2 a0.Ends), .d (eS3 a0.Endss), .d (eS0 a0.Kids)], .fix 27 [.d (di .i64 (0 : Int)), .d (di .i64 (0 : Int)), .d (di .i64 (0 : Int)), .d (.v (.slice none 0 0)), .d (.v (.slice none 0 0)), .d (.v (.slice none 0 0)), .d (.v (.slice none 0 0))], .fix 4 [.d (dbool false)], .dead, .fix 27 [.d (di .i64 a0.Kind), .d (di .i64 a0.Layout), .d (di .i64 a0.SRID), .d (eS1 a0.Flat), .d (eS2 a0.Ends), .d (eS3 a0.Endss), .d (eS0 a0.Kids)], .grow 32 1 (List.map keS1 g326), .fix 103 [.d (di .i64 y319.geom3.geom1.geom0.layout), .d (di .i64 y319.geom3.geom1.geom0.stride), .own 5, .d (di .i64 a0.SRID), .d (eS3 y319.geom3.endss)], .dead, .dead, .dead, .frame fr327 [(2, .ptr 1 0), (3, .ptr 2 0)], .fix 27 [.d (di .i64 (0 : Int)), .d (di .i64 (0 : Int)), .d (di .i64 (0 : Int)), .d (.v (.slice none 0 0)), .d (.v (.slice none 0 0)), .d (.v (.slice none 0 0)), .d (.v (.slice none 0 0))]]) rfl ?_
  refine AO.nil ?_
  change AC _ _ _ _
  refine AC.seq ?_
  refine AC.region ?_
  refine AO.op rfl (AOp.move rfl rfl (ltb rfl) rfl ?_)
  refine AO.op rfl (AOp.inlE [0, 2] (EntersS.meth (by kernel_rfl) rfl rfl rfl meth53_SRID rfl rfl) Try.func90 rfl Try.ntmps90 rfl (ltb rfl) (leb rfl) rfl ?_)
  intro fr328
  refine AC.seq ?_
  refine AC.region ?_
  refine AO.op rfl (AOp.assign rfl rfl (ltb rfl) rfl ?_)
  refine AO.objs (obs' := [.fix 27 [.d (di .i64 a0.Kind), .d (di .i64 a0.Layout), .d (di .i64 a0.SRID), .d (eS1 a0.Flat), .d (eS2 a0.Ends), .d (eS3 a0.Endss), .d (eS0 a0.Kids)], .fix 27 [.d (di .i64 (0 : Int)), .d (di .i64 (0 : Int)), .d (di .i64 (0 : Int)), .d (.v (.slice none 0 0)), .d (.v (.slice none 0 0)), .d (.v (.slice none 0 0)), .d (.v (.slice none 0 0))], .fix 4 [.d (dbool false)], .dead, .fix 27 [.d (di .i64 a0.Kind), .d (di .i64 a0.Layout), .d (di .i64 a0.SRID), .d (eS1 a0.Flat), .d (eS2 a0.Ends), .d (eS3 a0.Endss), .d (eS0 a0.Kids)], .grow 32 1 (List.map keS1 g326), .fix 103 [.d (di .i64 y319.geom3.geom1.geom0.layout), .d (di .i64 y319.geom3.geom1.geom0.stride), .own 5, .d (di .i64 a0.SRID), .d (eS3 y319.geom3.endss)], .dead, .dead, .dead, .frame fr327 [(2, .ptr 1 0), (3, .ptr 2 0)], .fix 27 [.d (di .i64 (0 : Int)), .d (di .i64 (0 : Int)), .d (di .i64 (0 : Int)), .d (.v (.slice none 0 0)), .d (.v (.slice none 0 0)), .d (.v (.slice none 0 0)), .d (.v (.slice none 0 0))], .frame fr328 [(0, .ifc 53 (.ptr 6 0)), (2, .ptr 11 0)]]) rfl ?_
  refine AO.nil ?_
  change AC _ _ _ _
  refine AC.seq ?_
  refine AC.region ?_
  refine AO.op rfl (AOp.move rfl rfl (ltb rfl) rfl ?_)
  refine AO.op rfl (AOp.nilCheck rfl rfl (ltb rfl) rfl rfl ?_)
  refine AO.op rfl (AOp.fieldAddr rfl rfl (ltb rfl) rfl fo91_3 ?_)
  refine AO.op rfl (AOp.load1 rfl rfl (ltb rfl) rfl agg3 rfl rfl ?_)
  refine AO.op rfl (AOp.assign rfl rfl (ltb rfl) rfl ?_)
  refine AO.nil ?_
  change AC _ _ _ _
  refine AC.ret ?_
  refine inlret (ob' := [.fix 27 [.d (di .i64 a0.Kind), .d (di .i64 a0.Layout), .d (di .i64 a0.SRID), .d (eS1 a0.Flat), .d (eS2 a0.Ends), .d (eS3 a0.Endss), .d (eS0 a0.Kids)], .fix 27 [.d (di .i64 (0 : Int)), .d (di .i64 (0 : Int)), .d (di .i64 (0 : Int)), .d (.v (.slice none 0 0)), .d (.v (.slice none 0 0)), .d (.v (.slice none 0 0)), .d (.v (.slice none 0 0))], .fix 4 [.d (dbool false)], .dead, .fix 27 [.d (di .i64 a0.Kind), .d (di .i64 a0.Layout), .d (di .i64 a0.SRID), .d (eS1 a0.Flat), .d (eS2 a0.Ends), .d (eS3 a0.Endss), .d (eS0 a0.Kids)], .grow 32 1 (List.map keS1 g326), .fix 103 [.d (di .i64 y319.geom3.geom1.geom0.layout), .d (di .i64 y319.geom3.geom1.geom0.stride), .own 5, .d (di .i64 a0.SRID), .d (eS3 y319.geom3.endss)], .dead, .dead, .dead, .frame fr327 [(2, .ptr 1 0), (3, .ptr 2 0)], .fix 27 [.d (di .i64 (0 : Int)), .d (di .i64 (0 : Int)), .d (di .i64 (0 : Int)), .d (.v (.slice none 0 0)), .d (.v (.slice none 0 0)), .d (.v (.slice none 0 0)), .d (.v (.slice none 0 0))], .dead]) (e' := [(0, .ifc 53 (.ptr 6 0)), (2, .ptr 11 0)]) (r := .d (di .i64 a0.SRID)) rfl rfl rfl ?_
  change AO _ _ _ _ _
  refine AO.op rfl (AOp.build rfl rfl (ltb rfl) zero27 rfl places27 rfl rfl ?_)
  refine AO.op rfl (AOp.alloc rfl rfl (ltb rfl) zero27 rfl ?_)
  refine AO.op rfl (AOp.store rfl rfl rfl rfl size27 rfl rfl rfl (leb rfl) ?_)
  refine AO.objs (obs' := [.fix 27 [.d (di .i64 a0.Kind), .d (di .i64 a0.Layout), .d (di .i64 a0.SRID), .d (eS1 a0.Flat), .d (eS2 a0.Ends), .d (eS3 a0.Endss), .d (eS0 a0.Kids)], .fix 27 [.d (di .i64 (0 : Int)), .d (di .i64 (0 : Int)), .d (di .i64 (0 : Int)), .d (.v (.slice none 0 0)), .d (.v (.slice none 0 0)), .d (.v (.slice none 0 0)), .d (.v (.slice none 0 0))], .fix 4 [.d (dbool false)], .dead, .fix 27 [.d (di .i64 a0.Kind), .d (di .i64 a0.Layout), .d (di .i64 a0.SRID), .d (eS1 a0.Flat), .d (eS2 a0.Ends), .d (eS3 a0.Endss), .d (eS0 a0.Kids)], .grow 32 1 (List.map keS1 g326), .fix 103 [.d (di .i64 y319.geom3.geom1.geom0.layout), .d (di .i64 y319.geom3.geom1.geom0.stride), .own 5, .d (di .i64 a0.SRID), .d (eS3 y319.geom3.endss)], .dead, .dead, .dead, .frame fr327 [(2, .ptr 1 0), (3, .ptr 2 0)], .fix 27 [.d (di .i64 (0 : Int)), .d (di .i64 (0 : Int)), .d (di .i64 (0 : Int)), .d (.v (.slice none 0 0)), .d (.v (.slice none 0 0)), .d (.v (.slice none 0 0)), .d (.v (.slice none 0 0))], .dead, .fix 27 [.d (di .i64 (0 : Int)), .d (di .i64 (0 : Int)), .d (di .i64 a0.SRID), .d (.v (.slice none 0 0)), .d (.v (.slice none 0 0)), .d (.v (.slice none 0 0)), .d (.v (.slice none 0 0))]]) rfl ?_
  refine AO.nil ?_
  change AC _ _ _ _
  refine AC.seq ?_
  refine AC.seq ?_
  refine AC.region ?_
  refine AO.op rfl (AOp.move rfl rfl (ltb rfl) rfl ?_)
  refine AO.nil ?_
  change AC _ _ _ _
  refine AC.block ?_
  refine AC.seq ?_
  refine AC.region ?_
  refine AO.op rfl (AOp.assertNo rfl rfl (ltb rfl) rfl rfl pass53_64 zero64 ?_)
  first | refine AO.op rfl (AOp.extractD rfl rfl (ltb rfl) rfl rfl ?_) | refine AO.op rfl (AOp.extract rfl rfl (ltb rfl) rfl rfl ?_)
  first | refine AO.op rfl (AOp.extractD rfl rfl (ltb rfl) rfl rfl ?_) | refine AO.op rfl (AOp.extract rfl rfl (ltb rfl) rfl rfl ?_)
  refine AO.nil ?_
  change AC _ _ _ _
  refine AC.condF rfl rfl ?_
  refine AC.seq ?_
  refine AC.region ?_
  refine AO.op rfl (AOp.assertNo rfl rfl (ltb rfl) rfl rfl pass53_67 zero67 ?_)
  first | refine AO.op rfl (AOp.extractD rfl rfl (ltb rfl) rfl rfl ?_) | refine AO.op rfl (AOp.extract rfl rfl (ltb rfl) rfl rfl ?_)
  first | refine AO.op rfl (AOp.extractD rfl rfl (ltb rfl) rfl rfl ?_) | refine AO.op rfl (AOp.extract rfl rfl (ltb rfl) rfl rfl ?_)
  refine AO.nil ?_
  change AC _ _ _ _
  refine AC.condF rfl rfl ?_
  refine AC.seq ?_
  refine AC.region ?_
  refine AO.op rfl (AOp.assertNo rfl rfl (ltb rfl) rfl rfl pass53_70 zero70 ?_)
  first | refine AO.op rfl (AOp.extractD rfl rfl (ltb rfl) rfl rfl ?_) | refine AO.op rfl (AOp.extract rfl rfl (ltb rfl) rfl rfl ?_)
  first | refine AO.op rfl (AOp.extractD rfl rfl (ltb rfl) rfl rfl ?_) | refine AO.op rfl (AOp.extract rfl rfl (ltb rfl) rfl rfl ?_)
  refine AO.nil ?_
  change AC _ _ _ _
  refine AC.condF rfl rfl ?_
  refine AC.seq ?_
  refine AC.region ?_
  refine AO.op rfl (AOp.assertNo rfl rfl (ltb rfl) rfl rfl pass53_49 zero49 ?_)
  first | refine AO.op rfl (AOp.extractD rfl rfl (ltb rfl) rfl rfl ?_) | refine AO.op rfl (AOp.extract rfl rfl (ltb rfl) rfl rfl ?_)
  first | refine AO.op rfl (AOp.extractD rfl rfl (ltb rfl) rfl rfl ?_) | refine AO.op rfl (AOp.extract rfl rfl (ltb rfl) rfl rfl ?_)
  refine AO.nil ?_
  change AC _ _ _ _
  refine AC.condF rfl rfl ?_
  refine AC.seq ?_
  refine AC.region ?_
  refine AO.op rfl (AOp.assertNo rfl rfl (ltb rfl) rfl rfl pass53_51 zero51 ?_)
  first | refine AO.op rfl (AOp.extractD rfl rfl (ltb rfl) rfl rfl ?_) | refine AO.op rfl (AOp.extract rfl rfl (ltb rfl) rfl rfl ?_)
  first | refine AO.op rfl (AOp.extractD rfl rfl (ltb rfl) rfl rfl ?_) | refine AO.op rfl (AOp.extract rfl rfl (ltb rfl) rfl rfl ?_)
  refine AO.nil ?_
  change AC _ _ _ _
  refine AC.condF rfl rfl ?_
  refine AC.seq ?_
  refine AC.region ?_
  refine AO.op rfl (AOp.assertNo rfl rfl (ltb rfl) rfl rfl pass53_52 zero52 ?_)
  first | refine AO.op rfl (AOp.extractD rfl rfl (ltb rfl) rfl rfl ?_) | refine AO.op rfl (AOp.extract rfl rfl (ltb rfl) rfl rfl ?_)
  first | refine AO.op rfl (AOp.extractD rfl rfl (ltb rfl) rfl rfl ?_) | refine AO.op rfl (AOp.extract rfl rfl (ltb rfl) rfl rfl ?_)
  refine AO.nil ?_
  change AC _ _ _ _
  refine AC.condF rfl rfl ?_
  refine AC.seq ?_
  refine AC.region ?_
  refine AO.op rfl (AOp.assertYes rfl rfl (ltb rfl) rfl rfl pass53_53 rfl ?_)
  first | refine AO.op rfl (AOp.extractD rfl rfl (ltb rfl) rfl rfl ?_) | refine AO.op rfl (AOp.extract rfl rfl (ltb rfl) rfl rfl ?_)
  first | refine AO.op rfl (AOp.extractD rfl rfl (ltb rfl) rfl rfl ?_) | refine AO.op rfl (AOp.extract rfl rfl (ltb rfl) rfl rfl ?_)
  refine AO.nil ?_
  change AC _ _ _ _
  refine AC.condT rfl rfl ?_
  refine AC.seq ?_
  refine AC.region ?_
  refine AO.op rfl (AOp.assign rfl rfl (ltb rfl) rfl ?_)
  refine AO.nil ?_
  change AC _ _ _ _
  refine AC.region ?_
  refine AO.op rfl (AOp.fieldAddr rfl rfl (ltb rfl) rfl fo27_0 ?_)
  refine AO.op rfl (AOp.store rfl rfl rfl rfl size3 rfl rfl rfl (leb rfl) ?_)
  refine AO.nil ?_
  change AC _ _ _ _
  refine AC.seq ?_
  refine AC.region ?_
  refine AO.op rfl (AOp.move rfl rfl (ltb rfl) rfl ?_)
  refine AO.op rfl (AOp.inlE [0, 2, 3] (EntersS.meth (by kernel_rfl) rfl rfl rfl meth53_Layout rfl rfl) Try.func88 rfl Try.ntmps88 rfl (ltb rfl) (leb rfl) rfl ?_)
  intro fr329
  refine AC.seq ?_
  refine AC.region ?_
  refine AO.op rfl (AOp.assign rfl rfl (ltb rfl) rfl ?_)
  refine AO.objs (obs' := [.fix 27 [.d (di .i64 a0.Kind), .d (di .i64 a0.Layout), .d (di .i64 a0.SRID), .d (eS1 a0.Flat), .d (eS2 a0.Ends), .d (eS3 a0.Endss), .d (eS0 a0.Kids)], .fix 27 [.d (di .i64 (0 : Int)), .d (di .i64 (0 : Int)), .d (di .i64 (0 : Int)), .d (.v (.slice none 0 0)), .d (.v (.slice none 0 0)), .d (.v (.slice none 0 0)), .d (.v (.slice none 0 0))], .fix 4 [.d (dbool false)], .dead, .fix 27 [.d (di .i64 a0.Kind), .d (di .i64 a0.Layout), .d (di .i64 a0.SRID), .d (eS1 a0.Flat), .d (eS2 a0.Ends), .d (eS3 a0.Endss), .d (eS0 a0.Kids)], .grow 32 1 (List.map keS1 g326), .fix 103 [.d (di .i64 y319.geom3.geom1.geom0.layout), .d (di .i64 y319.geom3.geom1.geom0.stride), .own 5, .d (di .i64 a0.SRID), .d (eS3 y319.geom3.endss)], .dead, .dead, .dead, .frame fr327 [(2, .ptr 1 0), (3, .ptr 2 0)], .fix 27 [.d (di .i64 (0 : Int)), .d (di .i64 (0 : Int)), .d (di .i64 (0 : Int)), .d (.v (.slice none 0 0)), .d (.v (.slice none 0 0)), .d (.v (.slice none 0 0)), .d (.v (.slice none 0 0))], .dead, .fix 27 [.d (di .i64 (6 : Int)), .d (di .i64 (0 : Int)), .d (di .i64 a0.SRID), .d (.v (.slice none 0 0)), .d (.v (.slice none 0 0)), .d (.v (.slice none 0 0)), .d (.v (.slice none 0 0))], .frame fr329 [(0, .ifc 53 (.ptr 6 0)), (2, .ptr 11 0), (3, .ptr 13 0)]]) rfl ?_
  refine AO.nil ?_
  change AC _ _ _ _
  refine AC.seq ?_
  refine AC.region ?_
  refine AO.op rfl (AOp.move rfl rfl (ltb rfl) rfl ?_)
  refine AO.op rfl (AOp.nilCheck rfl rfl (ltb rfl) rfl rfl ?_)
  refine AO.op rfl (AOp.fieldAddr rfl rfl (ltb rfl) rfl fo91_0 ?_)
  refine AO.op rfl (AOp.load1 rfl rfl (ltb rfl) rfl agg63 rfl rfl ?_)
  refine AO.op rfl (AOp.assign rfl rfl (ltb rfl) rfl ?_)
  refine AO.nil ?_
  change AC _ _ _ _
  refine AC.ret ?_
  refine inlret (ob' := [.fix 27 [.d (di .i64 a0.Kind), .d (di .i64 a0.Layout), .d (di .i64 a0.SRID), .d (eS1 a0.Flat), .d (eS2 a0.Ends), .d (eS3 a0.Endss), .d (eS0 a0.Kids)], .fix 27 [.d (di .i64 (0 : Int)), .d (di .i64 (0 : Int)), .d (di .i64 (0 : Int)), .d (.v (.slice none 0 0)), .d (.v (.slice none 0 0)), .d (.v (.slice none 0 0)), .d (.v (.slice none 0 0))], .fix 4 [.d (dbool false)], .dead, .fix 27 [.d (di .i64 a0.Kind), .d (di .i64 a0.Layout), .d (di .i64 a0.SRID), .d (eS1 a0.Flat), .d (eS2 a0.Ends), .d (eS3 a0.Endss), .d (eS0 a0.Kids)], .grow 32 1 (List.map keS1 g326), .fix 103 [.d (di .i64 y319.geom3.geom1.geom0.layout), .d (di .i64 y319.geom3.geom1.geom0.stride), .own 5, .d (di .i64 a0.SRID), .d (eS3 y319.geom3.endss)], .dead, .dead, .dead, .frame fr327 [(2, .ptr 1 0), (3, .ptr 2 0)], .fix 27 [.d (di .i64 (0 : Int)), .d (di .i64 (0 : Int)), .d (di .i64 (0 : Int)), .d (.v (.slice none 0 0)), .d (.v (.slice none 0 0)), .d (.v (.slice none 0 0)), .d (.v (.slice none 0 0))], .dead, .fix 27 [.d (di .i64 (6 : Int)), .d (di .i64 (0 : Int)), .d (di .i64 a0.SRID), .d (.v (.slice none 0 0)), .d (.v (.slice none 0 0)), .d (.v (.slice none 0 0)), .d (.v (.slice none 0 0))], .dead]) (e' := [(0, .ifc 53 (.ptr 6 0)), (2, .ptr 11 0), (3, .ptr 13 0)]) (r := .d (di .i64 y319.geom3.geom1.geom0.layout)) rfl rfl rfl ?_
  change AO _ _ _ _ _
  refine AO.op rfl (AOp.move rfl rfl (ltb rfl) rfl ?_)
  refine AO.op rfl (AOp.inlE [0, 2, 3, 70] (EntersS.meth (by kernel_rfl) rfl rfl rfl meth53_FlatCoords rfl rfl) Try.func87 rfl Try.ntmps87 rfl (ltb rfl) (leb rfl) rfl ?_)
  intro fr330
  refine AC.seq ?_
  refine AC.region ?_
  refine AO.op rfl (AOp.assign rfl rfl (ltb rfl) rfl ?_)
  refine AO.objs (obs' := [.fix 27 [.d (di .i64 a0.Kind), .d (di .i64 a0.Layout), .d (di .i64 a0.SRID), .d (eS1 a0.Flat), .d (eS2 a0.Ends), .d (eS3 a0.Endss), .d (eS0 a0.Kids)], .fix 27 [.d (di .i64 (0 : Int)), .d (di .i64 (0 : Int)), .d (di .i64 (0 : Int)), .d (.v (.slice none 0 0)), .d (.v (.slice none 0 0)), .d (.v (.slice none 0 0)), .d (.v (.slice none 0 0))], .fix 4 [.d (dbool false)], .dead, .fix 27 [.d (di .i64 a0.Kind), .d (di .i64 a0.Layout), .d (di .i64 a0.SRID), .d (eS1 a0.Flat), .d (eS2 a0.Ends), .d (eS3 a0.Endss), .d (eS0 a0.Kids)], .grow 32 1 (List.map keS1 g326), .fix 103 [.d (di .i64 y319.geom3.geom1.geom0.layout), .d (di .i64 y319.geom3.geom1.geom0.stride), .own 5, .d (di .i64 a0.SRID), .d (eS3 y319.geom3.endss)], .dead, .dead, .dead, .frame fr327 [(2, .ptr 1 0), (3, .ptr 2 0)], .fix 27 [.d (di .i64 (0 : Int)), .d (di .i64 (0 : Int)), .d (di .i64 (0 : Int)), .d (.v (.slice none 0 0)), .d (.v (.slice none 0 0)), .d (.v (.slice none 0 0)), .d (.v (.slice none 0 0))], .dead, .fix 27 [.d (di .i64 (6 : Int)), .d (di .i64 (0 : Int)), .d (di .i64 a0.SRID), .d (.v (.slice none 0 0)), .d (.v (.slice none 0 0)), .d (.v (.slice none 0 0)), .d (.v (.slice none 0 0))], .dead, .frame fr330 [(0, .ifc 53 (.ptr 6 0)), (2, .ptr 11 0), (3, .ptr 13 0), (70, .d (di .i64 y319.geom3.geom1.geom0.layout))]]) rfl ?_
  refine AO.nil ?_
  change AC _ _ _ _
  refine AC.seq ?_
  refine AC.region ?_
  refine AO.op rfl (AOp.move rfl rfl (ltb rfl) rfl ?_)
  refine AO.op rfl (AOp.nilCheck rfl rfl (ltb rfl) rfl rfl ?_)
  refine AO.op rfl (AOp.fieldAddr rfl rfl (ltb rfl) rfl fo91_2 ?_)
  refine AO.op rfl (AOp.load1 rfl rfl (ltb rfl) rfl agg22 rfl rfl ?_)
  refine AO.op rfl (AOp.assign rfl rfl (ltb rfl) rfl ?_)
  refine AO.nil ?_
  change AC _ _ _ _
  refine AC.ret ?_
  refine inlret (ob' := [.fix 27 [.d (di .i64 a0.Kind), .d (di .i64 a0.Layout), .d (di .i64 a0.SRID), .d (eS1 a0.Flat), .d (eS2 a0.Ends), .d (eS3 a0.Endss), .d (eS0 a0.Kids)], .fix 27 [.d (di .i64 (0 : Int)), .d (di .i64 (0 : Int)), .d (di .i64 (0 : Int)), .d (.v (.slice none 0 0)), .d (.v (.slice none 0 0)), .d (.v (.slice none 0 0)), .d (.v (.slice none 0 0))], .fix 4 [.d (dbool false)], .dead, .fix 27 [.d (di .i64 a0.Kind), .d (di .i64 a0.Layout), .d (di .i64 a0.SRID), .d (eS1 a0.Flat), .d (eS2 a0.Ends), .d (eS3 a0.Endss), .d (eS0 a0.Kids)], .grow 32 1 (List.map keS1 g326), .fix 103 [.d (di .i64 y319.geom3.geom1.geom0.layout), .d (di .i64 y319.geom3.geom1.geom0.stride), .own 5, .d (di .i64 a0.SRID), .d (eS3 y319.geom3.endss)], .dead, .dead, .dead, .frame fr327 [(2, .ptr 1 0), (3, .ptr 2 0)], .fix 27 [.d (di .i64 (0 : Int)), .d (di .i64 (0 : Int)), .d (di .i64 (0 : Int)), .d (.v (.slice none 0 0)), .d (.v (.slice none 0 0)), .d (.v (.slice none 0 0)), .d (.v (.slice none 0 0))], .dead, .fix 27 [.d (di .i64 (6 : Int)), .d (di .i64 (0 : Int)), .d (di .i64 a0.SRID), .d (.v (.slice none 0 0)), .d (.v (.slice none 0 0)), .d (.v (.slice none 0 0)), .d (.v (.slice none 0 0))], .dead, .dead]) (e' := [(0, .ifc 53 (.ptr 6 0)), (2, .ptr 11 0), (3, .ptr 13 0), (70, .d (di .i64 y319.geom3.geom1.geom0.layout))]) (r := .own 5) rfl rfl rfl ?_
  change AO _ _ _ _ _
  refine AO.subO 6 rfl (.cons (SVLe.refl _) (.cons (SVLe.refl _) (.cons (SVLe.any _) (.cons (SVLe.refl _) (.cons (SVLe.refl _) .nil))))) ?_
  refine AO.freezeG 5 rfl rfl rfl ?_
  obtain ⟨y331, q332, h0⟩ := bind_elim h0
  refine AO.op rfl (AOp.callD rfl rfl (ltb rfl) rfl rfl (w_floats g326 y331 q332) ?_)
  rintro _ rfl
  refine AO.op rfl (AOp.move rfl rfl (ltb rfl) rfl ?_)
  refine AO.op rfl (AOp.inlE [0, 2, 3, 70, 73] (EntersS.meth (by kernel_rfl) rfl rfl rfl meth53_Ends rfl rfl) Try.func94 rfl Try.ntmps94 rfl (ltb rfl) (leb rfl) rfl ?_)
  intro fr333
  refine AC.seq ?_
  refine AC.region ?_
  refine AO.op rfl (AOp.assign rfl rfl (ltb rfl) rfl ?_)
  refine AO.objs (obs' := [.fix 27 [.d (di .i64 a0.Kind), .d (di .i64 a0.Layout), .d (di .i64 a0.SRID), .d (eS1 a0.Flat), .d (eS2 a0.Ends), .d (eS3 a0.Endss), .d (eS0 a0.Kids)], .fix 27 [.d (di .i64 (0 : Int)), .d (di .i64 (0 : Int)), .d (di .i64 (0 : Int)), .d (.v (.slice none 0 0)), .d (.v (.slice none 0 0)), .d (.v (.slice none 0 0)), .d (.v (.slice none 0 0))], .fix 4 [.d (dbool false)], .dead, .fix 27 [.d (di .i64 a0.Kind), .d (di .i64 a0.Layout), .d (di .i64 a0.SRID), .d (eS1 a0.Flat), .d (eS2 a0.Ends), .d (eS3 a0.Endss), .d (eS0 a0.Kids)], .dead, .fix 103 [.d (di .i64 y319.geom3.geom1.geom0.layout), .d (di .i64 y319.geom3.geom1.geom0.stride), .any, .d (di .i64 a0.SRID), .d (eS3 y319.geom3.endss)], .dead, .dead, .dead, .frame fr327 [(2, .ptr 1 0), (3, .ptr 2 0)], .fix 27 [.d (di .i64 (0 : Int)), .d (di .i64 (0 : Int)), .d (di .i64 (0 : Int)), .d (.v (.slice none 0 0)), .d (.v (.slice none 0 0)), .d (.v (.slice none 0 0)), .d (.v (.slice none 0 0))], .dead, .fix 27 [.d (di .i64 (6 : Int)), .d (di .i64 (0 : Int)), .d (di .i64 a0.SRID), .d (.v (.slice none 0 0)), .d (.v (.slice none 0 0)), .d (.v (.slice none 0 0)), .d (.v (.slice none 0 0))], .dead, .dead, .frame fr333 [(0, .ifc 53 (.ptr 6 0)), (2, .ptr 11 0), (3, .ptr 13 0), (70, .d (di .i64 y319.geom3.geom1.geom0.layout)), (73, .d (eS1 y331))]]) rfl ?_
  refine AO.nil ?_
  change AC _ _ _ _
  refine AC.seq ?_
  refine AC.region ?_
  refine AO.op rfl (AOp.assign rfl rfl (ltb rfl) rfl ?_)
  refine AO.nil ?_
  change AC _ _ _ _
  refine AC.ret ?_
  refine inlret (ob' := [.fix 27 [.d (di .i64 a0.Kind), .d (di .i64 a0.Layout), .d (di .i64 a0.SRID), .d (eS1 a0.Flat), .d (eS2 a0.Ends), .d (eS3 a0.Endss), .d (eS0 a0.Kids)], .fix 27 [.d (di .i64 (0 : Int)), .d (di .i64 (0 : Int)), .d (di .i64 (0 : Int)), .d (.v (.slice none 0 0)), .d (.v (.slice none 0 0)), .d (.v (.slice none 0 0)), .d (.v (.slice none 0 0))], .fix 4 [.d (dbool false)], .dead, .fix 27 [.d (di .i64 a0.Kind), .d (di .i64 a0.Layout), .d (di .i64 a0.SRID), .d (eS1 a0.Flat), .d (eS2 a0.Ends), .d (eS3 a0.Endss), .d (eS0 a0.Kids)], .dead, .fix 103 [.d (di .i64 y319.geom3.geom1.geom0.layout), .d (di .i64 y319.geom3.geom1.geom0.stride), .any, .d (di .i64 a0.SRID), .d (eS3 y319.geom3.endss)], .dead, .dead, .dead, .frame fr327 [(2, .ptr 1 0), (3, .ptr 2 0)], .fix 27 [.d (di .i64 (0 : Int)), .d (di .i64 (0 : Int)), .d (di .i64 (0 : Int)), .d (.v (.slice none 0 0)), .d (.v (.slice none 0 0)), .d (.v (.slice none 0 0)), .d (.v (.slice none 0 0))], .dead, .fix 27 [.d (di .i64 (6 : Int)), .d (di .i64 (0 : Int)), .d (di .i64 a0.SRID), .d (.v (.slice none 0 0)), .d (.v (.slice none 0 0)), .d (.v (.slice none 0 0)), .d (.v (.slice none 0 0))], .dead, .dead, .dead]) (e' := [(0, .ifc 53 (.ptr 6 0)), (2, .ptr 11 0), (3, .ptr 13 0), (70, .d (di .i64 y319.geom3.geom1.geom0.layout)), (73, .d (eS1 y331))]) (r := .d (.v (.slice none 0 0))) rfl rfl rfl ?_
  change AO _ _ _ _ _
  refine AO.sub 75 rfl (SVLe.nil 1) ?_
  obtain ⟨y334, q335, h0⟩ := bind_elim h0
  refine AO.op rfl (AOp.callD rfl rfl (ltb rfl) rfl rfl (w_ints [] y334 q335) ?_)
  rintro _ rfl
  refine AO.op rfl (AOp.move rfl rfl (ltb rfl) rfl ?_)
  refine AO.op rfl (AOp.inlE [2, 3, 70, 73, 76] (EntersS.meth (by kernel_rfl) rfl rfl rfl meth53_Endss rfl rfl) Try.func95 rfl Try.ntmps95 rfl (ltb rfl) (leb rfl) rfl ?_)
  intro fr336
  refine AC.seq ?_
  refine AC.region ?_
  refine AO.op rfl (AOp.assign rfl rfl (ltb rfl) rfl ?_)
  refine AO.objs (obs' := [.fix 27 [.d (di .i64 a0.Kind), .d (di .i64 a0.Layout), .d (di .i64 a0.SRID), .d (eS1 a0.Flat), .d (eS2 a0.Ends), .d (eS3 a0.Endss), .d (eS0 a0.Kids)], .fix 27 [.d (di .i64 (0 : Int)), .d (di .i64 (0 : Int)), .d (di .i64 (0 : Int)), .d (.v (.slice none 0 0)), .d (.v (.slice none 0 0)), .d (.v (.slice none 0 0)), .d (.v (.slice none 0 0))], .fix 4 [.d (dbool false)], .dead, .fix 27 [.d (di .i64 a0.Kind), .d (di .i64 a0.Layout), .d (di .i64 a0.SRID), .d (eS1 a0.Flat), .d (eS2 a0.Ends), .d (eS3 a0.Endss), .d (eS0 a0.Kids)], .dead, .fix 103 [.d (di .i64 y319.geom3.geom1.geom0.layout), .d (di .i64 y319.geom3.geom1.geom0.stride), .any, .d (di .i64 a0.SRID), .d (eS3 y319.geom3.endss)], .dead, .dead, .dead, .frame fr327 [(2, .ptr 1 0), (3, .ptr 2 0)], .fix 27 [.d (di .i64 (0 : Int)), .d (di .i64 (0 : Int)), .d (di .i64 (0 : Int)), .d (.v (.slice none 0 0)), .d (.v (.slice none 0 0)), .d (.v (.slice none 0 0)), .d (.v (.slice none 0 0))], .dead, .fix 27 [.d (di .i64 (6 : Int)), .d (di .i64 (0 : Int)), .d (di .i64 a0.SRID), .d (.v (.slice none 0 0)), .d (.v (.slice none 0 0)), .d (.v (.slice none 0 0)), .d (.v (.slice none 0 0))], .dead, .dead, .dead, .frame fr336 [(2, .ptr 11 0), (3, .ptr 13 0), (70, .d (di .i64 y319.geom3.geom1.geom0.layout)), (73, .d (eS1 y331)), (76, .d (eS2 y334))]]) rfl ?_
  refine AO.nil ?_
  change AC _ _ _ _
  refine AC.seq ?_
  refine AC.region ?_
  refine AO.op rfl (AOp.move rfl rfl (ltb rfl) rfl ?_)
  refine AO.op rfl (AOp.nilCheck rfl rfl (ltb rfl) rfl rfl ?_)
  refine AO.op rfl (AOp.fieldAddr rfl rfl (ltb rfl) rfl fo101_1 ?_)
  refine AO.op rfl (AOp.load1 rfl rfl (ltb rfl) rfl agg24 rfl rfl ?_)
  refine AO.op rfl (AOp.assign rfl rfl (ltb rfl) rfl ?_)
  refine AO.nil ?_
  change AC _ _ _ _
  refine AC.ret ?_
  refine inlret (ob' := [.fix 27 [.d (di .i64 a0.Kind), .d (di .i64 a0.Layout), .d (di .i64 a0.SRID), .d (eS1 a0.Flat), .d (eS2 a0.Ends), .d (eS3 a0.Endss), .d (eS0 a0.Kids)], .fix 27 [.d (di .i64 (0 : Int)), .d (di .i64 (0 : Int)), .d (di .i64 (0 : Int)), .d (.v (.slice none 0 0)), .d (.v (.slice none 0 0)), .d (.v (.slice none 0 0)), .d (.v (.slice none 0 0))], .fix 4 [.d (dbool false)], .dead, .fix 27 [.d (di .i64 a0.Kind), .d (di .i64 a0.Layout), .d (di .i64 a0.SRID), .d (eS1 a0.Flat), .d (eS2 a0.Ends), .d (eS3 a0.Endss), .d (eS0 a0.Kids)], .dead, .fix 103 [.d (di .i64 y319.geom3.geom1.geom0.layout), .d (di .i64 y319.geom3.geom1.geom0.stride), .any, .d (di .i64 a0.SRID), .d (eS3 y319.geom3.endss)], .dead, .dead, .dead, .frame fr327 [(2, .ptr 1 0), (3, .ptr 2 0)], .fix 27 [.d (di .i64 (0 : Int)), .d (di .i64 (0 : Int)), .d (di .i64 (0 : Int)), .d (.v (.slice none 0 0)), .d (.v (.slice none 0 0)), .d (.v (.slice none 0 0)), .d (.v (.slice none 0 0))], .dead, .fix 27 [.d (di .i64 (6 : Int)), .d (di .i64 (0 : Int)), .d (di .i64 a0.SRID), .d (.v (.slice none 0 0)), .d (.v (.slice none 0 0)), .d (.v (.slice none 0 0)), .d (.v (.slice none 0 0))], .dead, .dead, .dead, .dead]) (e' := [(2, .ptr 11 0), (3, .ptr 13 0), (70, .d (di .i64 y319.geom3.geom1.geom0.layout)), (73, .d (eS1 y331)), (76, .d (eS2 y334))]) (r := .d (eS3 y319.geom3.endss)) rfl rfl rfl ?_
  change AO _ _ _ _ _
  obtain ⟨y337, q338, h0⟩ := bind_elim h0
  refine AO.op rfl (AOp.callD rfl rfl (ltb rfl) rfl rfl (w_intss F y319.geom3.endss y337 q338) ?_)
  rintro _ rfl
  refine AO.op rfl (AOp.fieldAddr rfl rfl (ltb rfl) rfl fo27_1 ?_)
  refine AO.op rfl (AOp.store rfl rfl rfl rfl size3 rfl rfl rfl (leb rfl) ?_)
  refine AO.op rfl (AOp.fieldAddr rfl rfl (ltb rfl) rfl fo27_3 ?_)
  refine AO.op rfl (AOp.store rfl rfl rfl rfl size22 rfl rfl rfl (leb rfl) ?_)
  refine AO.op rfl (AOp.fieldAddr rfl rfl (ltb rfl) rfl fo27_4 ?_)
  refine AO.op rfl (AOp.store rfl rfl rfl rfl size23 rfl rfl rfl (leb rfl) ?_)
  refine AO.op rfl (AOp.fieldAddr rfl rfl (ltb rfl) rfl fo27_5 ?_)
  refine AO.op rfl (AOp.store rfl rfl rfl rfl size24 rfl rfl rfl (leb rfl) ?_)
  refine AO.objs (obs' := [.fix 27 [.d (di .i64 a0.Kind), .d (di .i64 a0.Layout), .d (di .i64 a0.SRID), .d (eS1 a0.Flat), .d (eS2 a0.Ends), .d (eS3 a0.Endss), .d (eS0 a0.Kids)], .fix 27 [.d (di .i64 (0 : Int)), .d (di .i64 (0 : Int)), .d (di .i64 (0 : Int)), .d (.v (.slice none 0 0)), .d (.v (.slice none 0 0)), .d (.v (.slice none 0 0)), .d (.v (.slice none 0 0))], .fix 4 [.d (dbool false)], .dead, .fix 27 [.d (di .i64 a0.Kind), .d (di .i64 a0.Layout), .d (di .i64 a0.SRID), .d (eS1 a0.Flat), .d (eS2 a0.Ends), .d (eS3 a0.Endss), .d (eS0 a0.Kids)], .dead, .fix 103 [.d (di .i64 y319.geom3.geom1.geom0.layout), .d (di .i64 y319.geom3.geom1.geom0.stride), .any, .d (di .i64 a0.SRID), .d (eS3 y319.geom3.endss)], .dead, .dead, .dead, .frame fr327 [(2, .ptr 1 0), (3, .ptr 2 0)], .fix 27 [.d (di .i64 (0 : Int)), .d (di .i64 (0 : Int)), .d (di .i64 (0 : Int)), .d (.v (.slice none 0 0)), .d (.v (.slice none 0 0)), .d (.v (.slice none 0 0)), .d (.v (.slice none 0 0))], .dead, .fix 27 [.d (di .i64 (6 : Int)), .d (di .i64 y319.geom3.geom1.geom0.layout), .d (di .i64 a0.SRID), .d (eS1 y331), .d (eS2 y334), .d (eS3 y337), .d (.v (.slice none 0 0))], .dead, .dead, .dead, .dead]) rfl ?_
  refine AO.nil ?_
  change AC _ _ _ _
  refine AC.seq ?_
  refine AC.region ?_
  refine AO.op rfl (AOp.loadN rfl rfl (ltb rfl) rfl agg27 size27 rfl (leb rfl) rfl ?_)
  refine AO.op rfl (AOp.store rfl rfl rfl rfl size27 rfl rfl rfl (leb rfl) ?_)
  refine AO.nil ?_
  change AC _ _ _ _
  refine AC.ret ?_
  refine inlret (ob' := [.fix 27 [.d (di .i64 a0.Kind), .d (di .i64 a0.Layout), .d (di .i64 a0.SRID), .d (eS1 a0.Flat), .d (eS2 a0.Ends), .d (eS3 a0.Endss), .d (eS0 a0.Kids)], .fix 27 [.d (di .i64 (0 : Int)), .d (di .i64 (0 : Int)), .d (di .i64 (0 : Int)), .d (.v (.slice none 0 0)), .d (.v (.slice none 0 0)), .d (.v (.slice none 0 0)), .d (.v (.slice none 0 0))], .fix 4 [.d (dbool false)], .dead, .fix 27 [.d (di .i64 a0.Kind), .d (di .i64 a0.Layout), .d (di .i64 a0.SRID), .d (eS1 a0.Flat), .d (eS2 a0.Ends), .d (eS3 a0.Endss), .d (eS0 a0.Kids)], .dead, .fix 103 [.d (di .i64 y319.geom3.geom1.geom0.layout), .d (di .i64 y319.geom3.geom1.geom0.stride), .any, .d (di .i64 a0.SRID), .d (eS3 y319.geom3.endss)], .dead, .dead, .dead, .dead, .fix 27 [.d (di .i64 (6 : Int)), .d (di .i64 y319.geom3.geom1.geom0.layout), .d (di .i64 a0.SRID), .d (eS1 y331), .d (eS2 y334), .d (eS3 y337), .d (.v (.slice none 0 0))], .dead, .fix 27 [.d (di .i64 (6 : Int)), .d (di .i64 y319.geom3.geom1.geom0.layout), .d (di .i64 a0.SRID), .d (eS1 y331), .d (eS2 y334), .d (eS3 y337), .d (.v (.slice none 0 0))], .dead, .dead, .dead, .dead]) (e' := [(2, .ptr 1 0), (3, .ptr 2 0)]) (r := .ag [.d (di .i64 (6 : Int)), .d (di .i64 y319.geom3.geom1.geom0.layout), .d (di .i64 a0.SRID), .d (eS1 y331), .d (eS2 y334), .d (eS3 y337), .d (.v (.slice none 0 0))]) rfl rfl rfl ?_
  change AO _ _ _ _ _
  refine AO.op rfl (AOp.store rfl rfl rfl rfl size27 rfl rfl rfl (leb rfl) ?_)
  refine AO.op rfl (AOp.store rfl rfl rfl rfl size4 rfl rfl rfl (leb rfl) ?_)
  refine AO.objs (obs' := [.fix 27 [.d (di .i64 a0.Kind), .d (di .i64 a0.Layout), .d (di .i64 a0.SRID), .d (eS1 a0.Flat), .d (eS2 a0.Ends), .d (eS3 a0.Endss), .d (eS0 a0.Kids)], .fix 27 [.d (di .i64 (6 : Int)), .d (di .i64 y319.geom3.geom1.geom0.layout), .d (di .i64 a0.SRID), .d (eS1 y331), .d (eS2 y334), .d (eS3 y337), .d (.v (.slice none 0 0))], .fix 4 [.d (dbool true)], .dead, .fix 27 [.d (di .i64 a0.Kind), .d (di .i64 a0.Layout), .d (di .i64 a0.SRID), .d (eS1 a0.Flat), .d (eS2 a0.Ends), .d (eS3 a0.Endss), .d (eS0 a0.Kids)], .dead, .fix 103 [.d (di .i64 y319.geom3.geom1.geom0.layout), .d (di .i64 y319.geom3.geom1.geom0.stride), .any, .d (di .i64 a0.SRID), .d (eS3 y319.geom3.endss)], .dead, .dead, .dead, .dead, .fix 27 [.d (di .i64 (6 : Int)), .d (di .i64 y319.geom3.geom1.geom0.layout), .d (di .i64 a0.SRID), .d (eS1 y331), .d (eS2 y334), .d (eS3 y337), .d (.v (.slice none 0 0))], .dead, .fix 27 [.d (di .i64 (6 : Int)), .d (di .i64 y319.geom3.geom1.geom0.layout), .d (di .i64 a0.SRID), .d (eS1 y331), .d (eS2 y334), .d (eS3 y337), .d (.v (.slice none 0 0))], .dead, .dead, .dead, .dead]) rfl ?_
  refine AO.nil ?_
  change AC _ _ _ _
  refine AC.subO 1 rfl (.cons (SVLe.refl _) (.cons (SVLe.refl _) (.cons (SVLe.refl _) (.cons (SVLe.refl _) (.cons (SVLe.refl _) (.cons (SVLe.refl _) (.cons (SVLe.nil 7) .nil))))))) ?_
  refine AC.ret ?_
  change RetQ _ _ _ .ret _
  obtain rfl := Option.some.inj h0
  refine retq rfl rfl
 exact absurd (hp6.symm.trans q316) (by decide)

set_option maxRecDepth 100000 in
set_option maxHeartbeats 4000000 in
/-- pub-orthodrome/impl.Reverse -/
theorem w_Reverse_c7 (F : Nat) (a0 : TImpl_Geom) (r0 : (TImpl_Geom × Bool)) (h0 : p_Reverse F a0 = some r0) (hp0 : (decide (a0.Kind = (1 : Int))) = false) (hp1 : (decide (a0.Kind = (2 : Int))) = false) (hp2 : (decide (a0.Kind = (8 : Int))) = false) (hp3 : (decide (a0.Kind = (3 : Int))) = false) (hp4 : (decide (a0.Kind = (4 : Int))) = false) (hp5 : (decide (a0.Kind = (5 : Int))) = false) (hp6 : (decide (a0.Kind = (6 : Int))) = false) (hp7 : (decide (a0.Kind = (7 : Int))) = true) : FnD Try.prog 14 [e_TImpl_Geom a0] (fun r => r = .tu [e_TImpl_Geom r0.1, dbool r0.2]) := by
 refine FnD.wrap (g := 31) (m := 2) (fun vs w h => idle31 vs w h) (by kernel_rfl) Try.func14 rfl Try.ntmps14 rfl (leb rfl) fun W ok => ?_
 unfold p_Reverse at h0
 refine AW.seq ?_
 refine AC.region ?_
 refine AO.op rfl (AOp.box rfl rfl (ltb rfl) rfl rfl ?_)
 refine AO.op rfl (AOp.alloc rfl rfl (ltb rfl) zero27 rfl ?_)
 refine AO.op rfl (AOp.alloc rfl rfl (ltb rfl) zero4 rfl ?_)
 refine AO.nil ?_
 refine ⟨rfl, ?_⟩
 refine AW.defer (caps := [.tmp 2, .tmp 3]) rfl rfl rfl (ltb rfl) rfl rfl rfl rfl (by kernel_rfl) rfl fun df => ?_
 refine AC.seq ?_
 refine AC.region ?_
 refine AO.op rfl (AOp.loadN rfl rfl (ltb rfl) rfl agg27 size27 rfl (leb rfl) rfl ?_)
 refine AO.op rfl (AOp.inl [2, 3] (by kernel_rfl) Try.func22 rfl Try.ntmps22 rfl rfl (ltb rfl) rfl (leb rfl) rfl ?_)
 intro fr1
 refine AC.seq ?_
 refine AC.region ?_
 refine AO.op rfl (AOp.box rfl rfl (ltb rfl) rfl rfl ?_)
 refine AO.op rfl (AOp.assign rfl rfl (ltb rfl) rfl ?_)
 refine AO.nil ?_
 change AC _ _ _ _
 refine AC.seq ?_
 refine AC.room ?_
 obtain ⟨y2, q3, h0⟩ := bind_elim h0
 refine AC.drawS [0, 1, 2, 3, 4] [4] [5, 6] (fun L => [.fix 27 [.d (di .i64 a0.Kind), .d (di .i64 a0.Layout), .d (di .i64 a0.SRID), .d (eS1 a0.Flat), .d (eS2 a0.Ends), .d (eS3 a0.Endss), .d (eS0 a0.Kids)], .fix 27 [.d (di .i64 (0 : Int)), .d (di .i64 (0 : Int)), .d (di .i64 (0 : Int)), .d (.v (.slice none 0 0)), .d (.v (.slice none 0 0)), .d (.v (.slice none 0 0)), .d (.v (.slice none 0 0))], .fix 4 [.d (dbool false)], .frame fr1 [(2, .ptr 1 0), (3, .ptr 2 0)], .fix 27 [.d (di .i64 a0.Kind), .d (di .i64 a0.Layout), .d (di .i64 a0.SRID), .d (eS1 a0.Flat), .d (eS2 a0.Ends), .d (eS3 a0.Endss), .d (eS0 a0.Kids)], bif L 4 then .grow 32 1 (List.map keS1 y2) else .dead]) [(4, SV.noO2 5 6)] mixed (by kernel_rfl) (fun L L' h => by simp only [h 4 (by decide)]) rfl ?_
 refine AS.op [1] [] [] [4] rfl rfl rfl (by kernel_rfl) (by kernel_rfl) rfl rfl (fun _ _ _ h => AOp.fieldAddr rfl rfl (ltb rfl) rfl fo27_1 h) (by kernel_rfl) ?_
 refine AS.op [8] [] [] [4] rfl rfl rfl (by kernel_rfl) (by kernel_rfl) rfl rfl (fun _ _ _ h => AOp.load1 rfl rfl (ltb rfl) rfl agg3 rfl rfl h) (by kernel_rfl) ?_
 refine AS.op [1] [] [4] [] rfl rfl rfl (by kernel_rfl) (by kernel_rfl) rfl rfl (fun _ _ _ h => AOp.fieldAddr rfl rfl (ltb rfl) rfl fo27_3 h) (by kernel_rfl) ?_
 refine AS.op [10] [] [4] [] rfl rfl rfl (by kernel_rfl) (by kernel_rfl) rfl rfl (fun _ _ _ h => AOp.load1 rfl rfl (ltb rfl) rfl agg22 rfl rfl h) (by kernel_rfl) ?_
 refine AS.mid [11] [] [4] [] rfl rfl rfl rfl (by kernel_rfl) (by kernel_rfl) rfl rfl (fun _ _ _ h => AOp.callNew rfl rfl (ltb rfl) rfl rfl (wn_floats a0.Flat y2 q3) (AO.sink 5 6 rfl rfl rfl (.cons rfl (.cons rfl (.cons rfl (.cons rfl (.cons rfl (.cons (noO2_cond rfl rfl) .nil)))))) rfl h)) (by kernel_rfl) rfl ?_
 refine AS.done ?_
 refine AO.objs (obs' := [.fix 27 [.d (di .i64 a0.Kind), .d (di .i64 a0.Layout), .d (di .i64 a0.SRID), .d (eS1 a0.Flat), .d (eS2 a0.Ends), .d (eS3 a0.Endss), .d (eS0 a0.Kids)], .fix 27 [.d (di .i64 (0 : Int)), .d (di .i64 (0 : Int)), .d (di .i64 (0 : Int)), .d (.v (.slice none 0 0)), .d (.v (.slice none 0 0)), .d (.v (.slice none 0 0)), .d (.v (.slice none 0 0))], .fix 4 [.d (dbool false)], .frame fr1 [(2, .ptr 1 0), (3, .ptr 2 0)], .fix 27 [.d (di .i64 a0.Kind), .d (di .i64 a0.Layout), .d (di .i64 a0.SRID), .d (eS1 a0.Flat), .d (eS2 a0.Ends), .d (eS3 a0.Endss), .d (eS0 a0.Kids)], .grow 32 1 (List.map keS1 y2)]) rfl ?_
 refine AO.op rfl (AOp.assign rfl rfl (ltb rfl) rfl ?_)
 refine AO.op rfl (AOp.assign rfl rfl (ltb rfl) rfl ?_)
 refine AO.objs (obs' := [.fix 27 [.d (di .i64 a0.Kind), .d (di .i64 a0.Layout), .d (di .i64 a0.SRID), .d (eS1 a0.Flat), .d (eS2 a0.Ends), .d (eS3 a0.Endss), .d (eS0 a0.Kids)], .fix 27 [.d (di .i64 (0 : Int)), .d (di .i64 (0 : Int)), .d (di .i64 (0 : Int)), .d (.v (.slice none 0 0)), .d (.v (.slice none 0 0)), .d (.v (.slice none 0 0)), .d (.v (.slice none 0 0))], .fix 4 [.d (dbool false)], .frame fr1 [(2, .ptr 1 0), (3, .ptr 2 0)], .fix 27 [.d (di .i64 a0.Kind), .d (di .i64 a0.Layout), .d (di .i64 a0.SRID), .d (eS1 a0.Flat), .d (eS2 a0.Ends), .d (eS3 a0.Endss), .d (eS0 a0.Kids)], .grow 32 1 (List.map keS1 y2)]) rfl ?_
 refine AO.nil ?_
 change AC _ _ _ _
 refine AC.seq ?_
 refine AC.seq ?_
 refine AC.region ?_
 refine AO.op rfl (AOp.fieldAddr rfl rfl (ltb rfl) rfl fo27_0 ?_)
 refine AO.op rfl (AOp.load1 rfl rfl (ltb rfl) rfl agg3 rfl rfl ?_)
 refine AO.nil ?_
 change AC _ _ _ _
 refine AC.block ?_
 refine AC.seq ?_
 refine AC.region ?_
 refine AO.op rfl (AOp.ieql rfl rfl (ltb rfl) rfl rfl ?_)
 refine AO.op rfl (AOp.assign rfl rfl (ltb rfl) rfl ?_)
 refine AO.nil ?_
 change AC _ _ _ _
 refine AC.cond rfl (fun q4 => ?_) (fun q4 => ?_)
 ·exact absurd (hp0.symm.trans q4) (by decide)
 replace h0 := cF h0 q4
 refine AC.seq ?_
 refine AC.region ?_
 refine AO.op rfl (AOp.ieql rfl rfl (ltb rfl) rfl rfl ?_)
 refine AO.op rfl (AOp.assign rfl rfl (ltb rfl) rfl ?_)
 refine AO.nil ?_
 change AC _ _ _ _
 refine AC.cond rfl (fun q5 => ?_) (fun q5 => ?_)
 ·exact absurd (hp1.symm.trans q5) (by decide)
 replace h0 := cF h0 q5
 refine AC.seq ?_
 refine AC.region ?_
 refine AO.op rfl (AOp.ieql rfl rfl (ltb rfl) rfl rfl ?_)
 refine AO.op rfl (AOp.assign rfl rfl (ltb rfl) rfl ?_)
 refine AO.nil ?_
 change AC _ _ _ _
 refine AC.cond rfl (fun q59 => ?_) (fun q59 => ?_)
 ·exact absurd (hp2.symm.trans q59) (by decide)
 replace h0 := cF h0 q59
 refine AC.seq ?_
 refine AC.region ?_
 refine AO.op rfl (AOp.ieql rfl rfl (ltb rfl) rfl rfl ?_)
 refine AO.op rfl (AOp.assign rfl rfl (ltb rfl) rfl ?_)
 refine AO.nil ?_
 change AC _ _ _ _
 refine AC.cond rfl (fun q113 => ?_) (fun q113 => ?_)
 ·exact absurd (hp3.symm.trans q113) (by decide)
 replace h0 := cF h0 q113
 refine AC.seq ?_
 refine AC.region ?_
 refine AO.op rfl (AOp.ieql rfl rfl (ltb rfl) rfl rfl ?_)
 refine AO.op rfl (AOp.assign rfl rfl (ltb rfl) rfl ?_)
 refine AO.nil ?_
 change AC _ _ _ _
 refine AC.cond rfl (fun q180 => ?_) (fun q180 => ?_)
 ·exact absurd (hp4.symm.trans q180) (by decide)
 replace h0 := cF h0 q180
 refine AC.seq ?_
 refine AC.region ?_
 refine AO.op rfl (AOp.ieql rfl rfl (ltb rfl) rfl rfl ?_)
 refine AO.op rfl (AOp.assign rfl rfl (ltb rfl) rfl ?_)
 refine AO.nil ?_
 change AC _ _ _ _
 refine AC.cond rfl (fun q249 => ?_) (fun q249 => ?_)
 ·exact absurd (hp5.symm.trans q249) (by decide)
 replace h0 := cF h0 q249
 refine AC.seq ?_
 refine AC.region ?_
 refine AO.op rfl (AOp.ieql rfl rfl (ltb rfl) rfl rfl ?_)
 refine AO.op rfl (AOp.assign rfl rfl (ltb rfl) rfl ?_)
 refine AO.nil ?_
 change AC _ _ _ _
 refine AC.cond rfl (fun q316 => ?_) (fun q316 => ?_)
 ·exact absurd (hp6.symm.trans q316) (by decide)
 replace h0 := cF h0 q316
 refine AC.seq ?_
 refine AC.region ?_
 refine AO.op rfl (AOp.ieql rfl rfl (ltb rfl) rfl rfl ?_)
 refine AO.op rfl (AOp.assign rfl rfl (ltb rfl) rfl ?_)
 refine AO.nil ?_
 change AC _ _ _ _
 refine AC.cond rfl (fun q399 => ?_) (fun q399 => ?_)
 ·replace h0 := cT h0 q399
  cases h0
 exact absurd (hp7.symm.trans q399) (by decide)

set_option maxRecDepth 100000 in
set_option maxHeartbeats 4000000 in
/-- pub-orthodrome/impl.Reverse -/
theorem w_Reverse_c8 (F : Nat) (a0 : TImpl_Geom) (r0 : (TImpl_Geom × Bool)) (h0 : p_Reverse F a0 = some r0) (hp0 : (decide (a0.Kind = (1 : Int))) = false) (hp1 : (decide (a0.Kind = (2 : Int))) = false) (hp2 : (decide (a0.Kind = (8 : Int))) = false) (hp3 : (decide (a0.Kind = (3 : Int))) = false) (hp4 : (decide (a0.Kind = (4 : Int))) = false) (hp5 : (decide (a0.Kind = (5 : Int))) = false) (hp6 : (decide (a0.Kind = (6 : Int))) = false) (hp7 : (decide (a0.Kind = (7 : Int))) = false) : FnD Try.prog 14 [e_TImpl_Geom a0] (fun r => r = .tu [e_TImpl_Geom r0.1, dbool r0.2]) := by
 refine FnD.wrap (g := 31) (m := 2) (fun vs w h => idle31 vs w h) (by kernel_rfl) Try.func14 rfl Try.ntmps14 rfl (leb rfl) fun W ok => ?_
 unfold p_Reverse at h0
 refine AW.seq ?_
 refine AC.region ?_
 refine AO.op rfl (AOp.box rfl rfl (ltb rfl) rfl rfl ?_)
 refine AO.op rfl (AOp.alloc rfl rfl (ltb rfl) zero27 rfl ?_)
 refine AO.op rfl (AOp.alloc rfl rfl (ltb rfl) zero4 rfl ?_)
 refine AO.nil ?_
 refine ⟨rfl, ?_⟩
 refine AW.defer (caps := [.tmp 2, .tmp 3]) rfl rfl rfl (ltb rfl) rfl rfl rfl rfl (by kernel_rfl) rfl fun df => ?_
 refine AC.seq ?_
 refine AC.region ?_
 refine AO.op rfl (AOp.loadN rfl rfl (ltb rfl) rfl agg27 size27 rfl (leb rfl) rfl ?_)
 refine AO.op rfl (AOp.inl [2, 3] (by kernel_rfl) Try.func22 rfl Try.ntmps22 rfl rfl (ltb rfl) rfl (leb rfl) rfl ?_)
 intro fr1
 refine AC.seq ?_
 refine AC.region ?_
 refine AO.op rfl (AOp.box rfl rfl (ltb rfl) rfl rfl ?_)
 refine AO.op rfl (AOp.assign rfl rfl (ltb rfl) rfl ?_)
 refine AO.nil ?_
 change AC _ _ _ _
 refine AC.seq ?_
 refine AC.room ?_
 obtain ⟨y2, q3, h0⟩ := bind_elim h0
 refine AC.drawS [0, 1, 2, 3, 4] [4] [5, 6] (fun L => [.fix 27 [.d (di .i64 a0.Kind), .d (di .i64 a0.Layout), .d (di .i64 a0.SRID), .d (eS1 a0.Flat), .d (eS2 a0.Ends), .d (eS3 a0.Endss), .d (eS0 a0.Kids)], .fix 27 [.d (di .i64 (0 : Int)), .d (di .i64 (0 : Int)), .d (di .i64 (0 : Int)), .d (.v (.slice none 0 0)), .d (.v (.slice none 0 0)), .d (.v (.slice none 0 0)), .d (.v (.slice none 0 0))], .fix 4 [.d (dbool false)], .frame fr1 [(2, .ptr 1 0), (3, .ptr 2 0)], .fix 27 [.d (di .i64 a0.Kind), .d (di .i64 a0.Layout), .d (di .i64 a0.SRID), .d (eS1 a0.Flat), .d (eS2 a0.Ends), .d (eS3 a0.Endss), .d (eS0 a0.Kids)], bif L 4 then .grow 32 1 (List.map keS1 y2) else .dead]) [(4, SV.noO2 5 6)] mixed (by kernel_rfl) (fun L L' h => by simp only [h 4 (by decide)]) rfl ?_
 refine AS.op [1] [] [] [4] rfl rfl rfl (by kernel_rfl) (by kernel_rfl) rfl rfl (fun _ _ _ h => AOp.fieldAddr rfl rfl (ltb rfl) rfl fo27_1 h) (by kernel_rfl) ?_
 refine AS.op [8] [] [] [4] rfl rfl rfl (by kernel_rfl) (by kernel_rfl) rfl rfl (fun _ _ _ h => AOp.load1 rfl rfl (ltb rfl) rfl agg3 rfl rfl h) (by kernel_rfl) ?_
 refine AS.op [1] [] [4] [] rfl rfl rfl (by kernel_rfl) (by kernel_rfl) rfl rfl (fun _ _ _ h => AOp.fieldAddr rfl rfl (ltb rfl) rfl fo27_3 h) (by kernel_rfl) ?_
 refine AS.op [10] [] [4] [] rfl rfl rfl (by kernel_rfl) (by kernel_rfl) rfl rfl (fun _ _ _ h => AOp.load1 rfl rfl (ltb rfl) rfl agg22 rfl rfl h) (by kernel_rfl) ?_
 refine AS.mid [11] [] [4] [] rfl rfl rfl rfl (by kernel_rfl) (by kernel_rfl) rfl rfl (fun _ _ _ h => AOp.callNew rfl rfl (ltb rfl) rfl rfl (wn_floats a0.Flat y2 q3) (AO.sink 5 6 rfl rfl rfl (.cons rfl (.cons rfl (.cons rfl (.cons rfl (.cons rfl (.cons (noO2_cond rfl rfl) .nil)))))) rfl h)) (by kernel_rfl) rfl ?_
 refine AS.done ?_
 refine AO.objs (obs' := [.fix 27 [.d (di .i64 a0.Kind), .d (di .i64 a0.Layout), .d (di .i64 a0.SRID), .d (eS1 a0.Flat), .d (eS2 a0.Ends), .d (eS3 a0.Endss), .d (eS0 a0.Kids)], .fix 27 [.d (di .i64 (0 : Int)), .d (di .i64 (0 : Int)), .d (di .i64 (0 : Int)), .d (.v (.slice none 0 0)), .d (.v (.slice none 0 0)), .d (.v (.slice none 0 0)), .d (.v (.slice none 0 0))], .fix 4 [.d (dbool false)], .frame fr1 [(2, .ptr 1 0), (3, .ptr 2 0)], .fix 27 [.d (di .i64 a0.Kind), .d (di .i64 a0.Layout), .d (di .i64 a0.SRID), .d (eS1 a0.Flat), .d (eS2 a0.Ends), .d (eS3 a0.Endss), .d (eS0 a0.Kids)], .grow 32 1 (List.map keS1 y2)]) rfl ?_
 refine AO.op rfl (AOp.assign rfl rfl (ltb rfl) rfl ?_)
 refine AO.op rfl (AOp.assign rfl rfl (ltb rfl) rfl ?_)
 refine AO.objs (obs' := [.fix 27 [.d (di .i64 a0.Kind), .d (di .i64 a0.Layout), .d (di .i64 a0.SRID), .d (eS1 a0.Flat), .d (eS2 a0.Ends), .d (eS3 a0.Endss), .d (eS0 a0.Kids)], .fix 27 [.d (di .i64 (0 : Int)), .d (di .i64 (0 : Int)), .d (di .i64 (0 : Int)), .d (.v (.slice none 0 0)), .d (.v (.slice none 0 0)), .d (.v (.slice none 0 0)), .d (.v (.slice none 0 0))], .fix 4 [.d (dbool false)], .frame fr1 [(2, .ptr 1 0), (3, .ptr 2 0)], .fix 27 [.d (di .i64 a0.Kind), .d (di .i64 a0.Layout), .d (di .i64 a0.SRID), .d (eS1 a0.Flat), .d (eS2 a0.Ends), .d (eS3 a0.Endss), .d (eS0 a0.Kids)], .grow 32 1 (List.map keS1 y2)]) rfl ?_
 refine AO.nil ?_
 change AC _ _ _ _
 refine AC.seq ?_
 refine AC.seq ?_
 refine AC.region ?_
 refine AO.op rfl (AOp.fieldAddr rfl rfl (ltb rfl) rfl fo27_0 ?_)
 refine AO.op rfl (AOp.load1 rfl rfl (ltb rfl) rfl agg3 rfl rfl ?_)
 refine AO.nil ?_
 change AC _ _ _ _
 refine AC.block ?_
 refine AC.seq ?_
 refine AC.region ?_
 refine AO.op rfl (AOp.ieql rfl rfl (ltb rfl) rfl rfl ?_)
 refine AO.op rfl (AOp.assign rfl rfl (ltb rfl) rfl ?_)
 refine AO.nil ?_
 change AC _ _ _ _
 refine AC.cond rfl (fun q4 => ?_) (fun q4 => ?_)
 ·exact absurd (hp0.symm.trans q4) (by decide)
 replace h0 := cF h0 q4
 refine AC.seq ?_
 refine AC.region ?_
 refine AO.op rfl (AOp.ieql rfl rfl (ltb rfl) rfl rfl ?_)
 refine AO.op rfl (AOp.assign rfl rfl (ltb rfl) rfl ?_)
 refine AO.nil ?_
 change AC _ _ _ _
 refine AC.cond rfl (fun q5 => ?_) (fun q5 => ?_)
 ·exact absurd (hp1.symm.trans q5) (by decide)
 replace h0 := cF h0 q5
 refine AC.seq ?_
 refine AC.region ?_
 refine AO.op rfl (AOp.ieql rfl rfl (ltb rfl) rfl rfl ?_)
 refine AO.op rfl (AOp.assign rfl rfl (ltb rfl) rfl ?_)
 refine AO.nil ?_
 change AC _ _ _ _
 refine AC.cond rfl (fun q59 => ?_) (fun q59 => ?_)
 ·exact absurd (hp2.symm.trans q59) (by decide)
 replace h0 := cF h0 q59
 refine AC.seq ?_
 refine AC.region ?_
 refine AO.op rfl (AOp.ieql rfl rfl (ltb rfl) rfl rfl ?_)
 refine AO.op rfl (AOp.assign rfl rfl (ltb rfl) rfl ?_)
 refine AO.nil ?_
 change AC _ _ _ _
 refine AC.cond rfl (fun q113 => ?_) (fun q113 => ?_)
 ·exact absurd (hp3.symm.trans q113) (by decide)
 replace h0 := cF h0 q113
 refine AC.seq ?_
 refine AC.region ?_
 refine AO.op rfl (AOp.ieql rfl rfl (ltb rfl) rfl rfl ?_)
 refine AO.op rfl (AOp.assign rfl rfl (ltb rfl) rfl ?_)
 refine AO.nil ?_
 change AC _ _ _ _
 refine AC.cond rfl (fun q180 => ?_) (fun q180 => ?_)
 ·exact absurd (hp4.symm.trans q180) (by decide)
 replace h0 := cF h0 q180
 refine AC.seq ?_
 refine AC.region ?_
 refine AO.op rfl (AOp.ieql rfl rfl (ltb rfl) rfl rfl ?_)
 refine AO.op rfl (AOp.assign rfl rfl (ltb rfl) rfl ?_)
 refine AO.nil ?_
 change AC _ _ _ _
 refine AC.cond rfl (fun q249 => ?_) (fun q249 => ?_)
 ·exact absurd (hp5.symm.trans q249) (by decide)
 replace h0 := cF h0 q249
 refine AC.seq ?_
 refine AC.region ?_
 refine AO.op rfl (AOp.ieql rfl rfl (ltb rfl) rfl rfl ?_)
 refine AO.op rfl (AOp.assign rfl rfl (ltb rfl) rfl ?_)
 refine AO.nil ?_
 change AC _ _ _ _
 refine AC.cond rfl (fun q316 => ?_) (fun q316 => ?_)
 ·exact absurd (hp6.symm.trans q316) (by decide)
 replace h0 := cF h0 q316
 refine AC.seq ?_
 refine AC.region ?_
 refine AO.op rfl (AOp.ieql rfl rfl (ltb rfl) rfl rfl ?_)
 refine AO.op rfl (AOp.assign rfl rfl (ltb rfl) rfl ?_)
 refine AO.nil ?_
 change AC _ _ _ _
 refine AC.cond rfl (fun q399 => ?_) (fun q399 => ?_)
 ·exact absurd (hp7.symm.trans q399) (by decide)
 replace h0 := cF h0 q399
 cases h0

set_option maxRecDepth 100000 in
set_option maxHeartbeats 4000000 in
/-- pub-orthodrome/impl.Reverse -/
theorem w_Reverse (F : Nat) (a0 : TImpl_Geom) (r0 : (TImpl_Geom × Bool)) (h0 : p_Reverse F a0 = some r0) : FnD Try.prog 14 [e_TImpl_Geom a0] (fun r => r = .tu [e_TImpl_Geom r0.1, dbool r0.2]) := by
 rcases Bool.eq_false_or_eq_true (decide (a0.Kind = (1 : Int))) with hp0 | hp0
 ·exact w_Reverse_c0 F a0 r0 h0 hp0
 rcases Bool.eq_false_or_eq_true (decide (a0.Kind = (2 : Int))) with hp1 | hp1
 ·exact w_Reverse_c1 F a0 r0 h0 hp0 hp1
 rcases Bool.eq_false_or_eq_true (decide (a0.Kind = (8 : Int))) with hp2 | hp2
 ·exact w_Reverse_c2 F a0 r0 h0 hp0 hp1 hp2
 rcases Bool.eq_false_or_eq_true (decide (a0.Kind = (3 : Int))) with hp3 | hp3
 ·exact w_Reverse_c3 F a0 r0 h0 hp0 hp1 hp2 hp3
 rcases Bool.eq_false_or_eq_true (decide (a0.Kind = (4 : Int))) with hp4 | hp4
 ·exact w_Reverse_c4 F a0 r0 h0 hp0 hp1 hp2 hp3 hp4
 rcases Bool.eq_false_or_eq_true (decide (a0.Kind = (5 : Int))) with hp5 | hp5
 ·exact w_Reverse_c5 F a0 r0 h0 hp0 hp1 hp2 hp3 hp4 hp5
 rcases Bool.eq_false_or_eq_true (decide (a0.Kind = (6 : Int))) with hp6 | hp6
 ·exact w_Reverse_c6 F a0 r0 h0 hp0 hp1 hp2 hp3 hp4 hp5 hp6
 rcases Bool.eq_false_or_eq_true (decide (a0.Kind = (7 : Int))) with hp7 | hp7
 ·exact w_Reverse_c7 F a0 r0 h0 hp0 hp1 hp2 hp3 hp4 hp5 hp6 hp7
 exact w_Reverse_c8 F a0 r0 h0 hp0 hp1 hp2 hp3 hp4 hp5 hp6 hp7

set_option maxRecDepth 100000 in
set_option maxHeartbeats 4000000 in
/-- pub-orthodrome/spec.Backward -/
theorem w_Backward (F : Nat) (a0 : TImpl_Geom) (r0 : TImpl_Geom) (h0 : p_Backward F a0 = some r0) : FnD Try.prog 16 [e_TImpl_Geom a0] (fun r => r = e_TImpl_Geom r0) := by
 refine FnD.of (by kernel_rfl) Try.func16 rfl Try.ntmps16 rfl (leb rfl) fun W ok => ?_
 unfold p_Backward at h0
 refine AC.seq ?_
 refine AC.region ?_
 refine AO.op rfl (AOp.box rfl rfl (ltb rfl) rfl rfl ?_)
 refine AO.op rfl (AOp.alloc rfl rfl (ltb rfl) zero27 rfl ?_)
 refine AO.nil ?_
 change AC _ _ _ _
 refine AC.seq ?_
 refine AC.region ?_
 refine AO.op rfl (AOp.fieldAddr rfl rfl (ltb rfl) rfl fo27_0 ?_)
 refine AO.op rfl (AOp.load1 rfl rfl (ltb rfl) rfl agg3 rfl rfl ?_)
 refine AO.op rfl (AOp.fieldAddr rfl rfl (ltb rfl) rfl fo27_1 ?_)
 refine AO.op rfl (AOp.load1 rfl rfl (ltb rfl) rfl agg3 rfl rfl ?_)
 refine AO.op rfl (AOp.fieldAddr rfl rfl (ltb rfl) rfl fo27_2 ?_)
 refine AO.op rfl (AOp.load1 rfl rfl (ltb rfl) rfl agg3 rfl rfl ?_)
 refine AO.op rfl (AOp.fieldAddr rfl rfl (ltb rfl) rfl fo27_4 ?_)
 refine AO.op rfl (AOp.load1 rfl rfl (ltb rfl) rfl agg23 rfl rfl ?_)
 refine AO.op rfl (AOp.fieldAddr rfl rfl (ltb rfl) rfl fo27_5 ?_)
 refine AO.op rfl (AOp.load1 rfl rfl (ltb rfl) rfl agg24 rfl rfl ?_)
 refine AO.op rfl (AOp.build rfl rfl (ltb rfl) zero27 rfl places27 rfl rfl ?_)
 refine AO.op rfl (AOp.alloc rfl rfl (ltb rfl) zero27 rfl ?_)
 refine AO.op rfl (AOp.store rfl rfl rfl rfl size27 rfl rfl rfl (leb rfl) ?_)
 refine AO.nil ?_
 change AC _ _ _ _
 refine AC.seq ?_
 refine AC.region ?_
 refine AO.op rfl (AOp.buildOwn rfl rfl (ltb rfl) el23 zero3 rfl (leb rfl) rfl rfl rfl rfl ?_)
 refine AO.op rfl (AOp.fieldAddr rfl rfl (ltb rfl) rfl fo27_4 ?_)
 refine AO.op rfl (AOp.load1 rfl rfl (ltb rfl) rfl agg23 rfl rfl ?_)
 obtain ⟨q1, h0⟩ := need_elim h0
 refine AO.op rfl (AOp.appendOwn' (p := 3) (n := 0) (m := a0.Ends.length) (news := (List.map keS2 a0.Ends)) rfl rfl (ltb rfl) rfl rfl el23 info3 rfl (by decide) rfl rfl (len1 _ _) (one1 _ (fun _ => rfl) _) q1 (by decide) rfl rfl rfl ?_)
 refine AO.op rfl (AOp.assign rfl rfl (ltb rfl) rfl ?_)
 refine AO.nil ?_
 change AC _ _ _ _
 refine AC.seq ?_
 refine AC.seq ?_
 refine AC.region ?_
 refine AO.op rfl (AOp.fieldAddr rfl rfl (ltb rfl) rfl fo27_5 ?_)
 refine AO.op rfl (AOp.load1 rfl rfl (ltb rfl) rfl agg24 rfl rfl ?_)
 refine AO.op rfl (AOp.lenDs (n := a0.Endss.length) (cells := (List.map keS3 a0.Endss)) rfl rfl (ltb rfl) rfl el24 (by decide) (len1 _ _) ?_)
 refine AO.op rfl (AOp.move rfl rfl (ltb rfl) rfl ?_)
 refine AO.nil ?_
 change AC _ _ _ _
 obtain ⟨o2, l3, h0⟩ := bind_elim h0
 refine AC.joinE (V := (List Int)) [1, 2, 3] [4] 4 (fun g4 => [(4, .own 3)]) (fun g4 => [.fix 27 [.d (di .i64 a0.Kind), .d (di .i64 a0.Layout), .d (di .i64 a0.SRID), .d (eS1 a0.Flat), .d (eS2 a0.Ends), .d (eS3 a0.Endss), .d (eS0 a0.Kids)], .fix 27 [.d (di .i64 (0 : Int)), .d (di .i64 (0 : Int)), .d (di .i64 (0 : Int)), .d (.v (.slice none 0 0)), .d (.v (.slice none 0 0)), .d (.v (.slice none 0 0)), .d (.v (.slice none 0 0))], .fix 27 [.d (di .i64 a0.Kind), .d (di .i64 a0.Layout), .d (di .i64 a0.SRID), .d (.v (.slice none 0 0)), .d (eS2 a0.Ends), .d (eS3 a0.Endss), .d (.v (.slice none 0 0))], .grow 3 1 (List.map keS2 g4)]) (fun g4 => (p_Backward_k1 a0 F) g4 = some r0) rfl ?_ ?_
 ·refine AC.block ?_
  refine AC.loopP (V := (Int × (List Int))) (p_Backward_l7 a0) o2 [1, 2, 3, 28, 29] [4, 30] 4 (fun g33 => [(4, .own 3), (30, .d (di .i64 g33.1))]) (fun g33 => [.fix 27 [.d (di .i64 a0.Kind), .d (di .i64 a0.Layout), .d (di .i64 a0.SRID), .d (eS1 a0.Flat), .d (eS2 a0.Ends), .d (eS3 a0.Endss), .d (eS0 a0.Kids)], .fix 27 [.d (di .i64 (0 : Int)), .d (di .i64 (0 : Int)), .d (di .i64 (0 : Int)), .d (.v (.slice none 0 0)), .d (.v (.slice none 0 0)), .d (.v (.slice none 0 0)), .d (.v (.slice none 0 0))], .fix 27 [.d (di .i64 a0.Kind), .d (di .i64 a0.Layout), .d (di .i64 a0.SRID), .d (.v (.slice none 0 0)), .d (eS2 a0.Ends), .d (eS3 a0.Endss), .d (.v (.slice none 0 0))], .grow 3 1 (List.map keS2 g33.2)]) F ((0 : Int), a0.Ends) l3 rfl rfl (LeL.refl _) rfl rfl ?_
  intro n35 g33 h1
  unfold p_Backward_l7 at h1
  refine AC.seq ?_
  refine AC.region ?_
  refine AO.op rfl (AOp.ilss rfl rfl (ltb rfl) rfl rfl ?_)
  refine AO.nil ?_
  change AC _ _ _ _
  refine AC.seq ?_
  refine AC.cond rfl (fun q36 => ?_) (fun q36 => ?_)
  ·replace h1 := cT h1 q36
   refine AC.skip ?_
   change AC _ _ _ _
   refine AC.seq ?_
   refine AC.block ?_
   refine AC.seq ?_
   refine AC.region ?_
   obtain ⟨x37, q38, h1⟩ := idx_elim h1
   refine AO.op rfl (AOp.indexDs (cells := (List.map keS3 a0.Endss)) rfl rfl (ltb rfl) rfl rfl el24 (by decide) q38.1 (lt1 q38.2) ?_)
   refine AO.op rfl (AOp.loadEp rfl rfl (ltb rfl) rfl agg23 (at1 q38.2) ?_)
   refine AO.op rfl (AOp.assign rfl rfl (ltb rfl) rfl ?_)
   refine AO.nil ?_
   change AC _ _ _ _
   refine AC.region ?_
   refine AO.op rfl (AOp.move rfl rfl (ltb rfl) rfl ?_)
   refine AO.op rfl (AOp.move rfl rfl (ltb rfl) rfl ?_)
   obtain ⟨q39, h1⟩ := need_elim h1
   refine AO.op rfl (AOp.appendOwn' (p := 3) (n := g33.2.length) (m := x37.length) (news := (List.map keS2 x37)) rfl rfl (ltb rfl) rfl rfl el23 info3 rfl (by decide) rfl (len1 _ _) (len1 _ _) (one1 _ (fun _ => rfl) _) q39 (by decide) rfl rfl (cat1 _ _ _) ?_)
   refine AO.op rfl (AOp.assign rfl rfl (ltb rfl) rfl ?_)
   refine AO.nil ?_
   change AC _ _ _ _
   refine AC.region ?_
   obtain ⟨q40, h1⟩ := need_elim h1
   refine AO.op rfl (AOp.iadd rfl rfl (ltb rfl) rfl rfl rfl q40.1 q40.2 ?_)
   refine AO.op rfl (AOp.move rfl rfl (ltb rfl) rfl ?_)
   refine AO.nil ?_
   exact ⟨((g33.1 + (1 : Int)), (g33.2 ++ x37)), _, rfl, (LeL.refl _), rfl, rfl, h1⟩
  replace h1 := cF h1 q36
  refine AC.exit ?_
  obtain rfl := Option.some.inj h1
  exact ⟨g33.2, _, rfl, (LeL.refl _), rfl, rfl, aftL h0⟩
 intro g4 h0
 unfold p_Backward_k1 at h0
 change AC _ _ _ _
 refine AC.freezeG 3 rfl rfl rfl ?_
 refine AC.joinP (V := (List Int)) [1, 2, 3] [4] 4 (fun g5 => [(4, .d (eS2 g5))]) (fun g5 => [.fix 27 [.d (di .i64 a0.Kind), .d (di .i64 a0.Layout), .d (di .i64 a0.SRID), .d (eS1 a0.Flat), .d (eS2 a0.Ends), .d (eS3 a0.Endss), .d (eS0 a0.Kids)], .fix 27 [.d (di .i64 (0 : Int)), .d (di .i64 (0 : Int)), .d (di .i64 (0 : Int)), .d (.v (.slice none 0 0)), .d (.v (.slice none 0 0)), .d (.v (.slice none 0 0)), .d (.v (.slice none 0 0))], .fix 27 [.d (di .i64 a0.Kind), .d (di .i64 a0.Layout), .d (di .i64 a0.SRID), .d (.v (.slice none 0 0)), .d (eS2 a0.Ends), .d (eS3 a0.Endss), .d (.v (.slice none 0 0))], .dead]) (fun g5 => (p_Backward_k2 a0 F) g5 = some r0) rfl ?_ ?_
 ·refine AC.seq ?_
  refine AC.region ?_
  refine AO.op rfl (AOp.fieldAddr rfl rfl (ltb rfl) rfl fo27_0 ?_)
  refine AO.op rfl (AOp.load1 rfl rfl (ltb rfl) rfl agg3 rfl rfl ?_)
  refine AO.op rfl (AOp.ieql rfl rfl (ltb rfl) rfl rfl ?_)
  refine AO.op rfl (AOp.move rfl rfl (ltb rfl) rfl ?_)
  refine AO.dec (decide (a0.Kind = (1 : Int))) (fun q30 => ?_) (fun q30 => ?_)
  ·replace h0 := cT h0 q30
   refine AO.guardN rfl rfl rfl (ltb rfl) rfl q30 ?_
   refine AO.guardN rfl rfl rfl (ltb rfl) rfl q30 ?_
   refine AO.guardN rfl rfl rfl (ltb rfl) rfl q30 ?_
   refine AO.op rfl (AOp.pick rfl rfl (ltb rfl) rfl q30 rfl ?_)
   refine AO.op rfl (AOp.move rfl rfl (ltb rfl) rfl ?_)
   refine AO.guardN rfl rfl rfl (ltb rfl) rfl rfl ?_
   refine AO.guardN rfl rfl rfl (ltb rfl) rfl rfl ?_
   refine AO.guardN rfl rfl rfl (ltb rfl) rfl rfl ?_
   refine AO.op rfl (AOp.pick rfl rfl (ltb rfl) rfl rfl rfl ?_)
   refine AO.nil ?_
   change AC _ _ _ _
   refine AC.condT rfl rfl ?_
   refine AC.region ?_
   refine AO.op rfl (AOp.fieldAddr rfl rfl (ltb rfl) rfl fo27_3 ?_)
   refine AO.op rfl (AOp.load1 rfl rfl (ltb rfl) rfl agg22 rfl rfl ?_)
   refine AO.op rfl (AOp.lenDs (n := a0.Flat.length) (cells := (List.map keS1 a0.Flat)) rfl rfl (ltb rfl) rfl el22 (by decide) (len1 _ _) ?_)
   refine AO.op rfl (AOp.buildSliceD rfl rfl (ltb rfl) el23 zero3 rfl (leb rfl) rfl rfl rfl rfl ?_)
   refine AO.op rfl (AOp.assign rfl rfl (ltb rfl) rfl ?_)
   refine AO.nil ?_
   exact ⟨[((a0.Flat.length : Nat) : Int)], _, rfl, (LeL.refl _), rfl, rfl, h0⟩
  replace h0 := cF h0 q30
  refine AO.guardY rfl rfl rfl q30 (AOp.fieldAddr rfl rfl (ltb rfl) rfl fo27_0 ?_)
  refine AO.guardY rfl rfl rfl q30 (AOp.load1 rfl rfl (ltb rfl) rfl agg3 rfl rfl ?_)
  refine AO.guardY rfl rfl rfl q30 (AOp.ieql rfl rfl (ltb rfl) rfl rfl ?_)
  refine AO.op rfl (AOp.pickN rfl rfl (ltb rfl) rfl q30 rfl ?_)
  refine AO.op rfl (AOp.move rfl rfl (ltb rfl) rfl ?_)
  refine AO.dec (decide (a0.Kind = (2 : Int))) (fun q31 => ?_) (fun q31 => ?_)
  ·replace h0 := cT h0 q31
   refine AO.guardN rfl rfl rfl (ltb rfl) rfl q31 ?_
   refine AO.guardN rfl rfl rfl (ltb rfl) rfl q31 ?_
   refine AO.guardN rfl rfl rfl (ltb rfl) rfl q31 ?_
   refine AO.op rfl (AOp.pick rfl rfl (ltb rfl) rfl q31 rfl ?_)
   refine AO.nil ?_
   change AC _ _ _ _
   refine AC.condT rfl rfl ?_
   refine AC.region ?_
   refine AO.op rfl (AOp.fieldAddr rfl rfl (ltb rfl) rfl fo27_3 ?_)
   refine AO.op rfl (AOp.load1 rfl rfl (ltb rfl) rfl agg22 rfl rfl ?_)
   refine AO.op rfl (AOp.lenDs (n := a0.Flat.length) (cells := (List.map keS1 a0.Flat)) rfl rfl (ltb rfl) rfl el22 (by decide) (len1 _ _) ?_)
   refine AO.op rfl (AOp.buildSliceD rfl rfl (ltb rfl) el23 zero3 rfl (leb rfl) rfl rfl rfl rfl ?_)
   refine AO.op rfl (AOp.assign rfl rfl (ltb rfl) rfl ?_)
   refine AO.nil ?_
   exact ⟨[((a0.Flat.length : Nat) : Int)], _, rfl, (LeL.refl _), rfl, rfl, h0⟩
  replace h0 := cF h0 q31
  refine AO.guardY rfl rfl rfl q31 (AOp.fieldAddr rfl rfl (ltb rfl) rfl fo27_0 ?_)
  refine AO.guardY rfl rfl rfl q31 (AOp.load1 rfl rfl (ltb rfl) rfl agg3 rfl rfl ?_)
  refine AO.guardY rfl rfl rfl q31 (AOp.ieql rfl rfl (ltb rfl) rfl rfl ?_)
  refine AO.op rfl (AOp.pickN rfl rfl (ltb rfl) rfl q31 rfl ?_)
  refine AO.nil ?_
  change AC _ _ _ _
  refine AC.cond rfl (fun q32 => ?_) (fun q32 => ?_)
  ·replace h0 := cT h0 q32
   refine AC.region ?_
   refine AO.op rfl (AOp.fieldAddr rfl rfl (ltb rfl) rfl fo27_3 ?_)
   refine AO.op rfl (AOp.load1 rfl rfl (ltb rfl) rfl agg22 rfl rfl ?_)
   refine AO.op rfl (AOp.lenDs (n := a0.Flat.length) (cells := (List.map keS1 a0.Flat)) rfl rfl (ltb rfl) rfl el22 (by decide) (len1 _ _) ?_)
   refine AO.op rfl (AOp.buildSliceD rfl rfl (ltb rfl) el23 zero3 rfl (leb rfl) rfl rfl rfl rfl ?_)
   refine AO.op rfl (AOp.assign rfl rfl (ltb rfl) rfl ?_)
   refine AO.nil ?_
   exact ⟨[((a0.Flat.length : Nat) : Int)], _, rfl, (LeL.refl _), rfl, rfl, h0⟩
  replace h0 := cF h0 q32
  refine AC.skip ?_
  exact ⟨g4, _, rfl, (LeL.refl _), rfl, rfl, h0⟩
 intro g5 h0
 unfold p_Backward_k2 at h0
 refine AC.seq ?_
 refine AC.region ?_
 refine AO.op rfl (AOp.fieldAddr rfl rfl (ltb rfl) rfl fo27_1 ?_)
 refine AO.op rfl (AOp.load1 rfl rfl (ltb rfl) rfl agg3 rfl rfl ?_)
 obtain ⟨y6, q7, h0⟩ := bind_elim h0
 refine AO.op rfl (AOp.callD rfl rfl (ltb rfl) rfl rfl (w_Stride a0.Layout y6 q7) ?_)
 rintro _ rfl
 refine AO.op rfl (AOp.assign rfl rfl (ltb rfl) rfl ?_)
 refine AO.op rfl (AOp.assign rfl rfl (ltb rfl) rfl ?_)
 refine AO.nil ?_
 change AC _ _ _ _
 refine AC.seq ?_
 refine AC.seq ?_
 refine AC.region ?_
 refine AO.op rfl (AOp.move rfl rfl (ltb rfl) rfl ?_)
 refine AO.op rfl (AOp.lenDs (n := g5.length) (cells := (List.map keS2 g5)) rfl rfl (ltb rfl) rfl el23 (by decide) (len1 _ _) ?_)
 refine AO.op rfl (AOp.move rfl rfl (ltb rfl) rfl ?_)
 refine AO.nil ?_
 change AC _ _ _ _
 refine AC.adoptO 2 3 32 1 rfl rfl ?_
 obtain ⟨o8, l9, h0⟩ := bind_elim h0
 refine AC.joinE (V := (List Nat)) [2, 3] [] 5 (fun g10 => []) (fun g10 => [.fix 27 [.d (di .i64 a0.Kind), .d (di .i64 a0.Layout), .d (di .i64 a0.SRID), .d (eS1 a0.Flat), .d (eS2 a0.Ends), .d (eS3 a0.Endss), .d (eS0 a0.Kids)], .fix 27 [.d (di .i64 (0 : Int)), .d (di .i64 (0 : Int)), .d (di .i64 (0 : Int)), .d (.v (.slice none 0 0)), .d (.v (.slice none 0 0)), .d (.v (.slice none 0 0)), .d (.v (.slice none 0 0))], .fix 27 [.d (di .i64 a0.Kind), .d (di .i64 a0.Layout), .d (di .i64 a0.SRID), .own 4, .d (eS2 a0.Ends), .d (eS3 a0.Endss), .d (.v (.slice none 0 0))], .dead, .grow 32 1 (List.map keS1 g10)]) (fun g10 => (p_Backward_k3 a0) g10 = some r0) rfl ?_ ?_
 ·refine AC.block ?_
  refine AC.loopP (V := (Int × Int × (List Nat))) (p_Backward_l4 a0 F g5 y6) o8 [1, 2, 3, 7, 58, 59] [8, 60] 5 (fun g11 => [(8, .d (di .i64 g11.1)), (60, .d (di .i64 g11.2.1))]) (fun g11 => [.fix 27 [.d (di .i64 a0.Kind), .d (di .i64 a0.Layout), .d (di .i64 a0.SRID), .d (eS1 a0.Flat), .d (eS2 a0.Ends), .d (eS3 a0.Endss), .d (eS0 a0.Kids)], .fix 27 [.d (di .i64 (0 : Int)), .d (di .i64 (0 : Int)), .d (di .i64 (0 : Int)), .d (.v (.slice none 0 0)), .d (.v (.slice none 0 0)), .d (.v (.slice none 0 0)), .d (.v (.slice none 0 0))], .fix 27 [.d (di .i64 a0.Kind), .d (di .i64 a0.Layout), .d (di .i64 a0.SRID), .own 4, .d (eS2 a0.Ends), .d (eS3 a0.Endss), .d (.v (.slice none 0 0))], .dead, .grow 32 1 (List.map keS1 g11.2.2)]) F ((0 : Int), (0 : Int), []) l9 rfl rfl (LeL.refl _) rfl rfl ?_
  intro n13 g11 h1
  unfold p_Backward_l4 at h1
  refine AC.seq ?_
  refine AC.region ?_
  refine AO.op rfl (AOp.ilss rfl rfl (ltb rfl) rfl rfl ?_)
  refine AO.nil ?_
  change AC _ _ _ _
  refine AC.seq ?_
  refine AC.cond rfl (fun q14 => ?_) (fun q14 => ?_)
  ·replace h1 := cT h1 q14
   refine AC.skip ?_
   change AC _ _ _ _
   refine AC.seq ?_
   refine AC.block ?_
   refine AC.seq ?_
   refine AC.region ?_
   obtain ⟨x15, q16, h1⟩ := idx_elim h1
   refine AO.op rfl (AOp.indexDs (cells := (List.map keS2 g5)) rfl rfl (ltb rfl) rfl rfl el23 (by decide) q16.1 (lt1 q16.2) ?_)
   refine AO.op rfl (AOp.loadEp rfl rfl (ltb rfl) rfl agg3 (at1 q16.2) ?_)
   refine AO.op rfl (AOp.assign rfl rfl (ltb rfl) rfl ?_)
   refine AO.nil ?_
   change AC _ _ _ _
   refine AC.seq ?_
   refine AC.seq ?_
   refine AC.region ?_
   refine AO.op rfl (AOp.move rfl rfl (ltb rfl) rfl ?_)
   refine AO.op rfl (AOp.move rfl rfl (ltb rfl) rfl ?_)
   obtain ⟨q17, h1⟩ := need_elim h1
   refine AO.op rfl (AOp.isub rfl rfl (ltb rfl) rfl rfl rfl q17.1 q17.2 ?_)
   refine AO.op rfl (AOp.assign rfl rfl (ltb rfl) rfl ?_)
   refine AO.nil ?_
   change AC _ _ _ _
   obtain ⟨o18, l19, h1⟩ := bind_elim h1
   refine AC.joinE (V := (List Nat)) [1, 2, 3, 7, 10, 58, 59, 60] [] 5 (fun g20 => []) (fun g20 => [.fix 27 [.d (di .i64 a0.Kind), .d (di .i64 a0.Layout), .d (di .i64 a0.SRID), .d (eS1 a0.Flat), .d (eS2 a0.Ends), .d (eS3 a0.Endss), .d (eS0 a0.Kids)], .fix 27 [.d (di .i64 (0 : Int)), .d (di .i64 (0 : Int)), .d (di .i64 (0 : Int)), .d (.v (.slice none 0 0)), .d (.v (.slice none 0 0)), .d (.v (.slice none 0 0)), .d (.v (.slice none 0 0))], .fix 27 [.d (di .i64 a0.Kind), .d (di .i64 a0.Layout), .d (di .i64 a0.SRID), .own 4, .d (eS2 a0.Ends), .d (eS3 a0.Endss), .d (.v (.slice none 0 0))], .dead, .grow 32 1 (List.map keS1 g20)]) (fun g20 => (p_Backward_k5 g11 (iter (p_Backward_l4 a0 F g5 y6) n13) x15) g20 = some o8) rfl ?_ ?_
   ·refine AC.block ?_
    refine AC.loopP (V := (Int × (List Nat))) (p_Backward_l6 a0 y6 g11) o18 [1, 2, 3, 7, 8, 10, 58, 59, 60] [11] 5 (fun g22 => [(11, .d (di .i64 g22.1))]) (fun g22 => [.fix 27 [.d (di .i64 a0.Kind), .d (di .i64 a0.Layout), .d (di .i64 a0.SRID), .d (eS1 a0.Flat), .d (eS2 a0.Ends), .d (eS3 a0.Endss), .d (eS0 a0.Kids)], .fix 27 [.d (di .i64 (0 : Int)), .d (di .i64 (0 : Int)), .d (di .i64 (0 : Int)), .d (.v (.slice none 0 0)), .d (.v (.slice none 0 0)), .d (.v (.slice none 0 0)), .d (.v (.slice none 0 0))], .fix 27 [.d (di .i64 a0.Kind), .d (di .i64 a0.Layout), .d (di .i64 a0.SRID), .own 4, .d (eS2 a0.Ends), .d (eS3 a0.Endss), .d (.v (.slice none 0 0))], .dead, .grow 32 1 (List.map keS1 g22.2)]) F ((x15 - y6), g11.2.2) l19 rfl rfl (LeL.refl _) rfl rfl ?_
    intro n24 g22 h2
    unfold p_Backward_l6 at h2
    refine AC.seq ?_
    refine AC.seq ?_
    refine AC.region ?_
    refine AO.op rfl (AOp.move rfl rfl (ltb rfl) rfl ?_)
    refine AO.op rfl (AOp.move rfl rfl (ltb rfl) rfl ?_)
    refine AO.op rfl (AOp.igeq rfl rfl (ltb rfl) rfl rfl ?_)
    refine AO.nil ?_
    change AC _ _ _ _
    refine AC.cond rfl (fun q25 => ?_) (fun q25 => ?_)
    ·replace h2 := cT h2 q25
     refine AC.skip ?_
     change AC _ _ _ _
     refine AC.seq ?_
     refine AC.block ?_
     refine AC.draw 9 mixed (by kernel_rfl) ?_
     refine AD.op [3] rfl (by kernel_rfl) rfl rfl (fun _ _ h => AOp.fieldAddr rfl rfl (ltb rfl) rfl fo27_3 h) ?_
     refine AD.op [73] rfl (by kernel_rfl) rfl rfl (fun _ _ h => AOp.load1 rfl rfl (ltb rfl) rfl agg22 rfl rfl h) ?_
     refine AD.op [1] rfl (by kernel_rfl) rfl rfl (fun _ _ h => AOp.fieldAddr rfl rfl (ltb rfl) rfl fo27_3 h) ?_
     refine AD.op [75] rfl (by kernel_rfl) rfl rfl (fun _ _ h => AOp.load1 rfl rfl (ltb rfl) rfl agg22 rfl rfl h) ?_
     refine AD.op [11] rfl (by kernel_rfl) rfl rfl (fun _ _ h => AOp.move rfl rfl (ltb rfl) rfl h) ?_
     refine AD.op [11] rfl (by kernel_rfl) rfl rfl (fun _ _ h => AOp.move rfl rfl (ltb rfl) rfl h) ?_
     refine AD.op [7] rfl (by kernel_rfl) rfl rfl (fun _ _ h => AOp.move rfl rfl (ltb rfl) rfl h) ?_
     obtain ⟨q26, h2⟩ := need_elim h2
     refine AD.op [78, 79] rfl (by kernel_rfl) rfl rfl (fun _ _ h => AOp.iadd rfl rfl (ltb rfl) rfl rfl rfl q26.1 q26.2 h) ?_
     obtain ⟨q27, h2⟩ := need_elim h2
     refine AD.op [76, 77, 80] rfl (by kernel_rfl) rfl rfl (fun _ _ h => AOp.sliceD (cells := (List.map keS1 a0.Flat)) (n := a0.Flat.length) (l := (g22.1).toNat) (hh := ((g22.1 + y6)).toNat) rfl rfl (ltb rfl) rfl (.inr ⟨_, _, _, rfl, rfl, q27.1.1, rfl⟩) (.inr ⟨_, _, _, rfl, rfl, q27.1.2, rfl⟩) el22 (by decide) (len1 _ _) q27.2.1 q27.2.2 (sub1 _ _ _ _) h) ?_
     refine AD.done ?_
     refine AO.subO 2 rfl (.cons (SVLe.refl _) (.cons (SVLe.refl _) (.cons (SVLe.refl _) (.cons (SVLe.any _) (.cons (SVLe.refl _) (.cons (SVLe.refl _) (.cons (SVLe.refl _) .nil))))))) ?_
     obtain ⟨q28, h2⟩ := need_elim h2
     refine AO.op rfl (AOp.appendOwn' (p := 4) (n := g22.2.length) (m := ((a0.Flat.drop (g22.1).toNat).take (((g22.1 + y6)).toNat - (g22.1).toNat)).length) (news := (List.map keS1 ((a0.Flat.drop (g22.1).toNat).take (((g22.1 + y6)).toNat - (g22.1).toNat)))) rfl rfl (ltb rfl) rfl rfl el22 info32 rfl (by decide) rfl (len1 _ _) (len1 _ _) (one1 _ (fun _ => rfl) _) q28 (by decide) rfl rfl (cat1 _ _ _) ?_)
     refine AO.op rfl (AOp.fieldAddr rfl rfl (ltb rfl) rfl fo27_3 ?_)
     refine AO.op rfl (AOp.storeOwn rfl rfl rfl rfl rfl rfl size22 rfl rfl (leb rfl) ?_)
     refine AO.nil ?_
     change AC _ _ _ _
     refine AC.region ?_
     refine AO.op rfl (AOp.move rfl rfl (ltb rfl) rfl ?_)
     refine AO.op rfl (AOp.move rfl rfl (ltb rfl) rfl ?_)
     obtain ⟨q29, h2⟩ := need_elim h2
     refine AO.op rfl (AOp.isub rfl rfl (ltb rfl) rfl rfl rfl q29.1 q29.2 ?_)
     refine AO.op rfl (AOp.assign rfl rfl (ltb rfl) rfl ?_)
     refine AO.nil ?_
     exact ⟨((g22.1 - y6), (g22.2 ++ ((a0.Flat.drop (g22.1).toNat).take (((g22.1 + y6)).toNat - (g22.1).toNat)))), _, rfl, (LeL.refl _), rfl, rfl, h2⟩
    replace h2 := cF h2 q25
    refine AC.exit ?_
    obtain rfl := Option.some.inj h2
    exact ⟨g22.2, _, rfl, (LeL.refl _), rfl, rfl, aftL h1⟩
   intro g20 h1
   unfold p_Backward_k5 at h1
   change AC _ _ _ _
   refine AC.region ?_
   refine AO.op rfl (AOp.move rfl rfl (ltb rfl) rfl ?_)
   refine AO.op rfl (AOp.assign rfl rfl (ltb rfl) rfl ?_)
   refine AO.nil ?_
   change AC _ _ _ _
   refine AC.region ?_
   obtain ⟨q21, h1⟩ := need_elim h1
   refine AO.op rfl (AOp.iadd rfl rfl (ltb rfl) rfl rfl rfl q21.1 q21.2 ?_)
   refine AO.op rfl (AOp.move rfl rfl (ltb rfl) rfl ?_)
   refine AO.nil ?_
   exact ⟨(x15, (g11.2.1 + (1 : Int)), g20), _, rfl, (LeL.refl _), rfl, rfl, h1⟩
  replace h1 := cF h1 q14
  refine AC.exit ?_
  obtain rfl := Option.some.inj h1
  exact ⟨g11.2.2, _, rfl, (LeL.refl _), rfl, rfl, aftL h0⟩
 intro g10 h0
 unfold p_Backward_k3 at h0
 change AC _ _ _ _
 refine AC.seq ?_
 refine AC.region ?_
 refine AO.op rfl (AOp.loadN rfl rfl (ltb rfl) rfl agg27 size27 rfl (leb rfl) rfl ?_)
 refine AO.subO 2 rfl (.cons (SVLe.refl _) (.cons (SVLe.refl _) (.cons (SVLe.refl _) (.cons (SVLe.any _) (.cons (SVLe.refl _) (.cons (SVLe.refl _) (.cons (SVLe.refl _) .nil))))))) ?_
 refine AO.freezeG 4 rfl rfl rfl ?_
 refine AO.op rfl (AOp.store rfl rfl rfl rfl size27 rfl rfl rfl (leb rfl) ?_)
 refine AO.nil ?_
 change AC _ _ _ _
 refine AC.subO 1 rfl (.cons (SVLe.refl _) (.cons (SVLe.refl _) (.cons (SVLe.refl _) (.cons (SVLe.refl _) (.cons (SVLe.refl _) (.cons (SVLe.refl _) (.cons (SVLe.nil 7) .nil))))))) ?_
 refine AC.ret ?_
 change RetQ _ _ _ .ret _
 obtain rfl := Option.some.inj h0
 refine retq rfl rfl

theorem callBits (x : Nat) (w : World) : (callFunc 23 #[.float .f64 x]).run Try.prog w = .ok (.value (.int .u64 x)) w := by
 rw [run_callFunc_extern Try.func23 (by kernel_rfl) (by kernel_rfl) (by kernel_rfl) (e := Extern.MathFloatBits.float64bits) (by kernel_rfl), run_f64bits Try.prog x]
 rfl

set_option maxRecDepth 100000 in
set_option maxHeartbeats 4000000 in
/-- pub-orthodrome/spec.SameFloats -/
theorem w_SameFloats (F : Nat) (a0 : (List Nat)) (a1 : (List Nat)) (r0 : Bool) (h0 : p_SameFloats F a0 a1 = some r0) : FnD Try.prog 9 [eS1 a0, eS1 a1] (fun r => r = dbool r0) := by
 refine FnD.of (by kernel_rfl) Try.func9 rfl Try.ntmps9 rfl (leb rfl) fun W ok => ?_
 unfold p_SameFloats at h0
 refine AC.seq ?_
 refine AC.region ?_
 refine AO.op rfl (AOp.assign rfl rfl (ltb rfl) rfl ?_)
 refine AO.nil ?_
 change AC _ _ _ _
 refine AC.seq ?_
 refine AC.seq ?_
 refine AC.region ?_
 refine AO.op rfl (AOp.move rfl rfl (ltb rfl) rfl ?_)
 refine AO.op rfl (AOp.lenDs (n := a0.length) (cells := (List.map keS1 a0)) rfl rfl (ltb rfl) rfl el22 (by decide) (len1 _ _) ?_)
 refine AO.op rfl (AOp.move rfl rfl (ltb rfl) rfl ?_)
 refine AO.op rfl (AOp.lenDs (n := a1.length) (cells := (List.map keS1 a1)) rfl rfl (ltb rfl) rfl el22 (by decide) (len1 _ _) ?_)
 refine AO.op rfl (AOp.ineq rfl rfl (ltb rfl) rfl rfl ?_)
 refine AO.nil ?_
 change AC _ _ _ _
 refine AC.cond rfl (fun q1 => ?_) (fun q1 => ?_)
 ·replace h0 := cT h0 q1
  refine AC.seq ?_
  refine AC.region ?_
  refine AO.op rfl (AOp.assign rfl rfl (ltb rfl) rfl ?_)
  refine AO.nil ?_
  change AC _ _ _ _
  refine AC.ret ?_
  change RetQ _ _ _ .ret _
  obtain rfl := Option.some.inj h0
  refine retq rfl rfl
 replace h0 := cF h0 q1
 refine AC.skip ?_
 change AC _ _ _ _
 refine AC.seq ?_
 refine AC.seq ?_
 refine AC.region ?_
 refine AO.op rfl (AOp.move rfl rfl (ltb rfl) rfl ?_)
 refine AO.op rfl (AOp.lenDs (n := a0.length) (cells := (List.map keS1 a0)) rfl rfl (ltb rfl) rfl el22 (by decide) (len1 _ _) ?_)
 refine AO.op rfl (AOp.move rfl rfl (ltb rfl) rfl ?_)
 refine AO.nil ?_
 change AC _ _ _ _
 obtain ⟨o2, l3, h0⟩ := bind_elim h0
 refine AC.joinE (V := Unit) [] [] 0 (fun g4 => []) (fun g4 => []) (fun g4 => p_SameFloats_k1 g4 = some r0) rfl ?_ ?_
 ·refine AC.block ?_
  refine AC.loopP (V := Int) (p_SameFloats_l2 a0 a1) o2 [1, 12, 13] [14] 0 (fun g5 => [(14, .d (di .i64 g5))]) (fun g5 => []) F (0 : Int) l3 rfl rfl (LeL.refl _) rfl rfl ?_
  intro n7 g5 h1
  unfold p_SameFloats_l2 at h1
  refine AC.seq ?_
  refine AC.region ?_
  refine AO.op rfl (AOp.ilss rfl rfl (ltb rfl) rfl rfl ?_)
  refine AO.nil ?_
  change AC _ _ _ _
  refine AC.seq ?_
  refine AC.cond rfl (fun q8 => ?_) (fun q8 => ?_)
  ·replace h1 := cT h1 q8
   refine AC.skip ?_
   change AC _ _ _ _
   refine AC.seq ?_
   refine AC.block ?_
   refine AC.seq ?_
   refine AC.region ?_
   refine AO.op rfl (AOp.move rfl rfl (ltb rfl) rfl ?_)
   obtain ⟨x9, q10, h1⟩ := idx_elim h1
   refine AO.op rfl (AOp.indexDs (cells := (List.map keS1 a0)) rfl rfl (ltb rfl) rfl rfl el22 (by decide) q10.1 (lt1 q10.2) ?_)
   refine AO.op rfl (AOp.loadEp rfl rfl (ltb rfl) rfl agg32 (at1 q10.2) ?_)
   refine AO.op rfl (AOp.assign rfl rfl (ltb rfl) rfl ?_)
   refine AO.op rfl (AOp.assign rfl rfl (ltb rfl) rfl ?_)
   refine AO.nil ?_
   change AC _ _ _ _
   refine AC.seq ?_
   refine AC.draw 8 mixed (by kernel_rfl) ?_
   refine AD.op [6] rfl (by kernel_rfl) rfl rfl (fun _ _ h => AOp.move rfl rfl (ltb rfl) rfl h) ?_
   refine AD.op [19] rfl (by kernel_rfl) rfl rfl (fun _ _ h => AOp.callX [.float .f64 x9] rfl rfl (ltb rfl) rfl (callBits x9) h) ?_
   refine AD.op [1] rfl (by kernel_rfl) rfl rfl (fun _ _ h => AOp.move rfl rfl (ltb rfl) rfl h) ?_
   refine AD.op [5] rfl (by kernel_rfl) rfl rfl (fun _ _ h => AOp.move rfl rfl (ltb rfl) rfl h) ?_
   obtain ⟨x11, q12, h1⟩ := idx_elim h1
   refine AD.op [21, 22] rfl (by kernel_rfl) rfl rfl (fun _ _ h => AOp.indexDs (cells := (List.map keS1 a1)) rfl rfl (ltb rfl) rfl rfl el22 (by decide) q12.1 (lt1 q12.2) h) ?_
   refine AD.op [23] rfl (by kernel_rfl) rfl rfl (fun _ _ h => AOp.loadEp rfl rfl (ltb rfl) rfl agg32 (at1 q12.2) h) ?_
   refine AD.op [24] rfl (by kernel_rfl) rfl rfl (fun _ _ h => AOp.callX [.float .f64 x11] rfl rfl (ltb rfl) rfl (callBits x11) h) ?_
   refine AD.op [20, 25] rfl (by kernel_rfl) rfl rfl (fun _ _ h => AOp.ineq rfl rfl (ltb rfl) rfl rfl h) ?_
   refine AD.done ?_
   refine AO.nil ?_
   change AC _ _ _ _
   refine AC.cond rfl (fun q13 => ?_) (fun q13 => ?_)
   ·replace h1 := cT h1 q13
    refine AC.seq ?_
    refine AC.region ?_
    refine AO.op rfl (AOp.assign rfl rfl (ltb rfl) rfl ?_)
    refine AO.nil ?_
    change AC _ _ _ _
    refine AC.ret ?_
    change RetQ _ _ _ .ret _
    obtain rfl := Option.some.inj h1
    replace h0 := aftR h0
    obtain rfl := Option.some.inj h0
    refine retq rfl rfl
   replace h1 := cF h1 q13
   refine AC.skip ?_
   change AC _ _ _ _
   refine AC.region ?_
   obtain ⟨q14, h1⟩ := need_elim h1
   refine AO.op rfl (AOp.iadd rfl rfl (ltb rfl) rfl rfl rfl q14.1 q14.2 ?_)
   refine AO.op rfl (AOp.move rfl rfl (ltb rfl) rfl ?_)
   refine AO.nil ?_
   exact ⟨(g5 + (1 : Int)), _, rfl, (LeL.refl _), rfl, rfl, h1⟩
  replace h1 := cF h1 q8
  refine AC.exit ?_
  obtain rfl := Option.some.inj h1
  exact ⟨(), _, rfl, (LeL.refl _), rfl, rfl, aftL h0⟩
 intro g4 h0
 unfold p_SameFloats_k1 at h0
 change AC _ _ _ _
 refine AC.seq ?_
 refine AC.region ?_
 refine AO.op rfl (AOp.assign rfl rfl (ltb rfl) rfl ?_)
 refine AO.nil ?_
 change AC _ _ _ _
 refine AC.ret ?_
 change RetQ _ _ _ .ret _
 obtain rfl := Option.some.inj h0
 refine retq rfl rfl

set_option maxRecDepth 100000 in
set_option maxHeartbeats 4000000 in
/-- pub-orthodrome/spec.sameInts -/
theorem w_sameInts (F : Nat) (a0 : (List Int)) (a1 : (List Int)) (r0 : Bool) (h0 : p_sameInts F a0 a1 = some r0) : FnD Try.prog 33 [eS2 a0, eS2 a1] (fun r => r = dbool r0) := by
 refine FnD.of (by kernel_rfl) Try.func33 rfl Try.ntmps33 rfl (leb rfl) fun W ok => ?_
 unfold p_sameInts at h0
 refine AC.seq ?_
 refine AC.region ?_
 refine AO.op rfl (AOp.assign rfl rfl (ltb rfl) rfl ?_)
 refine AO.nil ?_
 change AC _ _ _ _
 refine AC.seq ?_
 refine AC.seq ?_
 refine AC.region ?_
 refine AO.op rfl (AOp.move rfl rfl (ltb rfl) rfl ?_)
 refine AO.op rfl (AOp.lenDs (n := a0.length) (cells := (List.map keS2 a0)) rfl rfl (ltb rfl) rfl el23 (by decide) (len1 _ _) ?_)
 refine AO.op rfl (AOp.move rfl rfl (ltb rfl) rfl ?_)
 refine AO.op rfl (AOp.lenDs (n := a1.length) (cells := (List.map keS2 a1)) rfl rfl (ltb rfl) rfl el23 (by decide) (len1 _ _) ?_)
 refine AO.op rfl (AOp.ineq rfl rfl (ltb rfl) rfl rfl ?_)
 refine AO.nil ?_
 change AC _ _ _ _
 refine AC.cond rfl (fun q1 => ?_) (fun q1 => ?_)
 ·replace h0 := cT h0 q1
  refine AC.seq ?_
  refine AC.region ?_
  refine AO.op rfl (AOp.assign rfl rfl (ltb rfl) rfl ?_)
  refine AO.nil ?_
  change AC _ _ _ _
  refine AC.ret ?_
  change RetQ _ _ _ .ret _
  obtain rfl := Option.some.inj h0
  refine retq rfl rfl
 replace h0 := cF h0 q1
 refine AC.skip ?_
 change AC _ _ _ _
 refine AC.seq ?_
 refine AC.seq ?_
 refine AC.region ?_
 refine AO.op rfl (AOp.move rfl rfl (ltb rfl) rfl ?_)
 refine AO.op rfl (AOp.lenDs (n := a0.length) (cells := (List.map keS2 a0)) rfl rfl (ltb rfl) rfl el23 (by decide) (len1 _ _) ?_)
 refine AO.op rfl (AOp.move rfl rfl (ltb rfl) rfl ?_)
 refine AO.nil ?_
 change AC _ _ _ _
 obtain ⟨o2, l3, h0⟩ := bind_elim h0
 refine AC.joinE (V := Unit) [] [] 0 (fun g4 => []) (fun g4 => []) (fun g4 => p_sameInts_k1 g4 = some r0) rfl ?_ ?_
 ·refine AC.block ?_
  refine AC.loopP (V := Int) (p_sameInts_l2 a0 a1) o2 [1, 12, 13] [14] 0 (fun g5 => [(14, .d (di .i64 g5))]) (fun g5 => []) F (0 : Int) l3 rfl rfl (LeL.refl _) rfl rfl ?_
  intro n7 g5 h1
  unfold p_sameInts_l2 at h1
  refine AC.seq ?_
  refine AC.region ?_
  refine AO.op rfl (AOp.ilss rfl rfl (ltb rfl) rfl rfl ?_)
  refine AO.nil ?_
  change AC _ _ _ _
  refine AC.seq ?_
  refine AC.cond rfl (fun q8 => ?_) (fun q8 => ?_)
  ·replace h1 := cT h1 q8
   refine AC.skip ?_
   change AC _ _ _ _
   refine AC.seq ?_
   refine AC.block ?_
   refine AC.seq ?_
   refine AC.region ?_
   refine AO.op rfl (AOp.move rfl rfl (ltb rfl) rfl ?_)
   obtain ⟨x9, q10, h1⟩ := idx_elim h1
   refine AO.op rfl (AOp.indexDs (cells := (List.map keS2 a0)) rfl rfl (ltb rfl) rfl rfl el23 (by decide) q10.1 (lt1 q10.2) ?_)
   refine AO.op rfl (AOp.loadEp rfl rfl (ltb rfl) rfl agg3 (at1 q10.2) ?_)
   refine AO.op rfl (AOp.assign rfl rfl (ltb rfl) rfl ?_)
   refine AO.op rfl (AOp.assign rfl rfl (ltb rfl) rfl ?_)
   refine AO.nil ?_
   change AC _ _ _ _
   refine AC.seq ?_
   refine AC.region ?_
   refine AO.op rfl (AOp.move rfl rfl (ltb rfl) rfl ?_)
   refine AO.op rfl (AOp.move rfl rfl (ltb rfl) rfl ?_)
   refine AO.op rfl (AOp.move rfl rfl (ltb rfl) rfl ?_)
   obtain ⟨x11, q12, h1⟩ := idx_elim h1
   refine AO.op rfl (AOp.indexDs (cells := (List.map keS2 a1)) rfl rfl (ltb rfl) rfl rfl el23 (by decide) q12.1 (lt1 q12.2) ?_)
   refine AO.op rfl (AOp.loadEp rfl rfl (ltb rfl) rfl agg3 (at1 q12.2) ?_)
   refine AO.op rfl (AOp.ineq rfl rfl (ltb rfl) rfl rfl ?_)
   refine AO.nil ?_
   change AC _ _ _ _
   refine AC.cond rfl (fun q13 => ?_) (fun q13 => ?_)
   ·replace h1 := cT h1 q13
    refine AC.seq ?_
    refine AC.region ?_
    refine AO.op rfl (AOp.assign rfl rfl (ltb rfl) rfl ?_)
    refine AO.nil ?_
    change AC _ _ _ _
    refine AC.ret ?_
    change RetQ _ _ _ .ret _
    obtain rfl := Option.some.inj h1
    replace h0 := aftR h0
    obtain rfl := Option.some.inj h0
    refine retq rfl rfl
   replace h1 := cF h1 q13
   refine AC.skip ?_
   change AC _ _ _ _
   refine AC.region ?_
   obtain ⟨q14, h1⟩ := need_elim h1
   refine AO.op rfl (AOp.iadd rfl rfl (ltb rfl) rfl rfl rfl q14.1 q14.2 ?_)
   refine AO.op rfl (AOp.move rfl rfl (ltb rfl) rfl ?_)
   refine AO.nil ?_
   exact ⟨(g5 + (1 : Int)), _, rfl, (LeL.refl _), rfl, rfl, h1⟩
  replace h1 := cF h1 q8
  refine AC.exit ?_
  obtain rfl := Option.some.inj h1
  exact ⟨(), _, rfl, (LeL.refl _), rfl, rfl, aftL h0⟩
 intro g4 h0
 unfold p_sameInts_k1 at h0
 change AC _ _ _ _
 refine AC.seq ?_
 refine AC.region ?_
 refine AO.op rfl (AOp.assign rfl rfl (ltb rfl) rfl ?_)
 refine AO.nil ?_
 change AC _ _ _ _
 refine AC.ret ?_
 change RetQ _ _ _ .ret _
 obtain rfl := Option.some.inj h0
 refine retq rfl rfl

set_option maxRecDepth 100000 in
set_option maxHeartbeats 4000000 in
/-- pub-orthodrome/spec.SameGeom -/
theorem w_SameGeom_b (Rec_ : TImpl_Geom → TImpl_Geom → Option Bool) (hR : ∀ (a0 : TImpl_Geom) (a1 : TImpl_Geom) (r0 : Bool), Rec_ a0 a1 = some r0 → FnD Try.prog 15 [e_TImpl_Geom a0, e_TImpl_Geom a1] (fun r => r = dbool r0)) (F : Nat) (a0 : TImpl_Geom) (a1 : TImpl_Geom) (r0 : Bool) (h0 : p_SameGeom_b Rec_ F a0 a1 = some r0) : FnD Try.prog 15 [e_TImpl_Geom a0, e_TImpl_Geom a1] (fun r => r = dbool r0) := by
 refine FnD.of (by kernel_rfl) Try.func15 rfl Try.ntmps15 rfl (leb rfl) fun W ok => ?_
 unfold p_SameGeom_b at h0
 refine AC.seq ?_
 refine AC.region ?_
 refine AO.op rfl (AOp.box rfl rfl (ltb rfl) rfl rfl ?_)
 refine AO.op rfl (AOp.box rfl rfl (ltb rfl) rfl rfl ?_)
 refine AO.op rfl (AOp.assign rfl rfl (ltb rfl) rfl ?_)
 refine AO.nil ?_
 change AC _ _ _ _
 refine AC.seq ?_
 refine AC.joinP (V := Bool) [2, 3] [61] 2 (fun g1 => [(61, .d (dbool g1))]) (fun g1 => [.fix 27 [.d (di .i64 a0.Kind), .d (di .i64 a0.Layout), .d (di .i64 a0.SRID), .d (eS1 a0.Flat), .d (eS2 a0.Ends), .d (eS3 a0.Endss), .d (eS0 a0.Kids)], .fix 27 [.d (di .i64 a1.Kind), .d (di .i64 a1.Layout), .d (di .i64 a1.SRID), .d (eS1 a1.Flat), .d (eS2 a1.Ends), .d (eS3 a1.Endss), .d (eS0 a1.Kids)]]) (fun g1 => (p_SameGeom_k1 a0 a1 F Rec_) g1 = some r0) rfl ?_ ?_
 ·refine AC.region ?_
  refine AO.op rfl (AOp.fieldAddr rfl rfl (ltb rfl) rfl fo27_0 ?_)
  refine AO.op rfl (AOp.load1 rfl rfl (ltb rfl) rfl agg3 rfl rfl ?_)
  refine AO.op rfl (AOp.fieldAddr rfl rfl (ltb rfl) rfl fo27_0 ?_)
  refine AO.op rfl (AOp.load1 rfl rfl (ltb rfl) rfl agg3 rfl rfl ?_)
  refine AO.op rfl (AOp.ineq rfl rfl (ltb rfl) rfl rfl ?_)
  refine AO.op rfl (AOp.move rfl rfl (ltb rfl) rfl ?_)
  refine AO.dec (!decide (a0.Kind = a1.Kind)) (fun q33 => ?_) (fun q33 => ?_)
  ·replace h0 := cT h0 q33
   refine AO.guardN rfl rfl rfl (ltb rfl) rfl q33 ?_
   refine AO.guardN rfl rfl rfl (ltb rfl) rfl q33 ?_
   refine AO.guardN rfl rfl rfl (ltb rfl) rfl q33 ?_
   refine AO.guardN rfl rfl rfl (ltb rfl) rfl q33 ?_
   refine AO.guardN rfl rfl rfl (ltb rfl) rfl q33 ?_
   refine AO.op rfl (AOp.pick rfl rfl (ltb rfl) rfl q33 rfl ?_)
   refine AO.op rfl (AOp.move rfl rfl (ltb rfl) rfl ?_)
   refine AO.guardN rfl rfl rfl (ltb rfl) rfl rfl ?_
   refine AO.guardN rfl rfl rfl (ltb rfl) rfl rfl ?_
   refine AO.guardN rfl rfl rfl (ltb rfl) rfl rfl ?_
   refine AO.guardN rfl rfl rfl (ltb rfl) rfl rfl ?_
   refine AO.guardN rfl rfl rfl (ltb rfl) rfl rfl ?_
   refine AO.op rfl (AOp.pick rfl rfl (ltb rfl) rfl rfl rfl ?_)
   refine AO.op rfl (AOp.move rfl rfl (ltb rfl) rfl ?_)
   refine AO.guardN rfl rfl rfl (ltb rfl) rfl rfl ?_
   refine AO.guardN rfl rfl rfl (ltb rfl) rfl rfl ?_
   refine AO.guardN rfl rfl rfl (ltb rfl) rfl rfl ?_
   refine AO.guardN rfl rfl rfl (ltb rfl) rfl rfl ?_
   refine AO.guardN rfl rfl rfl (ltb rfl) rfl rfl ?_
   refine AO.guardN rfl rfl rfl (ltb rfl) rfl rfl ?_
   refine AO.op rfl (AOp.pick rfl rfl (ltb rfl) rfl rfl rfl ?_)
   refine AO.op rfl (AOp.move rfl rfl (ltb rfl) rfl ?_)
   refine AO.guardN rfl rfl rfl (ltb rfl) rfl rfl ?_
   refine AO.guardN rfl rfl rfl (ltb rfl) rfl rfl ?_
   refine AO.guardN rfl rfl rfl (ltb rfl) rfl rfl ?_
   refine AO.guardN rfl rfl rfl (ltb rfl) rfl rfl ?_
   refine AO.guardN rfl rfl rfl (ltb rfl) rfl rfl ?_
   refine AO.guardN rfl rfl rfl (ltb rfl) rfl rfl ?_
   refine AO.op rfl (AOp.pick rfl rfl (ltb rfl) rfl rfl rfl ?_)
   refine AO.op rfl (AOp.move rfl rfl (ltb rfl) rfl ?_)
   refine AO.guardN rfl rfl rfl (ltb rfl) rfl rfl ?_
   refine AO.guardN rfl rfl rfl (ltb rfl) rfl rfl ?_
   refine AO.guardN rfl rfl rfl (ltb rfl) rfl rfl ?_
   refine AO.guardN rfl rfl rfl (ltb rfl) rfl rfl ?_
   refine AO.guardN rfl rfl rfl (ltb rfl) rfl rfl ?_
   refine AO.guardN rfl rfl rfl (ltb rfl) rfl rfl ?_
   refine AO.guardN rfl rfl rfl (ltb rfl) rfl rfl ?_
   refine AO.op rfl (AOp.pick rfl rfl (ltb rfl) rfl rfl rfl ?_)
   refine AO.op rfl (AOp.move rfl rfl (ltb rfl) rfl ?_)
   refine AO.guardN rfl rfl rfl (ltb rfl) rfl rfl ?_
   refine AO.guardN rfl rfl rfl (ltb rfl) rfl rfl ?_
   refine AO.guardN rfl rfl rfl (ltb rfl) rfl rfl ?_
   refine AO.guardN rfl rfl rfl (ltb rfl) rfl rfl ?_
   refine AO.guardN rfl rfl rfl (ltb rfl) rfl rfl ?_
   refine AO.guardN rfl rfl rfl (ltb rfl) rfl rfl ?_
   refine AO.guardN rfl rfl rfl (ltb rfl) rfl rfl ?_
   refine AO.op rfl (AOp.pick rfl rfl (ltb rfl) rfl rfl rfl ?_)
   refine AO.nil ?_
   exact ⟨true, _, rfl, (LeL.refl _), rfl, rfl, h0⟩
  replace h0 := cF h0 q33
  refine AO.guardY rfl rfl rfl q33 (AOp.fieldAddr rfl rfl (ltb rfl) rfl fo27_1 ?_)
  refine AO.guardY rfl rfl rfl q33 (AOp.load1 rfl rfl (ltb rfl) rfl agg3 rfl rfl ?_)
  refine AO.guardY rfl rfl rfl q33 (AOp.fieldAddr rfl rfl (ltb rfl) rfl fo27_1 ?_)
  refine AO.guardY rfl rfl rfl q33 (AOp.load1 rfl rfl (ltb rfl) rfl agg3 rfl rfl ?_)
  refine AO.guardY rfl rfl rfl q33 (AOp.ineq rfl rfl (ltb rfl) rfl rfl ?_)
  refine AO.op rfl (AOp.pickN rfl rfl (ltb rfl) rfl q33 rfl ?_)
  refine AO.op rfl (AOp.move rfl rfl (ltb rfl) rfl ?_)
  refine AO.dec (!decide (a0.Layout = a1.Layout)) (fun q34 => ?_) (fun q34 => ?_)
  ·replace h0 := cT h0 q34
   refine AO.guardN rfl rfl rfl (ltb rfl) rfl q34 ?_
   refine AO.guardN rfl rfl rfl (ltb rfl) rfl q34 ?_
   refine AO.guardN rfl rfl rfl (ltb rfl) rfl q34 ?_
   refine AO.guardN rfl rfl rfl (ltb rfl) rfl q34 ?_
   refine AO.guardN rfl rfl rfl (ltb rfl) rfl q34 ?_
   refine AO.op rfl (AOp.pick rfl rfl (ltb rfl) rfl q34 rfl ?_)
   refine AO.op rfl (AOp.move rfl rfl (ltb rfl) rfl ?_)
   refine AO.guardN rfl rfl rfl (ltb rfl) rfl rfl ?_
   refine AO.guardN rfl rfl rfl (ltb rfl) rfl rfl ?_
   refine AO.guardN rfl rfl rfl (ltb rfl) rfl rfl ?_
   refine AO.guardN rfl rfl rfl (ltb rfl) rfl rfl ?_
   refine AO.guardN rfl rfl rfl (ltb rfl) rfl rfl ?_
   refine AO.guardN rfl rfl rfl (ltb rfl) rfl rfl ?_
   refine AO.op rfl (AOp.pick rfl rfl (ltb rfl) rfl rfl rfl ?_)
   refine AO.op rfl (AOp.move rfl rfl (ltb rfl) rfl ?_)
   refine AO.guardN rfl rfl rfl (ltb rfl) rfl rfl ?_
   refine AO.guardN rfl rfl rfl (ltb rfl) rfl rfl ?_
   refine AO.guardN rfl rfl rfl (ltb rfl) rfl rfl ?_
   refine AO.guardN rfl rfl rfl (ltb rfl) rfl rfl ?_
   refine AO.guardN rfl rfl rfl (ltb rfl) rfl rfl ?_
   refine AO.guardN rfl rfl rfl (ltb rfl) rfl rfl ?_
   refine AO.op rfl (AOp.pick rfl rfl (ltb rfl) rfl rfl rfl ?_)
   refine AO.op rfl (AOp.move rfl rfl (ltb rfl) rfl ?_)
   refine AO.guardN rfl rfl rfl (ltb rfl) rfl rfl ?_
   refine AO.guardN rfl rfl rfl (ltb rfl) rfl rfl ?_
   refine AO.guardN rfl rfl rfl (ltb rfl) rfl rfl ?_
   refine AO.guardN rfl rfl rfl (ltb rfl) rfl rfl ?_
   refine AO.guardN rfl rfl rfl (ltb rfl) rfl rfl ?_
   refine AO.guardN rfl rfl rfl (ltb rfl) rfl rfl ?_
   refine AO.guardN rfl rfl rfl (ltb rfl) rfl rfl ?_
   refine AO.op rfl (AOp.pick rfl rfl (ltb rfl) rfl rfl rfl ?_)
   refine AO.op rfl (AOp.move rfl rfl (ltb rfl) rfl ?_)
   refine AO.guardN rfl rfl rfl (ltb rfl) rfl rfl ?_
   refine AO.guardN rfl rfl rfl (ltb rfl) rfl rfl ?_
   refine AO.guardN rfl rfl rfl (ltb rfl) rfl rfl ?_
   refine AO.guardN rfl rfl rfl (ltb rfl) rfl rfl ?_
   refine AO.guardN rfl rfl rfl (ltb rfl) rfl rfl ?_
   refine AO.guardN rfl rfl rfl (ltb rfl) rfl rfl ?_
   refine AO.guardN rfl rfl rfl (ltb rfl) rfl rfl ?_
   refine AO.op rfl (AOp.pick rfl rfl (ltb rfl) rfl rfl rfl ?_)
   refine AO.nil ?_
   exact ⟨true, _, rfl, (LeL.refl _), rfl, rfl, h0⟩
  replace h0 := cF h0 q34
  refine AO.guardY rfl rfl rfl q34 (AOp.fieldAddr rfl rfl (ltb rfl) rfl fo27_2 ?_)
  refine AO.guardY rfl rfl rfl q34 (AOp.load1 rfl rfl (ltb rfl) rfl agg3 rfl rfl ?_)
  refine AO.guardY rfl rfl rfl q34 (AOp.fieldAddr rfl rfl (ltb rfl) rfl fo27_2 ?_)
  refine AO.guardY rfl rfl rfl q34 (AOp.load1 rfl rfl (ltb rfl) rfl agg3 rfl rfl ?_)
  refine AO.guardY rfl rfl rfl q34 (AOp.ineq rfl rfl (ltb rfl) rfl rfl ?_)
  refine AO.op rfl (AOp.pickN rfl rfl (ltb rfl) rfl q34 rfl ?_)
  refine AO.op rfl (AOp.move rfl rfl (ltb rfl) rfl ?_)
  refine AO.dec (!decide (a0.SRID = a1.SRID)) (fun q35 => ?_) (fun q35 => ?_)
  ·replace h0 := cT h0 q35
   refine AO.guardN rfl rfl rfl (ltb rfl) rfl q35 ?_
   refine AO.guardN rfl rfl rfl (ltb rfl) rfl q35 ?_
   refine AO.guardN rfl rfl rfl (ltb rfl) rfl q35 ?_
   refine AO.guardN rfl rfl rfl (ltb rfl) rfl q35 ?_
   refine AO.guardN rfl rfl rfl (ltb rfl) rfl q35 ?_
   refine AO.guardN rfl rfl rfl (ltb rfl) rfl q35 ?_
   refine AO.op rfl (AOp.pick rfl rfl (ltb rfl) rfl q35 rfl ?_)
   refine AO.op rfl (AOp.move rfl rfl (ltb rfl) rfl ?_)
   refine AO.guardN rfl rfl rfl (ltb rfl) rfl rfl ?_
   refine AO.guardN rfl rfl rfl (ltb rfl) rfl rfl ?_
   refine AO.guardN rfl rfl rfl (ltb rfl) rfl rfl ?_
   refine AO.guardN rfl rfl rfl (ltb rfl) rfl rfl ?_
   refine AO.guardN rfl rfl rfl (ltb rfl) rfl rfl ?_
   refine AO.guardN rfl rfl rfl (ltb rfl) rfl rfl ?_
   refine AO.op rfl (AOp.pick rfl rfl (ltb rfl) rfl rfl rfl ?_)
   refine AO.op rfl (AOp.move rfl rfl (ltb rfl) rfl ?_)
   refine AO.guardN rfl rfl rfl (ltb rfl) rfl rfl ?_
   refine AO.guardN rfl rfl rfl (ltb rfl) rfl rfl ?_
   refine AO.guardN rfl rfl rfl (ltb rfl) rfl rfl ?_
   refine AO.guardN rfl rfl rfl (ltb rfl) rfl rfl ?_
   refine AO.guardN rfl rfl rfl (ltb rfl) rfl rfl ?_
   refine AO.guardN rfl rfl rfl (ltb rfl) rfl rfl ?_
   refine AO.guardN rfl rfl rfl (ltb rfl) rfl rfl ?_
   refine AO.op rfl (AOp.pick rfl rfl (ltb rfl) rfl rfl rfl ?_)
   refine AO.op rfl (AOp.move rfl rfl (ltb rfl) rfl ?_)
   refine AO.guardN rfl rfl rfl (ltb rfl) rfl rfl ?_
   refine AO.guardN rfl rfl rfl (ltb rfl) rfl rfl ?_
   refine AO.guardN rfl rfl rfl (ltb rfl) rfl rfl ?_
   refine AO.guardN rfl rfl rfl (ltb rfl) rfl rfl ?_
   refine AO.guardN rfl rfl rfl (ltb rfl) rfl rfl ?_
   refine AO.guardN rfl rfl rfl (ltb rfl) rfl rfl ?_
   refine AO.guardN rfl rfl rfl (ltb rfl) rfl rfl ?_
   refine AO.op rfl (AOp.pick rfl rfl (ltb rfl) rfl rfl rfl ?_)
   refine AO.nil ?_
   exact ⟨true, _, rfl, (LeL.refl _), rfl, rfl, h0⟩
  replace h0 := cF h0 q35
  refine AO.guardY rfl rfl rfl q35 (AOp.fieldAddr rfl rfl (ltb rfl) rfl fo27_3 ?_)
  refine AO.guardY rfl rfl rfl q35 (AOp.load1 rfl rfl (ltb rfl) rfl agg22 rfl rfl ?_)
  refine AO.guardY rfl rfl rfl q35 (AOp.fieldAddr rfl rfl (ltb rfl) rfl fo27_3 ?_)
  refine AO.guardY rfl rfl rfl q35 (AOp.load1 rfl rfl (ltb rfl) rfl agg22 rfl rfl ?_)
  obtain ⟨y36, q37, h0⟩ := bind_elim h0
  refine AO.guardY rfl rfl rfl q35 (AOp.callD rfl rfl (ltb rfl) rfl rfl (w_SameFloats F a0.Flat a1.Flat y36 q37) ?_)
  rintro _ rfl
  refine AO.guardY rfl rfl rfl q35 (AOp.bnot rfl rfl (ltb rfl) rfl ?_)
  refine AO.op rfl (AOp.pickN rfl rfl (ltb rfl) rfl q35 rfl ?_)
  refine AO.op rfl (AOp.move rfl rfl (ltb rfl) rfl ?_)
  refine AO.dec (!y36) (fun q38 => ?_) (fun q38 => ?_)
  ·replace h0 := cT h0 q38
   refine AO.guardN rfl rfl rfl (ltb rfl) rfl q38 ?_
   refine AO.guardN rfl rfl rfl (ltb rfl) rfl q38 ?_
   refine AO.guardN rfl rfl rfl (ltb rfl) rfl q38 ?_
   refine AO.guardN rfl rfl rfl (ltb rfl) rfl q38 ?_
   refine AO.guardN rfl rfl rfl (ltb rfl) rfl q38 ?_
   refine AO.guardN rfl rfl rfl (ltb rfl) rfl q38 ?_
   refine AO.op rfl (AOp.pick rfl rfl (ltb rfl) rfl q38 rfl ?_)
   refine AO.op rfl (AOp.move rfl rfl (ltb rfl) rfl ?_)
   refine AO.guardN rfl rfl rfl (ltb rfl) rfl rfl ?_
   refine AO.guardN rfl rfl rfl (ltb rfl) rfl rfl ?_
   refine AO.guardN rfl rfl rfl (ltb rfl) rfl rfl ?_
   refine AO.guardN rfl rfl rfl (ltb rfl) rfl rfl ?_
   refine AO.guardN rfl rfl rfl (ltb rfl) rfl rfl ?_
   refine AO.guardN rfl rfl rfl (ltb rfl) rfl rfl ?_
   refine AO.guardN rfl rfl rfl (ltb rfl) rfl rfl ?_
   refine AO.op rfl (AOp.pick rfl rfl (ltb rfl) rfl rfl rfl ?_)
   refine AO.op rfl (AOp.move rfl rfl (ltb rfl) rfl ?_)
   refine AO.guardN rfl rfl rfl (ltb rfl) rfl rfl ?_
   refine AO.guardN rfl rfl rfl (ltb rfl) rfl rfl ?_
   refine AO.guardN rfl rfl rfl (ltb rfl) rfl rfl ?_
   refine AO.guardN rfl rfl rfl (ltb rfl) rfl rfl ?_
   refine AO.guardN rfl rfl rfl (ltb rfl) rfl rfl ?_
   refine AO.guardN rfl rfl rfl (ltb rfl) rfl rfl ?_
   refine AO.guardN rfl rfl rfl (ltb rfl) rfl rfl ?_
   refine AO.op rfl (AOp.pick rfl rfl (ltb rfl) rfl rfl rfl ?_)
   refine AO.nil ?_
   exact ⟨true, _, rfl, (LeL.refl _), rfl, rfl, h0⟩
  replace h0 := cF h0 q38
  refine AO.guardY rfl rfl rfl q38 (AOp.fieldAddr rfl rfl (ltb rfl) rfl fo27_4 ?_)
  refine AO.guardY rfl rfl rfl q38 (AOp.load1 rfl rfl (ltb rfl) rfl agg23 rfl rfl ?_)
  refine AO.guardY rfl rfl rfl q38 (AOp.fieldAddr rfl rfl (ltb rfl) rfl fo27_4 ?_)
  refine AO.guardY rfl rfl rfl q38 (AOp.load1 rfl rfl (ltb rfl) rfl agg23 rfl rfl ?_)
  obtain ⟨y39, q40, h0⟩ := bind_elim h0
  refine AO.guardY rfl rfl rfl q38 (AOp.callD rfl rfl (ltb rfl) rfl rfl (w_sameInts F a0.Ends a1.Ends y39 q40) ?_)
  rintro _ rfl
  refine AO.guardY rfl rfl rfl q38 (AOp.bnot rfl rfl (ltb rfl) rfl ?_)
  refine AO.op rfl (AOp.pickN rfl rfl (ltb rfl) rfl q38 rfl ?_)
  refine AO.op rfl (AOp.move rfl rfl (ltb rfl) rfl ?_)
  refine AO.dec (!y39) (fun q41 => ?_) (fun q41 => ?_)
  ·replace h0 := cT h0 q41
   refine AO.guardN rfl rfl rfl (ltb rfl) rfl q41 ?_
   refine AO.guardN rfl rfl rfl (ltb rfl) rfl q41 ?_
   refine AO.guardN rfl rfl rfl (ltb rfl) rfl q41 ?_
   refine AO.guardN rfl rfl rfl (ltb rfl) rfl q41 ?_
   refine AO.guardN rfl rfl rfl (ltb rfl) rfl q41 ?_
   refine AO.guardN rfl rfl rfl (ltb rfl) rfl q41 ?_
   refine AO.guardN rfl rfl rfl (ltb rfl) rfl q41 ?_
   refine AO.op rfl (AOp.pick rfl rfl (ltb rfl) rfl q41 rfl ?_)
   refine AO.op rfl (AOp.move rfl rfl (ltb rfl) rfl ?_)
   refine AO.guardN rfl rfl rfl (ltb rfl) rfl rfl ?_
   refine AO.guardN rfl rfl rfl (ltb rfl) rfl rfl ?_
   refine AO.guardN rfl rfl rfl (ltb rfl) rfl rfl ?_
   refine AO.guardN rfl rfl rfl (ltb rfl) rfl rfl ?_
   refine AO.guardN rfl rfl rfl (ltb rfl) rfl rfl ?_
   refine AO.guardN rfl rfl rfl (ltb rfl) rfl rfl ?_
   refine AO.guardN rfl rfl rfl (ltb rfl) rfl rfl ?_
   refine AO.op rfl (AOp.pick rfl rfl (ltb rfl) rfl rfl rfl ?_)
   refine AO.nil ?_
   exact ⟨true, _, rfl, (LeL.refl _), rfl, rfl, h0⟩
  replace h0 := cF h0 q41
  refine AO.guardY rfl rfl rfl q41 (AOp.fieldAddr rfl rfl (ltb rfl) rfl fo27_5 ?_)
  refine AO.guardY rfl rfl rfl q41 (AOp.load1 rfl rfl (ltb rfl) rfl agg24 rfl rfl ?_)
  refine AO.guardY rfl rfl rfl q41 (AOp.lenDs (n := a0.Endss.length) (cells := (List.map keS3 a0.Endss)) rfl rfl (ltb rfl) rfl el24 (by decide) (len1 _ _) ?_)
  refine AO.guardY rfl rfl rfl q41 (AOp.fieldAddr rfl rfl (ltb rfl) rfl fo27_5 ?_)
  refine AO.guardY rfl rfl rfl q41 (AOp.load1 rfl rfl (ltb rfl) rfl agg24 rfl rfl ?_)
  refine AO.guardY rfl rfl rfl q41 (AOp.lenDs (n := a1.Endss.length) (cells := (List.map keS3 a1.Endss)) rfl rfl (ltb rfl) rfl el24 (by decide) (len1 _ _) ?_)
  refine AO.guardY rfl rfl rfl q41 (AOp.ineq rfl rfl (ltb rfl) rfl rfl ?_)
  refine AO.op rfl (AOp.pickN rfl rfl (ltb rfl) rfl q41 rfl ?_)
  refine AO.op rfl (AOp.move rfl rfl (ltb rfl) rfl ?_)
  refine AO.dec (!decide (((a0.Endss.length : Nat) : Int) = ((a1.Endss.length : Nat) : Int))) (fun q42 => ?_) (fun q42 => ?_)
  ·replace h0 := cT h0 q42
   refine AO.guardN rfl rfl rfl (ltb rfl) rfl q42 ?_
   refine AO.guardN rfl rfl rfl (ltb rfl) rfl q42 ?_
   refine AO.guardN rfl rfl rfl (ltb rfl) rfl q42 ?_
   refine AO.guardN rfl rfl rfl (ltb rfl) rfl q42 ?_
   refine AO.guardN rfl rfl rfl (ltb rfl) rfl q42 ?_
   refine AO.guardN rfl rfl rfl (ltb rfl) rfl q42 ?_
   refine AO.guardN rfl rfl rfl (ltb rfl) rfl q42 ?_
   refine AO.op rfl (AOp.pick rfl rfl (ltb rfl) rfl q42 rfl ?_)
   refine AO.nil ?_
   exact ⟨true, _, rfl, (LeL.refl _), rfl, rfl, h0⟩
  replace h0 := cF h0 q42
  refine AO.guardY rfl rfl rfl q42 (AOp.fieldAddr rfl rfl (ltb rfl) rfl fo27_6 ?_)
  refine AO.guardY rfl rfl rfl q42 (AOp.load1 rfl rfl (ltb rfl) rfl agg25 rfl rfl ?_)
  refine AO.guardY rfl rfl rfl q42 (AOp.lenDs (n := a0.Kids.length) (cells := (List.flatMap c0_TImpl_Geom a0.Kids)) rfl rfl (ltb rfl) rfl el25 (by decide) (lenN _ 7 c0_TImpl_Geom_len _) ?_)
  refine AO.guardY rfl rfl rfl q42 (AOp.fieldAddr rfl rfl (ltb rfl) rfl fo27_6 ?_)
  refine AO.guardY rfl rfl rfl q42 (AOp.load1 rfl rfl (ltb rfl) rfl agg25 rfl rfl ?_)
  refine AO.guardY rfl rfl rfl q42 (AOp.lenDs (n := a1.Kids.length) (cells := (List.flatMap c0_TImpl_Geom a1.Kids)) rfl rfl (ltb rfl) rfl el25 (by decide) (lenN _ 7 c0_TImpl_Geom_len _) ?_)
  refine AO.guardY rfl rfl rfl q42 (AOp.ineq rfl rfl (ltb rfl) rfl rfl ?_)
  refine AO.op rfl (AOp.pickN rfl rfl (ltb rfl) rfl q42 rfl ?_)
  refine AO.nil ?_
  exact ⟨(!decide (((a0.Kids.length : Nat) : Int) = ((a1.Kids.length : Nat) : Int))), _, rfl, (LeL.refl _), rfl, rfl, h0⟩
 intro g1 h0
 unfold p_SameGeom_k1 at h0
 refine AC.cond rfl (fun q2 => ?_) (fun q2 => ?_)
 ·replace h0 := cT h0 q2
  refine AC.seq ?_
  refine AC.region ?_
  refine AO.op rfl (AOp.assign rfl rfl (ltb rfl) rfl ?_)
  refine AO.nil ?_
  change AC _ _ _ _
  refine AC.ret ?_
  change RetQ _ _ _ .ret _
  obtain rfl := Option.some.inj h0
  refine retq rfl rfl
 replace h0 := cF h0 q2
 refine AC.skip ?_
 change AC _ _ _ _
 refine AC.seq ?_
 refine AC.seq ?_
 refine AC.region ?_
 refine AO.op rfl (AOp.fieldAddr rfl rfl (ltb rfl) rfl fo27_5 ?_)
 refine AO.op rfl (AOp.load1 rfl rfl (ltb rfl) rfl agg24 rfl rfl ?_)
 refine AO.op rfl (AOp.lenDs (n := a0.Endss.length) (cells := (List.map keS3 a0.Endss)) rfl rfl (ltb rfl) rfl el24 (by decide) (len1 _ _) ?_)
 refine AO.op rfl (AOp.move rfl rfl (ltb rfl) rfl ?_)
 refine AO.nil ?_
 change AC _ _ _ _
 obtain ⟨o3, l4, h0⟩ := bind_elim h0
 refine AC.joinE (V := Unit) [2, 3] [] 2 (fun g5 => []) (fun g5 => [.fix 27 [.d (di .i64 a0.Kind), .d (di .i64 a0.Layout), .d (di .i64 a0.SRID), .d (eS1 a0.Flat), .d (eS2 a0.Ends), .d (eS3 a0.Endss), .d (eS0 a0.Kids)], .fix 27 [.d (di .i64 a1.Kind), .d (di .i64 a1.Layout), .d (di .i64 a1.SRID), .d (eS1 a1.Flat), .d (eS2 a1.Ends), .d (eS3 a1.Endss), .d (eS0 a1.Kids)]]) (fun g5 => (p_SameGeom_k2 a0 a1 F Rec_) g5 = some r0) rfl ?_ ?_
 ·refine AC.block ?_
  refine AC.loopP (V := Int) (p_SameGeom_l5 a0 a1 F) o3 [2, 3, 63, 64] [65] 2 (fun g21 => [(65, .d (di .i64 g21))]) (fun g21 => [.fix 27 [.d (di .i64 a0.Kind), .d (di .i64 a0.Layout), .d (di .i64 a0.SRID), .d (eS1 a0.Flat), .d (eS2 a0.Ends), .d (eS3 a0.Endss), .d (eS0 a0.Kids)], .fix 27 [.d (di .i64 a1.Kind), .d (di .i64 a1.Layout), .d (di .i64 a1.SRID), .d (eS1 a1.Flat), .d (eS2 a1.Ends), .d (eS3 a1.Endss), .d (eS0 a1.Kids)]]) F (0 : Int) l4 rfl rfl (LeL.refl _) rfl rfl ?_
  intro n23 g21 h1
  unfold p_SameGeom_l5 at h1
  refine AC.seq ?_
  refine AC.region ?_
  refine AO.op rfl (AOp.ilss rfl rfl (ltb rfl) rfl rfl ?_)
  refine AO.nil ?_
  change AC _ _ _ _
  refine AC.seq ?_
  refine AC.cond rfl (fun q24 => ?_) (fun q24 => ?_)
  ·replace h1 := cT h1 q24
   refine AC.skip ?_
   change AC _ _ _ _
   refine AC.seq ?_
   refine AC.block ?_
   refine AC.seq ?_
   refine AC.region ?_
   refine AO.op rfl (AOp.move rfl rfl (ltb rfl) rfl ?_)
   obtain ⟨x25, q26, h1⟩ := idx_elim h1
   refine AO.op rfl (AOp.indexDs (cells := (List.map keS3 a0.Endss)) rfl rfl (ltb rfl) rfl rfl el24 (by decide) q26.1 (lt1 q26.2) ?_)
   refine AO.op rfl (AOp.loadEp rfl rfl (ltb rfl) rfl agg23 (at1 q26.2) ?_)
   refine AO.op rfl (AOp.assign rfl rfl (ltb rfl) rfl ?_)
   refine AO.op rfl (AOp.assign rfl rfl (ltb rfl) rfl ?_)
   refine AO.nil ?_
   change AC _ _ _ _
   refine AC.seq ?_
   refine AC.region ?_
   refine AO.op rfl (AOp.move rfl rfl (ltb rfl) rfl ?_)
   refine AO.op rfl (AOp.fieldAddr rfl rfl (ltb rfl) rfl fo27_5 ?_)
   refine AO.op rfl (AOp.load1 rfl rfl (ltb rfl) rfl agg24 rfl rfl ?_)
   refine AO.op rfl (AOp.move rfl rfl (ltb rfl) rfl ?_)
   obtain ⟨x27, q28, h1⟩ := idx_elim h1
   refine AO.op rfl (AOp.indexDs (cells := (List.map keS3 a1.Endss)) rfl rfl (ltb rfl) rfl rfl el24 (by decide) q28.1 (lt1 q28.2) ?_)
   refine AO.op rfl (AOp.loadEp rfl rfl (ltb rfl) rfl agg23 (at1 q28.2) ?_)
   obtain ⟨y29, q30, h1⟩ := bind_elim h1
   refine AO.op rfl (AOp.callD rfl rfl (ltb rfl) rfl rfl (w_sameInts F x25 x27 y29 q30) ?_)
   rintro _ rfl
   refine AO.op rfl (AOp.bnot rfl rfl (ltb rfl) rfl ?_)
   refine AO.nil ?_
   change AC _ _ _ _
   refine AC.cond rfl (fun q31 => ?_) (fun q31 => ?_)
   ·replace h1 := cT h1 q31
    refine AC.seq ?_
    refine AC.region ?_
    refine AO.op rfl (AOp.assign rfl rfl (ltb rfl) rfl ?_)
    refine AO.nil ?_
    change AC _ _ _ _
    refine AC.ret ?_
    change RetQ _ _ _ .ret _
    obtain rfl := Option.some.inj h1
    replace h0 := aftR h0
    obtain rfl := Option.some.inj h0
    refine retq rfl rfl
   replace h1 := cF h1 q31
   refine AC.skip ?_
   change AC _ _ _ _
   refine AC.region ?_
   obtain ⟨q32, h1⟩ := need_elim h1
   refine AO.op rfl (AOp.iadd rfl rfl (ltb rfl) rfl rfl rfl q32.1 q32.2 ?_)
   refine AO.op rfl (AOp.move rfl rfl (ltb rfl) rfl ?_)
   refine AO.nil ?_
   exact ⟨(g21 + (1 : Int)), _, rfl, (LeL.refl _), rfl, rfl, h1⟩
  replace h1 := cF h1 q24
  refine AC.exit ?_
  obtain rfl := Option.some.inj h1
  exact ⟨(), _, rfl, (LeL.refl _), rfl, rfl, aftL h0⟩
 intro g5 h0
 unfold p_SameGeom_k2 at h0
 change AC _ _ _ _
 refine AC.seq ?_
 refine AC.seq ?_
 refine AC.region ?_
 refine AO.op rfl (AOp.fieldAddr rfl rfl (ltb rfl) rfl fo27_6 ?_)
 refine AO.op rfl (AOp.load1 rfl rfl (ltb rfl) rfl agg25 rfl rfl ?_)
 refine AO.op rfl (AOp.lenDs (n := a0.Kids.length) (cells := (List.flatMap c0_TImpl_Geom a0.Kids)) rfl rfl (ltb rfl) rfl el25 (by decide) (lenN _ 7 c0_TImpl_Geom_len _) ?_)
 refine AO.op rfl (AOp.move rfl rfl (ltb rfl) rfl ?_)
 refine AO.nil ?_
 change AC _ _ _ _
 obtain ⟨o6, l7, h0⟩ := bind_elim h0
 refine AC.joinE (V := Unit) [] [] 2 (fun g8 => []) (fun g8 => [.fix 27 [.d (di .i64 a0.Kind), .d (di .i64 a0.Layout), .d (di .i64 a0.SRID), .d (eS1 a0.Flat), .d (eS2 a0.Ends), .d (eS3 a0.Endss), .d (eS0 a0.Kids)], .fix 27 [.d (di .i64 a1.Kind), .d (di .i64 a1.Layout), .d (di .i64 a1.SRID), .d (eS1 a1.Flat), .d (eS2 a1.Ends), .d (eS3 a1.Endss), .d (eS0 a1.Kids)]]) (fun g8 => p_SameGeom_k3 g8 = some r0) rfl ?_ ?_
 ·refine AC.block ?_
  refine AC.loopP (V := Int) (p_SameGeom_l4 a0 a1 Rec_) o6 [3, 80, 81] [82] 2 (fun g9 => [(82, .d (di .i64 g9))]) (fun g9 => [.fix 27 [.d (di .i64 a0.Kind), .d (di .i64 a0.Layout), .d (di .i64 a0.SRID), .d (eS1 a0.Flat), .d (eS2 a0.Ends), .d (eS3 a0.Endss), .d (eS0 a0.Kids)], .fix 27 [.d (di .i64 a1.Kind), .d (di .i64 a1.Layout), .d (di .i64 a1.SRID), .d (eS1 a1.Flat), .d (eS2 a1.Ends), .d (eS3 a1.Endss), .d (eS0 a1.Kids)]]) F (0 : Int) l7 rfl rfl (LeL.refl _) rfl rfl ?_
  intro n11 g9 h1
  unfold p_SameGeom_l4 at h1
  refine AC.seq ?_
  refine AC.region ?_
  refine AO.op rfl (AOp.ilss rfl rfl (ltb rfl) rfl rfl ?_)
  refine AO.nil ?_
  change AC _ _ _ _
  refine AC.seq ?_
  refine AC.cond rfl (fun q12 => ?_) (fun q12 => ?_)
  ·replace h1 := cT h1 q12
   refine AC.skip ?_
   change AC _ _ _ _
   refine AC.seq ?_
   refine AC.block ?_
   refine AC.seq ?_
   refine AC.region ?_
   refine AO.op rfl (AOp.move rfl rfl (ltb rfl) rfl ?_)
   obtain ⟨x13, q14, h1⟩ := idx_elim h1
   refine AO.op rfl (AOp.indexDs (cells := (List.flatMap c0_TImpl_Geom a0.Kids)) rfl rfl (ltb rfl) rfl rfl el25 (by decide) q14.1 (ltN 7 c0_TImpl_Geom_len (by decide) q14.2) ?_)
   refine AO.op rfl (AOp.loadEpN rfl rfl (ltb rfl) rfl agg27 size27 (leN 7 c0_TImpl_Geom_len q14.2) ((atN 7 c0_TImpl_Geom_len q14.2).trans (c0_TImpl_Geom_eq x13)) ?_)
   refine AO.op rfl (AOp.alloc rfl rfl (ltb rfl) zero27 rfl ?_)
   refine AO.op rfl (AOp.assign rfl rfl (ltb rfl) rfl ?_)
   refine AO.op rfl (AOp.store rfl rfl rfl rfl size27 rfl rfl rfl (leb rfl) ?_)
   refine AO.nil ?_
   change AC _ _ _ _
   refine AC.seq ?_
   refine AC.draw 8 mixed (by kernel_rfl) ?_
   refine AD.op [8] rfl (by kernel_rfl) rfl rfl (fun _ _ h => AOp.loadN rfl rfl (ltb rfl) rfl agg27 size27 rfl (leb rfl) rfl h) ?_
   refine AD.op [3] rfl (by kernel_rfl) rfl rfl (fun _ _ h => AOp.fieldAddr rfl rfl (ltb rfl) rfl fo27_6 h) ?_
   refine AD.op [88] rfl (by kernel_rfl) rfl rfl (fun _ _ h => AOp.load1 rfl rfl (ltb rfl) rfl agg25 rfl rfl h) ?_
   refine AD.op [7] rfl (by kernel_rfl) rfl rfl (fun _ _ h => AOp.move rfl rfl (ltb rfl) rfl h) ?_
   obtain ⟨x15, q16, h1⟩ := idx_elim h1
   refine AD.op [89, 90] rfl (by kernel_rfl) rfl rfl (fun _ _ h => AOp.indexDs (cells := (List.flatMap c0_TImpl_Geom a1.Kids)) rfl rfl (ltb rfl) rfl rfl el25 (by decide) q16.1 (ltN 7 c0_TImpl_Geom_len (by decide) q16.2) h) ?_
   refine AD.op [91] rfl (by kernel_rfl) rfl rfl (fun _ _ h => AOp.loadEpN rfl rfl (ltb rfl) rfl agg27 size27 (leN 7 c0_TImpl_Geom_len q16.2) ((atN 7 c0_TImpl_Geom_len q16.2).trans (c0_TImpl_Geom_eq x15)) h) ?_
   obtain ⟨y17, q18, h1⟩ := bind_elim h1
   refine AD.op [87, 92] rfl (by kernel_rfl) rfl rfl (fun _ _ h => AOp.callD rfl rfl (ltb rfl) rfl rfl (hR x13 x15 y17 q18) (by rintro _ rfl; exact h)) ?_
   refine AD.op [93] rfl (by kernel_rfl) rfl rfl (fun _ _ h => AOp.bnot rfl rfl (ltb rfl) rfl h) ?_
   refine AD.done ?_
   refine AO.nil ?_
   change AC _ _ _ _
   refine AC.cond rfl (fun q19 => ?_) (fun q19 => ?_)
   ·replace h1 := cT h1 q19
    refine AC.seq ?_
    refine AC.region ?_
    refine AO.op rfl (AOp.assign rfl rfl (ltb rfl) rfl ?_)
    refine AO.nil ?_
    change AC _ _ _ _
    refine AC.ret ?_
    change RetQ _ _ _ .ret _
    obtain rfl := Option.some.inj h1
    replace h0 := aftR h0
    obtain rfl := Option.some.inj h0
    refine retq rfl rfl
   replace h1 := cF h1 q19
   refine AC.skip ?_
   change AC _ _ _ _
   refine AC.region ?_
   obtain ⟨q20, h1⟩ := need_elim h1
   refine AO.op rfl (AOp.iadd rfl rfl (ltb rfl) rfl rfl rfl q20.1 q20.2 ?_)
   refine AO.op rfl (AOp.move rfl rfl (ltb rfl) rfl ?_)
   refine AO.nil ?_
   exact ⟨(g9 + (1 : Int)), _, rfl, (LeL.refl _), rfl, rfl, h1⟩
  replace h1 := cF h1 q12
  refine AC.exit ?_
  obtain rfl := Option.some.inj h1
  exact ⟨(), _, rfl, (LeL.refl _), rfl, rfl, aftL h0⟩
 intro g8 h0
 unfold p_SameGeom_k3 at h0
 change AC _ _ _ _
 refine AC.seq ?_
 refine AC.region ?_
 refine AO.op rfl (AOp.assign rfl rfl (ltb rfl) rfl ?_)
 refine AO.nil ?_
 change AC _ _ _ _
 refine AC.ret ?_
 change RetQ _ _ _ .ret _
 obtain rfl := Option.some.inj h0
 refine retq rfl rfl
theorem w_SameGeom : ∀ (F : Nat) (a0 : TImpl_Geom) (a1 : TImpl_Geom) (r0 : Bool), p_SameGeom F a0 a1 = some r0 → FnD Try.prog 15 [e_TImpl_Geom a0, e_TImpl_Geom a1] (fun r => r = dbool r0)
 | 0, _, _, _, h => by cases h
 | F + 1, a0, a1, r0, h => w_SameGeom_b _ (fun a0 a1 r0 h => w_SameGeom F a0 a1 r0 h) F a0 a1 r0 h

set_option maxRecDepth 100000 in
set_option maxHeartbeats 4000000 in
/-- pub-orthodrome/laws.FnReverse -/
theorem w_FnReverse (F : Nat) (a0 : TImpl_Geom) (r0 : Bool) (h0 : p_FnReverse F a0 = some r0) : FnD Try.prog 5 [e_TImpl_Geom a0] (fun r => r = dbool r0) := by
 refine FnD.of (by kernel_rfl) Try.func5 rfl Try.ntmps5 rfl (leb rfl) fun W ok => ?_
 unfold p_FnReverse at h0
 refine AC.seq ?_
 refine AC.region ?_
 refine AO.op rfl (AOp.box rfl rfl (ltb rfl) rfl rfl ?_)
 refine AO.op rfl (AOp.assign rfl rfl (ltb rfl) rfl ?_)
 refine AO.nil ?_
 change AC _ _ _ _
 refine AC.seq ?_
 refine AC.seq ?_
 refine AC.region ?_
 refine AO.op rfl (AOp.loadN rfl rfl (ltb rfl) rfl agg27 size27 rfl (leb rfl) rfl ?_)
 obtain ⟨y1, q2, h0⟩ := bind_elim h0
 refine AO.op rfl (AOp.callD rfl rfl (ltb rfl) rfl rfl (w_zzFits2 F a0 y1 q2) ?_)
 rintro _ rfl
 refine AO.op rfl (AOp.bnot rfl rfl (ltb rfl) rfl ?_)
 refine AO.nil ?_
 change AC _ _ _ _
 refine AC.cond rfl (fun q3 => ?_) (fun q3 => ?_)
 ·replace h0 := cT h0 q3
  refine AC.seq ?_
  refine AC.region ?_
  refine AO.op rfl (AOp.assign rfl rfl (ltb rfl) rfl ?_)
  refine AO.nil ?_
  change AC _ _ _ _
  refine AC.ret ?_
  change RetQ _ _ _ .ret _
  obtain rfl := Option.some.inj h0
  refine retq rfl rfl
 replace h0 := cF h0 q3
 refine AC.skip ?_
 change AC _ _ _ _
 refine AC.seq ?_
 refine AC.seq ?_
 refine AC.region ?_
 refine AO.op rfl (AOp.loadN rfl rfl (ltb rfl) rfl agg27 size27 rfl (leb rfl) rfl ?_)
 obtain ⟨y4, q5, h0⟩ := bind_elim h0
 refine AO.op rfl (AOp.callD rfl rfl (ltb rfl) rfl rfl (w_gTurns F a0 y4 q5) ?_)
 rintro _ rfl
 refine AO.op rfl (AOp.bnot rfl rfl (ltb rfl) rfl ?_)
 refine AO.nil ?_
 change AC _ _ _ _
 refine AC.cond rfl (fun q6 => ?_) (fun q6 => ?_)
 ·replace h0 := cT h0 q6
  refine AC.seq ?_
  refine AC.region ?_
  refine AO.op rfl (AOp.assign rfl rfl (ltb rfl) rfl ?_)
  refine AO.nil ?_
  change AC _ _ _ _
  refine AC.ret ?_
  change RetQ _ _ _ .ret _
  obtain rfl := Option.some.inj h0
  refine retq rfl rfl
 replace h0 := cF h0 q6
 refine AC.skip ?_
 change AC _ _ _ _
 refine AC.seq ?_
 refine AC.region ?_
 refine AO.op rfl (AOp.loadN rfl rfl (ltb rfl) rfl agg27 size27 rfl (leb rfl) rfl ?_)
 obtain ⟨y7, q8, h0⟩ := bind_elim h0
 refine AO.op rfl (AOp.callD rfl rfl (ltb rfl) rfl rfl (w_Reverse F a0 y7 q8) ?_)
 rintro _ rfl
 refine AO.op rfl (AOp.move rfl rfl (ltb rfl) rfl ?_)
 first | refine AO.op rfl (AOp.extractD rfl rfl (ltb rfl) rfl rfl ?_) | refine AO.op rfl (AOp.extract rfl rfl (ltb rfl) rfl rfl ?_)
 first | refine AO.op rfl (AOp.extractD rfl rfl (ltb rfl) rfl rfl ?_) | refine AO.op rfl (AOp.extract rfl rfl (ltb rfl) rfl rfl ?_)
 refine AO.op rfl (AOp.alloc rfl rfl (ltb rfl) zero27 rfl ?_)
 refine AO.op rfl (AOp.store rfl rfl rfl rfl size27 rfl rfl rfl (leb rfl) ?_)
 refine AO.op rfl (AOp.assign rfl rfl (ltb rfl) rfl ?_)
 refine AO.nil ?_
 change AC _ _ _ _
 refine AC.seq ?_
 refine AC.draw 8 mixed (by kernel_rfl) ?_
 refine AD.op [4] rfl (by kernel_rfl) rfl rfl (fun _ _ h => AOp.move rfl rfl (ltb rfl) rfl h) ?_
 refine AD.op [16] rfl (by kernel_rfl) rfl rfl (fun _ _ h => AOp.move rfl rfl (ltb rfl) rfl h) ?_
 refine AD.dec y7.2 (fun q9 => ?_) (fun q9 => ?_)
 ·replace h0 := cT h0 q9
  refine AD.opY [3, 17] rfl rfl rfl q9 (by kernel_rfl) rfl rfl (fun _ _ h => AOp.loadN rfl rfl (ltb rfl) rfl agg27 size27 rfl (leb rfl) rfl h) ?_
  refine AD.opY [1, 17] rfl rfl rfl q9 (by kernel_rfl) rfl rfl (fun _ _ h => AOp.loadN rfl rfl (ltb rfl) rfl agg27 size27 rfl (leb rfl) rfl h) ?_
  obtain ⟨y10, q11, h0⟩ := bind_elim h0
  refine AD.opY [17, 19] rfl rfl rfl q9 (by kernel_rfl) rfl rfl (fun _ _ h => AOp.callD rfl rfl (ltb rfl) rfl rfl (w_Backward F a0 y10 q11) (by rintro _ rfl; exact h)) ?_
  obtain ⟨y12, q13, h0⟩ := bind_elim h0
  refine AD.opY [17, 18, 20] rfl rfl rfl q9 (by kernel_rfl) rfl rfl (fun _ _ h => AOp.callD rfl rfl (ltb rfl) rfl rfl (w_SameGeom F y7.1 y10 y12 q13) (by rintro _ rfl; exact h)) ?_
  refine AD.op [17, 21] rfl (by kernel_rfl) rfl rfl (fun _ _ h => AOp.pick rfl rfl (ltb rfl) rfl q9 rfl h) ?_
  refine AD.op [22] rfl (by kernel_rfl) rfl rfl (fun _ _ h => AOp.assign rfl rfl (ltb rfl) rfl h) ?_
  refine AD.done ?_
  refine AO.nil ?_
  change AC _ _ _ _
  refine AC.ret ?_
  change RetQ _ _ _ .ret _
  obtain rfl := Option.some.inj h0
  refine retq rfl rfl
 replace h0 := cF h0 q9
 refine AD.opN rfl rfl rfl (ltb rfl) rfl q9 ?_
 refine AD.opN rfl rfl rfl (ltb rfl) rfl q9 ?_
 refine AD.opN rfl rfl rfl (ltb rfl) rfl q9 ?_
 refine AD.opN rfl rfl rfl (ltb rfl) rfl q9 ?_
 refine AD.op [17, 21] rfl (by kernel_rfl) rfl rfl (fun _ _ h => AOp.pickN rfl rfl (ltb rfl) rfl q9 rfl h) ?_
 refine AD.op [22] rfl (by kernel_rfl) rfl rfl (fun _ _ h => AOp.assign rfl rfl (ltb rfl) rfl h) ?_
 refine AD.done ?_
 refine AO.nil ?_
 change AC _ _ _ _
 refine AC.ret ?_
 change RetQ _ _ _ .ret _
 obtain rfl := Option.some.inj h0
 refine retq rfl rfl

end Go.Proofs.Ytbgdonedjgkhiaa.Wk
