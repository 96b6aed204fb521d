/- Proved: more of it. -/
import Derived.Test.YtbinnbmpedmabaaGreatWEp_1
namespace Go.Proofs.YtbinnbmpedmabaaGreat.Wk
open Go.Vm
set_option linter.unusedVariables false
set_option linter.unusedSimpArgs false
set_option maxRecDepth 100000 in
set_option maxHeartbeats 4000000 in
theorem w_WriteEWKB (F : Nat) (a0 : TImpl_Geom) (a1 : Bool) (r0 : ((List Int) × Bool)) (h0 : p_WriteEWKB F a0 a1 = some r0) : FnD Tryz.prog 7 [e_TImpl_Geom a0, dbool a1] (fun r => r = .tu [eS6 r0.1, dbool r0.2]) := by
 refine FnD.wrap (g := 17) (m := 2) (fun vs w h => idle17 vs w h) (by kernel_rfl) Tryz.func7 rfl Tryz.ntmps7 rfl (leb rfl) fun W ok => ?_
 unfold p_WriteEWKB at h0
 refine AW.seq ?_
 refine AC.region ?_
 refine AO.op rfl (AOp.box rfl rfl lb rfl rfl ?_)
 refine AO.op rfl (AOp.alloc rfl rfl lb zero30 rfl ?_)
 refine AO.op rfl (AOp.alloc rfl rfl lb zero4 rfl ?_)
 refine AO.nil ?_
 refine ⟨rfl, ?_⟩
 refine AW.defer (caps := [.tmp 4, .tmp 5]) rfl rfl rfl lb rfl rfl rfl rfl (by kernel_rfl) rfl fun df => ?_
 refine AC.sr ?_
 refine AO.op rfl (AOp.loadN rfl rfl lb rfl agg27 size27 rfl (leb rfl) rfl ?_)
 obtain ⟨y1, q2, h0⟩ := bind_elim h0
 refine AO.op rfl (AOp.callD rfl rfl lb rfl rfl (w_geometry F a0 y1 q2) ?_)
 rintro _ rfl
 refine AO.mv 1 rfl ?_
 refine AO.op rfl (AOp.callD rfl rfl lb rfl rfl (wb_DoorOrder a1) ?_)
 rintro _ rfl
 refine AO.op rfl (AOp.inl [4, 5] (by kernel_rfl) Tryz.func18 rfl Tryz.ntmps18 rfl rfl lb rfl (leb rfl) rfl ?_)
 intro fr3
 refine AC.smn 2 rfl ?_
 refine AC.sr ?_
 refine AO.op rfl (AOp.inl [0, 1] (by kernel_rfl) Tryz.func26 rfl Tryz.ntmps26 rfl rfl lb rfl (leb rfl) rfl ?_)
 intro fr4
 refine AC.smn 1 rfl ?_
 refine AC.sm 1 rfl ?_
 refine AO.op rfl (AOp.build rfl rfl lb zero108 rfl places108 rfl rfl ?_)
 refine AO.op rfl (AOp.box rfl rfl lb rfl rfl ?_)
 refine AO.mv 1 rfl ?_
 refine AO.objs (obs' := [.fix 27 [.d (di .i64 a0.Kind), .d (di .i64 a0.Layout), .d (di .i64 a0.SRID), .d (eS1 a0.Flat), .d (eS2 a0.Ends), .d (eS3 a0.Endss), .d (eS0 a0.Kids)], .fix 30 [.d (.v (.slice none 0 0))], .fix 4 [.d (dbool false)], .frame fr3 [(4, .ptr 1 0), (5, .ptr 2 0)], .frame fr4 [(0, .d (eIfc y1)), (1, .d (.ifc (bif a1 then 99 else 100) (.ag [])))], .fix 108 [.d (.v (.slice none 0 0)), .d (di .i64 (0 : Int)), .d (di .i8 (0 : Int))]]) rfl ?_
 refine AO.nS ?_
 refine AC.ret ?_
 refine inlret (ob' := [.fix 27 [.d (di .i64 a0.Kind), .d (di .i64 a0.Layout), .d (di .i64 a0.SRID), .d (eS1 a0.Flat), .d (eS2 a0.Ends), .d (eS3 a0.Endss), .d (eS0 a0.Kids)], .fix 30 [.d (.v (.slice none 0 0))], .fix 4 [.d (dbool false)], .frame fr3 [(4, .ptr 1 0), (5, .ptr 2 0)], .dead, .fix 108 [.d (.v (.slice none 0 0)), .d (di .i64 (0 : Int)), .d (di .i8 (0 : Int))]]) (e' := [(0, .d (eIfc y1)), (1, .d (.ifc (bif a1 then 99 else 100) (.ag [])))]) (r := .ptr 5 0) rfl rfl rfl ?_
 change AO _ _ _ _ _
 refine AO.mv 1 rfl ?_
 refine AO.objs (obs' := [.fix 27 [.d (di .i64 a0.Kind), .d (di .i64 a0.Layout), .d (di .i64 a0.SRID), .d (eS1 a0.Flat), .d (eS2 a0.Ends), .d (eS3 a0.Endss), .d (eS0 a0.Kids)], .fix 30 [.d (.v (.slice none 0 0))], .fix 4 [.d (dbool false)], .frame fr3 [(4, .ptr 1 0), (5, .ptr 2 0)], .dead, .fix 108 [.d (.v (.slice none 0 0)), .d (di .i64 (0 : Int)), .d (di .i8 (0 : Int))]]) rfl ?_
 refine AO.nS ?_
 refine AC.seq ?_
 refine AC.sm 1 rfl ?_
 refine AO.op rfl (AOp.makeIfc rfl rfl lb rfl conc61 ?_)
 refine AO.mv 2 rfl ?_
 refine AO.dec (decide (y1.dt = 67)) (fun q5 => ?_) (fun q5 => ?_)
 ·replace h0 := cT h0 q5
  obtain ⟨y6, q7, h0⟩ := bind_elim h0
  refine AO.sub 12 rfl (eIfc_le q5 q7) ?_
  refine AO.adoptO 5 0 5 1 rfl rfl ?_
  obtain ⟨y8, q9, h0⟩ := bind_elim h0
  refine AO.op rfl (AOp.callH (hs := [5, 6]) (unp := [6]) (EntersS.call (by kernel_rfl) rfl rfl) (wh_Write_Point F a1 y6 (0 : Int) [] _ q9) lb (.cons (SVLe.refl _) (.cons (SVLe.refl _) (.cons (SVLe.refl _) .nil))) rfl rfl rfl (.cons rfl (.cons rfl .nil)) (.cons ⟨rfl, rfl⟩ (.cons ⟨rfl, rfl⟩ .nil)) rfl (.cons (.inr rfl) (.cons (.inr rfl) (.cons (.inr rfl) (.cons (.inr rfl) (.cons (.inr rfl) (.cons (.inl rfl) (.cons (.inl rfl) .nil))))))) rfl ?_)
  rintro _ _ ⟨rfl, rfl⟩
  refine ⟨.d (.v (.nilIface)), [.fix 108 [.own 6, .d (di .i64 (0 : Int)), .d (di .i8 y8.1)], .grow 5 1 (List.map keS6 y8.2)], rfl, (.cons rfl (.cons rfl .nil)), ?_⟩
  refine AO.objs (obs' := [.fix 27 [.d (di .i64 a0.Kind), .d (di .i64 a0.Layout), .d (di .i64 a0.SRID), .d (eS1 a0.Flat), .d (eS2 a0.Ends), .d (eS3 a0.Endss), .d (eS0 a0.Kids)], .fix 30 [.d (.v (.slice none 0 0))], .fix 4 [.d (dbool false)], .frame fr3 [(4, .ptr 1 0), (5, .ptr 2 0)], .dead, .fix 108 [.own 6, .d (di .i64 (0 : Int)), .d (di .i8 y8.1)], .grow 5 1 (List.map keS6 y8.2)]) rfl ?_
  refine AO.mn 1 rfl ?_
  refine AC.sm 1 rfl ?_
  refine AO.op rfl (AOp.nilNeq rfl rfl lb rfl imeth44 ?_)
  refine AO.nS ?_
  refine AC.condF rfl rfl ?_
  refine AC.skip ?_
  change AC _ _ _ _
  refine AC.sm 1 rfl ?_
  refine AO.op rfl (AOp.inl [] (by kernel_rfl) Tryz.func28 rfl Tryz.ntmps28 rfl rfl lb rfl (leb rfl) rfl ?_)
  intro fr11
  refine AC.sm 1 rfl ?_
  refine AO.objs (obs' := [.fix 27 [.d (di .i64 a0.Kind), .d (di .i64 a0.Layout), .d (di .i64 a0.SRID), .d (eS1 a0.Flat), .d (eS2 a0.Ends), .d (eS3 a0.Endss), .d (eS0 a0.Kids)], .fix 30 [.d (.v (.slice none 0 0))], .fix 4 [.d (dbool false)], .frame fr3 [(4, .ptr 1 0), (5, .ptr 2 0)], .dead, .fix 108 [.own 6, .d (di .i64 (0 : Int)), .d (di .i8 y8.1)], .grow 5 1 (List.map keS6 y8.2), .frame fr11 []]) rfl ?_
  refine AO.nS ?_
  refine AC.seq ?_
  refine AC.drawS [0, 1, 2, 3, 4, 5, 6, 7] [] [8, 9] (fun L => [.fix 27 [.d (di .i64 a0.Kind), .d (di .i64 a0.Layout), .d (di .i64 a0.SRID), .d (eS1 a0.Flat), .d (eS2 a0.Ends), .d (eS3 a0.Endss), .d (eS0 a0.Kids)], .fix 30 [.d (.v (.slice none 0 0))], .fix 4 [.d (dbool false)], .frame fr3 [(4, .ptr 1 0), (5, .ptr 2 0)], .dead, .fix 108 [.own 6, .d (di .i64 (0 : Int)), .d (di .i8 y8.1)], .grow 5 1 (List.map keS6 y8.2), .frame fr11 []]) [] mixed (by kernel_rfl) (fun _ _ _ => rfl) rfl ?_
  refine AS.op [0] [] [] [] rfl rfl rfl (by kernel_rfl) (by kernel_rfl) rfl rfl (fun _ _ _ h => AOp.move rfl rfl lb rfl h) (by kernel_rfl) ?_
  refine AS.op [3] [] [] [] rfl rfl rfl (by kernel_rfl) (by kernel_rfl) rfl rfl (fun _ _ _ h => AOp.nilCheck rfl rfl lb rfl rfl h) (by kernel_rfl) ?_
  refine AS.op [4] [] [] [] rfl rfl rfl (by kernel_rfl) (by kernel_rfl) rfl rfl (fun _ _ _ h => AOp.fieldAddr rfl rfl lb rfl fo108_0 h) (by kernel_rfl) ?_
  refine AS.op [5] [] [] [] rfl rfl rfl (by kernel_rfl) (by kernel_rfl) rfl rfl (fun _ _ _ h => AOp.load1 rfl rfl lb rfl agg30 rfl rfl h) (by kernel_rfl) ?_
  refine AS.op [0] [] [] [] rfl rfl rfl (by kernel_rfl) (by kernel_rfl) rfl rfl (fun _ _ _ h => AOp.move rfl rfl lb rfl h) (by kernel_rfl) ?_
  refine AS.op [7] [] [] [] rfl rfl rfl (by kernel_rfl) (by kernel_rfl) rfl rfl (fun _ _ _ h => AOp.nilCheck rfl rfl lb rfl rfl h) (by kernel_rfl) ?_
  refine AS.op [8] [] [] [] rfl rfl rfl (by kernel_rfl) (by kernel_rfl) rfl rfl (fun _ _ _ h => AOp.fieldAddr rfl rfl lb rfl fo108_1 h) (by kernel_rfl) ?_
  refine AS.op [9] [] [] [] rfl rfl rfl (by kernel_rfl) (by kernel_rfl) rfl rfl (fun _ _ _ h => AOp.load1 rfl rfl lb rfl agg3 rfl rfl h) (by kernel_rfl) ?_
  refine AS.done ?_
  refine AO.objs (obs' := [.fix 27 [.d (di .i64 a0.Kind), .d (di .i64 a0.Layout), .d (di .i64 a0.SRID), .d (eS1 a0.Flat), .d (eS2 a0.Ends), .d (eS3 a0.Endss), .d (eS0 a0.Kids)], .fix 30 [.d (.v (.slice none 0 0))], .fix 4 [.d (dbool false)], .frame fr3 [(4, .ptr 1 0), (5, .ptr 2 0)], .dead, .fix 108 [.own 6, .d (di .i64 (0 : Int)), .d (di .i8 y8.1)], .grow 5 1 (List.map keS6 y8.2), .frame fr11 []]) rfl ?_
  refine AO.subO 5 rfl (.cons (SVLe.any _) (.cons (SVLe.refl _) (.cons (SVLe.refl _) .nil))) ?_
  refine AO.freezeG 6 rfl rfl rfl ?_
  obtain ⟨q12, h0⟩ := need_elim h0
  refine AO.op rfl (AOp.sliceD (cells := (List.map keS6 y8.2)) (n := y8.2.length) (l := ((0 : Int)).toNat) (hh := y8.2.length) rfl rfl lb rfl (.inr ⟨_, _, _, rfl, rfl, q12.1.1, rfl⟩) (.inl ⟨rfl, rfl⟩) el30 (by decide) (len1 _ _) q12.2.1 q12.2.2 (sub1 _ _ _ _) ?_)
  refine AO.mn 1 rfl ?_
  refine AC.ret ?_
  refine inlret (ob' := [.fix 27 [.d (di .i64 a0.Kind), .d (di .i64 a0.Layout), .d (di .i64 a0.SRID), .d (eS1 a0.Flat), .d (eS2 a0.Ends), .d (eS3 a0.Endss), .d (eS0 a0.Kids)], .fix 30 [.d (.v (.slice none 0 0))], .fix 4 [.d (dbool false)], .frame fr3 [(4, .ptr 1 0), (5, .ptr 2 0)], .dead, .fix 108 [.any, .d (di .i64 (0 : Int)), .d (di .i8 y8.1)], .dead, .dead]) (e' := []) (r := .d (eS6 ((y8.2.drop ((0 : Int)).toNat).take (y8.2.length - ((0 : Int)).toNat)))) rfl rfl rfl ?_
  change AO _ _ _ _ _
  refine AO.mv 2 rfl ?_
  refine AO.objs (obs' := [.fix 27 [.d (di .i64 a0.Kind), .d (di .i64 a0.Layout), .d (di .i64 a0.SRID), .d (eS1 a0.Flat), .d (eS2 a0.Ends), .d (eS3 a0.Endss), .d (eS0 a0.Kids)], .fix 30 [.d (.v (.slice none 0 0))], .fix 4 [.d (dbool false)], .frame fr3 [(4, .ptr 1 0), (5, .ptr 2 0)], .dead, .fix 108 [.any, .d (di .i64 (0 : Int)), .d (di .i8 y8.1)], .dead, .dead]) rfl ?_
  refine AO.nS ?_
  refine AC.ret ?_
  refine inlret (ob' := [.fix 27 [.d (di .i64 a0.Kind), .d (di .i64 a0.Layout), .d (di .i64 a0.SRID), .d (eS1 a0.Flat), .d (eS2 a0.Ends), .d (eS3 a0.Endss), .d (eS0 a0.Kids)], .fix 30 [.d (.v (.slice none 0 0))], .fix 4 [.d (dbool false)], .dead, .dead, .fix 108 [.any, .d (di .i64 (0 : Int)), .d (di .i8 y8.1)], .dead, .dead]) (e' := [(4, .ptr 1 0), (5, .ptr 2 0)]) (r := .tu [.d (eS6 ((y8.2.drop ((0 : Int)).toNat).take (y8.2.length - ((0 : Int)).toNat))), .d (.v (.nilIface))]) rfl rfl rfl ?_
  change AO _ _ _ _ _
  refine AO.mv 5 rfl ?_
  refine AO.objs (obs' := [.fix 27 [.d (di .i64 a0.Kind), .d (di .i64 a0.Layout), .d (di .i64 a0.SRID), .d (eS1 a0.Flat), .d (eS2 a0.Ends), .d (eS3 a0.Endss), .d (eS0 a0.Kids)], .fix 30 [.d (.v (.slice none 0 0))], .fix 4 [.d (dbool false)], .dead, .dead, .fix 108 [.any, .d (di .i64 (0 : Int)), .d (di .i8 y8.1)], .dead, .dead]) rfl ?_
  refine AO.nS ?_
  refine AC.seq ?_
  refine AC.sm 1 rfl ?_
  refine AO.op rfl (AOp.nilNeq rfl rfl lb rfl imeth44 ?_)
  refine AO.nS ?_
  refine AC.condF rfl rfl ?_
  refine AC.skip ?_
  change AC _ _ _ _
  refine AC.sm 1 rfl ?_
  refine AO.op rfl (AOp.store rfl rfl rfl rfl size30 rfl rfl rfl (leb rfl) ?_)
  refine AO.op rfl (AOp.store rfl rfl rfl rfl size4 rfl rfl rfl (leb rfl) ?_)
  refine AO.nS ?_
  refine AC.ret ?_
  change RetQ _ _ _ .ret _
  obtain rfl := Option.some.inj h0
  refine retq rfl rfl
 replace h0 := cF h0 q5
 refine AO.dec (decide (y1.dt = 70)) (fun q13 => ?_) (fun q13 => ?_)
 ·replace h0 := cT h0 q13
  obtain ⟨y14, q15, h0⟩ := bind_elim h0
  refine AO.sub 12 rfl (eIfc_le q13 q15) ?_
  refine AO.adoptO 5 0 5 1 rfl rfl ?_
  obtain ⟨y16, q17, h0⟩ := bind_elim h0
  refine AO.op rfl (AOp.callH (hs := [5, 6]) (unp := [6]) (EntersS.call (by kernel_rfl) rfl rfl) (wh_Write_LineString F a1 y14 (0 : Int) [] _ q17) lb (.cons (SVLe.refl _) (.cons (SVLe.refl _) (.cons (SVLe.refl _) .nil))) rfl rfl rfl (.cons rfl (.cons rfl .nil)) (.cons ⟨rfl, rfl⟩ (.cons ⟨rfl, rfl⟩ .nil)) rfl (.cons (.inr rfl) (.cons (.inr rfl) (.cons (.inr rfl) (.cons (.inr rfl) (.cons (.inr rfl) (.cons (.inl rfl) (.cons (.inl rfl) .nil))))))) rfl ?_)
  rintro _ _ ⟨rfl, rfl⟩
  refine ⟨.d (.v (.nilIface)), [.fix 108 [.own 6, .d (di .i64 (0 : Int)), .d (di .i8 y16.1)], .grow 5 1 (List.map keS6 y16.2)], rfl, (.cons rfl (.cons rfl .nil)), ?_⟩
  refine AO.objs (obs' := [.fix 27 [.d (di .i64 a0.Kind), .d (di .i64 a0.Layout), .d (di .i64 a0.SRID), .d (eS1 a0.Flat), .d (eS2 a0.Ends), .d (eS3 a0.Endss), .d (eS0 a0.Kids)], .fix 30 [.d (.v (.slice none 0 0))], .fix 4 [.d (dbool false)], .frame fr3 [(4, .ptr 1 0), (5, .ptr 2 0)], .dead, .fix 108 [.own 6, .d (di .i64 (0 : Int)), .d (di .i8 y16.1)], .grow 5 1 (List.map keS6 y16.2)]) rfl ?_
  refine AO.mn 1 rfl ?_
  refine AC.sm 1 rfl ?_
  refine AO.op rfl (AOp.nilNeq rfl rfl lb rfl imeth44 ?_)
  refine AO.nS ?_
  refine AC.condF rfl rfl ?_
  refine AC.skip ?_
  change AC _ _ _ _
  refine AC.sm 1 rfl ?_
  refine AO.op rfl (AOp.inl [] (by kernel_rfl) Tryz.func28 rfl Tryz.ntmps28 rfl rfl lb rfl (leb rfl) rfl ?_)
  intro fr19
  refine AC.sm 1 rfl ?_
  refine AO.objs (obs' := [.fix 27 [.d (di .i64 a0.Kind), .d (di .i64 a0.Layout), .d (di .i64 a0.SRID), .d (eS1 a0.Flat), .d (eS2 a0.Ends), .d (eS3 a0.Endss), .d (eS0 a0.Kids)], .fix 30 [.d (.v (.slice none 0 0))], .fix 4 [.d (dbool false)], .frame fr3 [(4, .ptr 1 0), (5, .ptr 2 0)], .dead, .fix 108 [.own 6, .d (di .i64 (0 : Int)), .d (di .i8 y16.1)], .grow 5 1 (List.map keS6 y16.2), .frame fr19 []]) rfl ?_
  refine AO.nS ?_
  refine AC.seq ?_
  refine AC.drawS [0, 1, 2, 3, 4, 5, 6, 7] [] [8, 9] (fun L => [.fix 27 [.d (di .i64 a0.Kind), .d (di .i64 a0.Layout), .d (di .i64 a0.SRID), .d (eS1 a0.Flat), .d (eS2 a0.Ends), .d (eS3 a0.Endss), .d (eS0 a0.Kids)], .fix 30 [.d (.v (.slice none 0 0))], .fix 4 [.d (dbool false)], .frame fr3 [(4, .ptr 1 0), (5, .ptr 2 0)], .dead, .fix 108 [.own 6, .d (di .i64 (0 : Int)), .d (di .i8 y16.1)], .grow 5 1 (List.map keS6 y16.2), .frame fr19 []]) [] mixed (by kernel_rfl) (fun _ _ _ => rfl) rfl ?_
  refine AS.op [0] [] [] [] rfl rfl rfl (by kernel_rfl) (by kernel_rfl) rfl rfl (fun _ _ _ h => AOp.move rfl rfl lb rfl h) (by kernel_rfl) ?_
  refine AS.op [3] [] [] [] rfl rfl rfl (by kernel_rfl) (by kernel_rfl) rfl rfl (fun _ _ _ h => AOp.nilCheck rfl rfl lb rfl rfl h) (by kernel_rfl) ?_
  refine AS.op [4] [] [] [] rfl rfl rfl (by kernel_rfl) (by kernel_rfl) rfl rfl (fun _ _ _ h => AOp.fieldAddr rfl rfl lb rfl fo108_0 h) (by kernel_rfl) ?_
  refine AS.op [5] [] [] [] rfl rfl rfl (by kernel_rfl) (by kernel_rfl) rfl rfl (fun _ _ _ h => AOp.load1 rfl rfl lb rfl agg30 rfl rfl h) (by kernel_rfl) ?_
  refine AS.op [0] [] [] [] rfl rfl rfl (by kernel_rfl) (by kernel_rfl) rfl rfl (fun _ _ _ h => AOp.move rfl rfl lb rfl h) (by kernel_rfl) ?_
  refine AS.op [7] [] [] [] rfl rfl rfl (by kernel_rfl) (by kernel_rfl) rfl rfl (fun _ _ _ h => AOp.nilCheck rfl rfl lb rfl rfl h) (by kernel_rfl) ?_
  refine AS.op [8] [] [] [] rfl rfl rfl (by kernel_rfl) (by kernel_rfl) rfl rfl (fun _ _ _ h => AOp.fieldAddr rfl rfl lb rfl fo108_1 h) (by kernel_rfl) ?_
  refine AS.op [9] [] [] [] rfl rfl rfl (by kernel_rfl) (by kernel_rfl) rfl rfl (fun _ _ _ h => AOp.load1 rfl rfl lb rfl agg3 rfl rfl h) (by kernel_rfl) ?_
  refine AS.done ?_
  refine AO.objs (obs' := [.fix 27 [.d (di .i64 a0.Kind), .d (di .i64 a0.Layout), .d (di .i64 a0.SRID), .d (eS1 a0.Flat), .d (eS2 a0.Ends), .d (eS3 a0.Endss), .d (eS0 a0.Kids)], .fix 30 [.d (.v (.slice none 0 0))], .fix 4 [.d (dbool false)], .frame fr3 [(4, .ptr 1 0), (5, .ptr 2 0)], .dead, .fix 108 [.own 6, .d (di .i64 (0 : Int)), .d (di .i8 y16.1)], .grow 5 1 (List.map keS6 y16.2), .frame fr19 []]) rfl ?_
  refine AO.subO 5 rfl (.cons (SVLe.any _) (.cons (SVLe.refl _) (.cons (SVLe.refl _) .nil))) ?_
  refine AO.freezeG 6 rfl rfl rfl ?_
  obtain ⟨q20, h0⟩ := need_elim h0
  refine AO.op rfl (AOp.sliceD (cells := (List.map keS6 y16.2)) (n := y16.2.length) (l := ((0 : Int)).toNat) (hh := y16.2.length) rfl rfl lb rfl (.inr ⟨_, _, _, rfl, rfl, q20.1.1, rfl⟩) (.inl ⟨rfl, rfl⟩) el30 (by decide) (len1 _ _) q20.2.1 q20.2.2 (sub1 _ _ _ _) ?_)
  refine AO.mn 1 rfl ?_
  refine AC.ret ?_
  refine inlret (ob' := [.fix 27 [.d (di .i64 a0.Kind), .d (di .i64 a0.Layout), .d (di .i64 a0.SRID), .d (eS1 a0.Flat), .d (eS2 a0.Ends), .d (eS3 a0.Endss), .d (eS0 a0.Kids)], .fix 30 [.d (.v (.slice none 0 0))], .fix 4 [.d (dbool false)], .frame fr3 [(4, .ptr 1 0), (5, .ptr 2 0)], .dead, .fix 108 [.any, .d (di .i64 (0 : Int)), .d (di .i8 y16.1)], .dead, .dead]) (e' := []) (r := .d (eS6 ((y16.2.drop ((0 : Int)).toNat).take (y16.2.length - ((0 : Int)).toNat)))) rfl rfl rfl ?_
  change AO _ _ _ _ _
  refine AO.mv 2 rfl ?_
  refine AO.objs (obs' := [.fix 27 [.d (di .i64 a0.Kind), .d (di .i64 a0.Layout), .d (di .i64 a0.SRID), .d (eS1 a0.Flat), .d (eS2 a0.Ends), .d (eS3 a0.Endss), .d (eS0 a0.Kids)], .fix 30 [.d (.v (.slice none 0 0))], .fix 4 [.d (dbool false)], .frame fr3 [(4, .ptr 1 0), (5, .ptr 2 0)], .dead, .fix 108 [.any, .d (di .i64 (0 : Int)), .d (di .i8 y16.1)], .dead, .dead]) rfl ?_
  refine AO.nS ?_
  refine AC.ret ?_
  refine inlret (ob' := [.fix 27 [.d (di .i64 a0.Kind), .d (di .i64 a0.Layout), .d (di .i64 a0.SRID), .d (eS1 a0.Flat), .d (eS2 a0.Ends), .d (eS3 a0.Endss), .d (eS0 a0.Kids)], .fix 30 [.d (.v (.slice none 0 0))], .fix 4 [.d (dbool false)], .dead, .dead, .fix 108 [.any, .d (di .i64 (0 : Int)), .d (di .i8 y16.1)], .dead, .dead]) (e' := [(4, .ptr 1 0), (5, .ptr 2 0)]) (r := .tu [.d (eS6 ((y16.2.drop ((0 : Int)).toNat).take (y16.2.length - ((0 : Int)).toNat))), .d (.v (.nilIface))]) rfl rfl rfl ?_
  change AO _ _ _ _ _
  refine AO.mv 5 rfl ?_
  refine AO.objs (obs' := [.fix 27 [.d (di .i64 a0.Kind), .d (di .i64 a0.Layout), .d (di .i64 a0.SRID), .d (eS1 a0.Flat), .d (eS2 a0.Ends), .d (eS3 a0.Endss), .d (eS0 a0.Kids)], .fix 30 [.d (.v (.slice none 0 0))], .fix 4 [.d (dbool false)], .dead, .dead, .fix 108 [.any, .d (di .i64 (0 : Int)), .d (di .i8 y16.1)], .dead, .dead]) rfl ?_
  refine AO.nS ?_
  refine AC.seq ?_
  refine AC.sm 1 rfl ?_
  refine AO.op rfl (AOp.nilNeq rfl rfl lb rfl imeth44 ?_)
  refine AO.nS ?_
  refine AC.condF rfl rfl ?_
  refine AC.skip ?_
  change AC _ _ _ _
  refine AC.sm 1 rfl ?_
  refine AO.op rfl (AOp.store rfl rfl rfl rfl size30 rfl rfl rfl (leb rfl) ?_)
  refine AO.op rfl (AOp.store rfl rfl rfl rfl size4 rfl rfl rfl (leb rfl) ?_)
  refine AO.nS ?_
  refine AC.ret ?_
  change RetQ _ _ _ .ret _
  obtain rfl := Option.some.inj h0
  refine retq rfl rfl
 replace h0 := cF h0 q13
 refine AO.dec (decide (y1.dt = 76)) (fun q21 => ?_) (fun q21 => ?_)
 ·replace h0 := cT h0 q21
  obtain ⟨y22, q23, h0⟩ := bind_elim h0
  refine AO.sub 12 rfl (eIfc_le q21 q23) ?_
  refine AO.adoptO 5 0 5 1 rfl rfl ?_
  obtain ⟨y24, q25, h0⟩ := bind_elim h0
  refine AO.op rfl (AOp.callH (hs := [5, 6]) (unp := [6]) (EntersS.call (by kernel_rfl) rfl rfl) (wh_Write_Polygon F a1 y22 (0 : Int) [] _ q25) lb (.cons (SVLe.refl _) (.cons (SVLe.refl _) (.cons (SVLe.refl _) .nil))) rfl rfl rfl (.cons rfl (.cons rfl .nil)) (.cons ⟨rfl, rfl⟩ (.cons ⟨rfl, rfl⟩ .nil)) rfl (.cons (.inr rfl) (.cons (.inr rfl) (.cons (.inr rfl) (.cons (.inr rfl) (.cons (.inr rfl) (.cons (.inl rfl) (.cons (.inl rfl) .nil))))))) rfl ?_)
  rintro _ _ ⟨rfl, rfl⟩
  refine ⟨.d (.v (.nilIface)), [.fix 108 [.own 6, .d (di .i64 (0 : Int)), .d (di .i8 y24.1)], .grow 5 1 (List.map keS6 y24.2)], rfl, (.cons rfl (.cons rfl .nil)), ?_⟩
  refine AO.objs (obs' := [.fix 27 [.d (di .i64 a0.Kind), .d (di .i64 a0.Layout), .d (di .i64 a0.SRID), .d (eS1 a0.Flat), .d (eS2 a0.Ends), .d (eS3 a0.Endss), .d (eS0 a0.Kids)], .fix 30 [.d (.v (.slice none 0 0))], .fix 4 [.d (dbool false)], .frame fr3 [(4, .ptr 1 0), (5, .ptr 2 0)], .dead, .fix 108 [.own 6, .d (di .i64 (0 : Int)), .d (di .i8 y24.1)], .grow 5 1 (List.map keS6 y24.2)]) rfl ?_
  refine AO.mn 1 rfl ?_
  refine AC.sm 1 rfl ?_
  refine AO.op rfl (AOp.nilNeq rfl rfl lb rfl imeth44 ?_)
  refine AO.nS ?_
  refine AC.condF rfl rfl ?_
  refine AC.skip ?_
  change AC _ _ _ _
  refine AC.sm 1 rfl ?_
  refine AO.op rfl (AOp.inl [] (by kernel_rfl) Tryz.func28 rfl Tryz.ntmps28 rfl rfl lb rfl (leb rfl) rfl ?_)
  intro fr27
  refine AC.sm 1 rfl ?_
  refine AO.objs (obs' := [.fix 27 [.d (di .i64 a0.Kind), .d (di .i64 a0.Layout), .d (di .i64 a0.SRID), .d (eS1 a0.Flat), .d (eS2 a0.Ends), .d (eS3 a0.Endss), .d (eS0 a0.Kids)], .fix 30 [.d (.v (.slice none 0 0))], .fix 4 [.d (dbool false)], .frame fr3 [(4, .ptr 1 0), (5, .ptr 2 0)], .dead, .fix 108 [.own 6, .d (di .i64 (0 : Int)), .d (di .i8 y24.1)], .grow 5 1 (List.map keS6 y24.2), .frame fr27 []]) rfl ?_
  refine AO.nS ?_
  refine AC.seq ?_
  refine AC.drawS [0, 1, 2, 3, 4, 5, 6, 7] [] [8, 9] (fun L => [.fix 27 [.d (di .i64 a0.Kind), .d (di .i64 a0.Layout), .d (di .i64 a0.SRID), .d (eS1 a0.Flat), .d (eS2 a0.Ends), .d (eS3 a0.Endss), .d (eS0 a0.Kids)], .fix 30 [.d (.v (.slice none 0 0))], .fix 4 [.d (dbool false)], .frame fr3 [(4, .ptr 1 0), (5, .ptr 2 0)], .dead, .fix 108 [.own 6, .d (di .i64 (0 : Int)), .d (di .i8 y24.1)], .grow 5 1 (List.map keS6 y24.2), .frame fr27 []]) [] mixed (by kernel_rfl) (fun _ _ _ => rfl) rfl ?_
  refine AS.op [0] [] [] [] rfl rfl rfl (by kernel_rfl) (by kernel_rfl) rfl rfl (fun _ _ _ h => AOp.move rfl rfl lb rfl h) (by kernel_rfl) ?_
  refine AS.op [3] [] [] [] rfl rfl rfl (by kernel_rfl) (by kernel_rfl) rfl rfl (fun _ _ _ h => AOp.nilCheck rfl rfl lb rfl rfl h) (by kernel_rfl) ?_
  refine AS.op [4] [] [] [] rfl rfl rfl (by kernel_rfl) (by kernel_rfl) rfl rfl (fun _ _ _ h => AOp.fieldAddr rfl rfl lb rfl fo108_0 h) (by kernel_rfl) ?_
  refine AS.op [5] [] [] [] rfl rfl rfl (by kernel_rfl) (by kernel_rfl) rfl rfl (fun _ _ _ h => AOp.load1 rfl rfl lb rfl agg30 rfl rfl h) (by kernel_rfl) ?_
  refine AS.op [0] [] [] [] rfl rfl rfl (by kernel_rfl) (by kernel_rfl) rfl rfl (fun _ _ _ h => AOp.move rfl rfl lb rfl h) (by kernel_rfl) ?_
  refine AS.op [7] [] [] [] rfl rfl rfl (by kernel_rfl) (by kernel_rfl) rfl rfl (fun _ _ _ h => AOp.nilCheck rfl rfl lb rfl rfl h) (by kernel_rfl) ?_
  refine AS.op [8] [] [] [] rfl rfl rfl (by kernel_rfl) (by kernel_rfl) rfl rfl (fun _ _ _ h => AOp.fieldAddr rfl rfl lb rfl fo108_1 h) (by kernel_rfl) ?_
  refine AS.op [9] [] [] [] rfl rfl rfl (by kernel_rfl) (by kernel_rfl) rfl rfl (fun _ _ _ h => AOp.load1 rfl rfl lb rfl agg3 rfl rfl h) (by kernel_rfl) ?_
  refine AS.done ?_
  refine AO.objs (obs' := [.fix 27 [.d (di .i64 a0.Kind), .d (di .i64 a0.Layout), .d (di .i64 a0.SRID), .d (eS1 a0.Flat), .d (eS2 a0.Ends), .d (eS3 a0.Endss), .d (eS0 a0.Kids)], .fix 30 [.d (.v (.slice none 0 0))], .fix 4 [.d (dbool false)], .frame fr3 [(4, .ptr 1 0), (5, .ptr 2 0)], .dead, .fix 108 [.own 6, .d (di .i64 (0 : Int)), .d (di .i8 y24.1)], .grow 5 1 (List.map keS6 y24.2), .frame fr27 []]) rfl ?_
  refine AO.subO 5 rfl (.cons (SVLe.any _) (.cons (SVLe.refl _) (.cons (SVLe.refl _) .nil))) ?_
  refine AO.freezeG 6 rfl rfl rfl ?_
  obtain ⟨q28, h0⟩ := need_elim h0
  refine AO.op rfl (AOp.sliceD (cells := (List.map keS6 y24.2)) (n := y24.2.length) (l := ((0 : Int)).toNat) (hh := y24.2.length) rfl rfl lb rfl (.inr ⟨_, _, _, rfl, rfl, q28.1.1, rfl⟩) (.inl ⟨rfl, rfl⟩) el30 (by decide) (len1 _ _) q28.2.1 q28.2.2 (sub1 _ _ _ _) ?_)
  refine AO.mn 1 rfl ?_
  refine AC.ret ?_
  refine inlret (ob' := [.fix 27 [.d (di .i64 a0.Kind), .d (di .i64 a0.Layout), .d (di .i64 a0.SRID), .d (eS1 a0.Flat), .d (eS2 a0.Ends), .d (eS3 a0.Endss), .d (eS0 a0.Kids)], .fix 30 [.d (.v (.slice none 0 0))], .fix 4 [.d (dbool false)], .frame fr3 [(4, .ptr 1 0), (5, .ptr 2 0)], .dead, .fix 108 [.any, .d (di .i64 (0 : Int)), .d (di .i8 y24.1)], .dead, .dead]) (e' := []) (r := .d (eS6 ((y24.2.drop ((0 : Int)).toNat).take (y24.2.length - ((0 : Int)).toNat)))) rfl rfl rfl ?_
  change AO _ _ _ _ _
  refine AO.mv 2 rfl ?_
  refine AO.objs (obs' := [.fix 27 [.d (di .i64 a0.Kind), .d (di .i64 a0.Layout), .d (di .i64 a0.SRID), .d (eS1 a0.Flat), .d (eS2 a0.Ends), .d (eS3 a0.Endss), .d (eS0 a0.Kids)], .fix 30 [.d (.v (.slice none 0 0))], .fix 4 [.d (dbool false)], .frame fr3 [(4, .ptr 1 0), (5, .ptr 2 0)], .dead, .fix 108 [.any, .d (di .i64 (0 : Int)), .d (di .i8 y24.1)], .dead, .dead]) rfl ?_
  refine AO.nS ?_
  refine AC.ret ?_
  refine inlret (ob' := [.fix 27 [.d (di .i64 a0.Kind), .d (di .i64 a0.Layout), .d (di .i64 a0.SRID), .d (eS1 a0.Flat), .d (eS2 a0.Ends), .d (eS3 a0.Endss), .d (eS0 a0.Kids)], .fix 30 [.d (.v (.slice none 0 0))], .fix 4 [.d (dbool false)], .dead, .dead, .fix 108 [.any, .d (di .i64 (0 : Int)), .d (di .i8 y24.1)], .dead, .dead]) (e' := [(4, .ptr 1 0), (5, .ptr 2 0)]) (r := .tu [.d (eS6 ((y24.2.drop ((0 : Int)).toNat).take (y24.2.length - ((0 : Int)).toNat))), .d (.v (.nilIface))]) rfl rfl rfl ?_
  change AO _ _ _ _ _
  refine AO.mv 5 rfl ?_
  refine AO.objs (obs' := [.fix 27 [.d (di .i64 a0.Kind), .d (di .i64 a0.Layout), .d (di .i64 a0.SRID), .d (eS1 a0.Flat), .d (eS2 a0.Ends), .d (eS3 a0.Endss), .d (eS0 a0.Kids)], .fix 30 [.d (.v (.slice none 0 0))], .fix 4 [.d (dbool false)], .dead, .dead, .fix 108 [.any, .d (di .i64 (0 : Int)), .d (di .i8 y24.1)], .dead, .dead]) rfl ?_
  refine AO.nS ?_
  refine AC.seq ?_
  refine AC.sm 1 rfl ?_
  refine AO.op rfl (AOp.nilNeq rfl rfl lb rfl imeth44 ?_)
  refine AO.nS ?_
  refine AC.condF rfl rfl ?_
  refine AC.skip ?_
  change AC _ _ _ _
  refine AC.sm 1 rfl ?_
  refine AO.op rfl (AOp.store rfl rfl rfl rfl size30 rfl rfl rfl (leb rfl) ?_)
  refine AO.op rfl (AOp.store rfl rfl rfl rfl size4 rfl rfl rfl (leb rfl) ?_)
  refine AO.nS ?_
  refine AC.ret ?_
  change RetQ _ _ _ .ret _
  obtain rfl := Option.some.inj h0
  refine retq rfl rfl
 replace h0 := cF h0 q21
 refine AO.dec (decide (y1.dt = 80)) (fun q29 => ?_) (fun q29 => ?_)
 ·replace h0 := cT h0 q29
  obtain ⟨y30, q31, h0⟩ := bind_elim h0
  refine AO.sub 12 rfl (eIfc_le q29 q31) ?_
  refine AO.adoptO 5 0 5 1 rfl rfl ?_
  obtain ⟨y32, q33, h0⟩ := bind_elim h0
  refine AO.op rfl (AOp.callH (hs := [5, 6]) (unp := [6]) (EntersS.call (by kernel_rfl) rfl rfl) (wh_Write_MultiPoint F a1 y30 (0 : Int) [] _ q33) lb (.cons (SVLe.refl _) (.cons (SVLe.refl _) (.cons (SVLe.refl _) .nil))) rfl rfl rfl (.cons rfl (.cons rfl .nil)) (.cons ⟨rfl, rfl⟩ (.cons ⟨rfl, rfl⟩ .nil)) rfl (.cons (.inr rfl) (.cons (.inr rfl) (.cons (.inr rfl) (.cons (.inr rfl) (.cons (.inr rfl) (.cons (.inl rfl) (.cons (.inl rfl) .nil))))))) rfl ?_)
  rintro _ _ ⟨rfl, rfl⟩
  refine ⟨.d (.v (.nilIface)), [.fix 108 [.own 6, .d (di .i64 (0 : Int)), .d (di .i8 y32.1)], .grow 5 1 (List.map keS6 y32.2)], rfl, (.cons rfl (.cons rfl .nil)), ?_⟩
  refine AO.objs (obs' := [.fix 27 [.d (di .i64 a0.Kind), .d (di .i64 a0.Layout), .d (di .i64 a0.SRID), .d (eS1 a0.Flat), .d (eS2 a0.Ends), .d (eS3 a0.Endss), .d (eS0 a0.Kids)], .fix 30 [.d (.v (.slice none 0 0))], .fix 4 [.d (dbool false)], .frame fr3 [(4, .ptr 1 0), (5, .ptr 2 0)], .dead, .fix 108 [.own 6, .d (di .i64 (0 : Int)), .d (di .i8 y32.1)], .grow 5 1 (List.map keS6 y32.2)]) rfl ?_
  refine AO.mn 1 rfl ?_
  refine AC.sm 1 rfl ?_
  refine AO.op rfl (AOp.nilNeq rfl rfl lb rfl imeth44 ?_)
  refine AO.nS ?_
  refine AC.condF rfl rfl ?_
  refine AC.skip ?_
  change AC _ _ _ _
  refine AC.sm 1 rfl ?_
  refine AO.op rfl (AOp.inl [] (by kernel_rfl) Tryz.func28 rfl Tryz.ntmps28 rfl rfl lb rfl (leb rfl) rfl ?_)
  intro fr35
  refine AC.sm 1 rfl ?_
  refine AO.objs (obs' := [.fix 27 [.d (di .i64 a0.Kind), .d (di .i64 a0.Layout), .d (di .i64 a0.SRID), .d (eS1 a0.Flat), .d (eS2 a0.Ends), .d (eS3 a0.Endss), .d (eS0 a0.Kids)], .fix 30 [.d (.v (.slice none 0 0))], .fix 4 [.d (dbool false)], .frame fr3 [(4, .ptr 1 0), (5, .ptr 2 0)], .dead, .fix 108 [.own 6, .d (di .i64 (0 : Int)), .d (di .i8 y32.1)], .grow 5 1 (List.map keS6 y32.2), .frame fr35 []]) rfl ?_
  refine AO.nS ?_
  refine AC.seq ?_
  refine AC.drawS [0, 1, 2, 3, 4, 5, 6, 7] [] [8, 9] (fun L => [.fix 27 [.d (di .i64 a0.Kind), .d (di .i64 a0.Layout), .d (di .i64 a0.SRID), .d (eS1 a0.Flat), .d (eS2 a0.Ends), .d (eS3 a0.Endss), .d (eS0 a0.Kids)], .fix 30 [.d (.v (.slice none 0 0))], .fix 4 [.d (dbool false)], .frame fr3 [(4, .ptr 1 0), (5, .ptr 2 0)], .dead, .fix 108 [.own 6, .d (di .i64 (0 : Int)), .d (di .i8 y32.1)], .grow 5 1 (List.map keS6 y32.2), .frame fr35 []]) [] mixed (by kernel_rfl) (fun _ _ _ => rfl) rfl ?_
  refine AS.op [0] [] [] [] rfl rfl rfl (by kernel_rfl) (by kernel_rfl) rfl rfl (fun _ _ _ h => AOp.move rfl rfl lb rfl h) (by kernel_rfl) ?_
  refine AS.op [3] [] [] [] rfl rfl rfl (by kernel_rfl) (by kernel_rfl) rfl rfl (fun _ _ _ h => AOp.nilCheck rfl rfl lb rfl rfl h) (by kernel_rfl) ?_
  refine AS.op [4] [] [] [] rfl rfl rfl (by kernel_rfl) (by kernel_rfl) rfl rfl (fun _ _ _ h => AOp.fieldAddr rfl rfl lb rfl fo108_0 h) (by kernel_rfl) ?_
  refine AS.op [5] [] [] [] rfl rfl rfl (by kernel_rfl) (by kernel_rfl) rfl rfl (fun _ _ _ h => AOp.load1 rfl rfl lb rfl agg30 rfl rfl h) (by kernel_rfl) ?_
  refine AS.op [0] [] [] [] rfl rfl rfl (by kernel_rfl) (by kernel_rfl) rfl rfl (fun _ _ _ h => AOp.move rfl rfl lb rfl h) (by kernel_rfl) ?_
  refine AS.op [7] [] [] [] rfl rfl rfl (by kernel_rfl) (by kernel_rfl) rfl rfl (fun _ _ _ h => AOp.nilCheck rfl rfl lb rfl rfl h) (by kernel_rfl) ?_
  refine AS.op [8] [] [] [] rfl rfl rfl (by kernel_rfl) (by kernel_rfl) rfl rfl (fun _ _ _ h => AOp.fieldAddr rfl rfl lb rfl fo108_1 h) (by kernel_rfl) ?_
  refine AS.op [9] [] [] [] rfl rfl rfl (by kernel_rfl) (by kernel_rfl) rfl rfl (fun _ _ _ h => AOp.load1 rfl rfl lb rfl agg3 rfl rfl h) (by kernel_rfl) ?_
  refine AS.done ?_
  refine AO.objs (obs' := [.fix 27 [.d (di .i64 a0.Kind), .d (di .i64 a0.Layout), .d (di .i64 a0.SRID), .d (eS1 a0.Flat), .d (eS2 a0.Ends), .d (eS3 a0.Endss), .d (eS0 a0.Kids)], .fix 30 [.d (.v (.slice none 0 0))], .fix 4 [.d (dbool false)], .frame fr3 [(4, .ptr 1 0), (5, .ptr 2 0)], .dead, .fix 108 [.own 6, .d (di .i64 (0 : Int)), .d (di .i8 y32.1)], .grow 5 1 (List.map keS6 y32.2), .frame fr35 []]) rfl ?_
  refine AO.subO 5 rfl (.cons (SVLe.any _) (.cons (SVLe.refl _) (.cons (SVLe.refl _) .nil))) ?_
  refine AO.freezeG 6 rfl rfl rfl ?_
  obtain ⟨q36, h0⟩ := need_elim h0
  refine AO.op rfl (AOp.sliceD (cells := (List.map keS6 y32.2)) (n := y32.2.length) (l := ((0 : Int)).toNat) (hh := y32.2.length) rfl rfl lb rfl (.inr ⟨_, _, _, rfl, rfl, q36.1.1, rfl⟩) (.inl ⟨rfl, rfl⟩) el30 (by decide) (len1 _ _) q36.2.1 q36.2.2 (sub1 _ _ _ _) ?_)
  refine AO.mn 1 rfl ?_
  refine AC.ret ?_
  refine inlret (ob' := [.fix 27 [.d (di .i64 a0.Kind), .d (di .i64 a0.Layout), .d (di .i64 a0.SRID), .d (eS1 a0.Flat), .d (eS2 a0.Ends), .d (eS3 a0.Endss), .d (eS0 a0.Kids)], .fix 30 [.d (.v (.slice none 0 0))], .fix 4 [.d (dbool false)], .frame fr3 [(4, .ptr 1 0), (5, .ptr 2 0)], .dead, .fix 108 [.any, .d (di .i64 (0 : Int)), .d (di .i8 y32.1)], .dead, .dead]) (e' := []) (r := .d (eS6 ((y32.2.drop ((0 : Int)).toNat).take (y32.2.length - ((0 : Int)).toNat)))) rfl rfl rfl ?_
  change AO _ _ _ _ _
  refine AO.mv 2 rfl ?_
  refine AO.objs (obs' := [.fix 27 [.d (di .i64 a0.Kind), .d (di .i64 a0.Layout), .d (di .i64 a0.SRID), .d (eS1 a0.Flat), .d (eS2 a0.Ends), .d (eS3 a0.Endss), .d (eS0 a0.Kids)], .fix 30 [.d (.v (.slice none 0 0))], .fix 4 [.d (dbool false)], .frame fr3 [(4, .ptr 1 0), (5, .ptr 2 0)], .dead, .fix 108 [.any, .d (di .i64 (0 : Int)), .d (di .i8 y32.1)], .dead, .dead]) rfl ?_
  refine AO.nS ?_
  refine AC.ret ?_
  refine inlret (ob' := [.fix 27 [.d (di .i64 a0.Kind), .d (di .i64 a0.Layout), .d (di .i64 a0.SRID), .d (eS1 a0.Flat), .d (eS2 a0.Ends), .d (eS3 a0.Endss), .d (eS0 a0.Kids)], .fix 30 [.d (.v (.slice none 0 0))], .fix 4 [.d (dbool false)], .dead, .dead, .fix 108 [.any, .d (di .i64 (0 : Int)), .d (di .i8 y32.1)], .dead, .dead]) (e' := [(4, .ptr 1 0), (5, .ptr 2 0)]) (r := .tu [.d (eS6 ((y32.2.drop ((0 : Int)).toNat).take (y32.2.length - ((0 : Int)).toNat))), .d (.v (.nilIface))]) rfl rfl rfl ?_
  change AO _ _ _ _ _
  refine AO.mv 5 rfl ?_
  refine AO.objs (obs' := [.fix 27 [.d (di .i64 a0.Kind), .d (di .i64 a0.Layout), .d (di .i64 a0.SRID), .d (eS1 a0.Flat), .d (eS2 a0.Ends), .d (eS3 a0.Endss), .d (eS0 a0.Kids)], .fix 30 [.d (.v (.slice none 0 0))], .fix 4 [.d (dbool false)], .dead, .dead, .fix 108 [.any, .d (di .i64 (0 : Int)), .d (di .i8 y32.1)], .dead, .dead]) rfl ?_
  refine AO.nS ?_
  refine AC.seq ?_
  refine AC.sm 1 rfl ?_
  refine AO.op rfl (AOp.nilNeq rfl rfl lb rfl imeth44 ?_)
  refine AO.nS ?_
  refine AC.condF rfl rfl ?_
  refine AC.skip ?_
  change AC _ _ _ _
  refine AC.sm 1 rfl ?_
  refine AO.op rfl (AOp.store rfl rfl rfl rfl size30 rfl rfl rfl (leb rfl) ?_)
  refine AO.op rfl (AOp.store rfl rfl rfl rfl size4 rfl rfl rfl (leb rfl) ?_)
  refine AO.nS ?_
  refine AC.ret ?_
  change RetQ _ _ _ .ret _
  obtain rfl := Option.some.inj h0
  refine retq rfl rfl
 replace h0 := cF h0 q29
 refine AO.dec (decide (y1.dt = 86)) (fun q37 => ?_) (fun q37 => ?_)
 ·replace h0 := cT h0 q37
  obtain ⟨y38, q39, h0⟩ := bind_elim h0
  refine AO.sub 12 rfl (eIfc_le q37 q39) ?_
  refine AO.adoptO 5 0 5 1 rfl rfl ?_
  obtain ⟨y40, q41, h0⟩ := bind_elim h0
  refine AO.op rfl (AOp.callH (hs := [5, 6]) (unp := [6]) (EntersS.call (by kernel_rfl) rfl rfl) (wh_Write_MultiLineString F a1 y38 (0 : Int) [] _ q41) lb (.cons (SVLe.refl _) (.cons (SVLe.refl _) (.cons (SVLe.refl _) .nil))) rfl rfl rfl (.cons rfl (.cons rfl .nil)) (.cons ⟨rfl, rfl⟩ (.cons ⟨rfl, rfl⟩ .nil)) rfl (.cons (.inr rfl) (.cons (.inr rfl) (.cons (.inr rfl) (.cons (.inr rfl) (.cons (.inr rfl) (.cons (.inl rfl) (.cons (.inl rfl) .nil))))))) rfl ?_)
  rintro _ _ ⟨rfl, rfl⟩
  refine ⟨.d (.v (.nilIface)), [.fix 108 [.own 6, .d (di .i64 (0 : Int)), .d (di .i8 y40.1)], .grow 5 1 (List.map keS6 y40.2)], rfl, (.cons rfl (.cons rfl .nil)), ?_⟩
  refine AO.objs (obs' := [.fix 27 [.d (di .i64 a0.Kind), .d (di .i64 a0.Layout), .d (di .i64 a0.SRID), .d (eS1 a0.Flat), .d (eS2 a0.Ends), .d (eS3 a0.Endss), .d (eS0 a0.Kids)], .fix 30 [.d (.v (.slice none 0 0))], .fix 4 [.d (dbool false)], .frame fr3 [(4, .ptr 1 0), (5, .ptr 2 0)], .dead, .fix 108 [.own 6, .d (di .i64 (0 : Int)), .d (di .i8 y40.1)], .grow 5 1 (List.map keS6 y40.2)]) rfl ?_
  refine AO.mn 1 rfl ?_
  refine AC.sm 1 rfl ?_
  refine AO.op rfl (AOp.nilNeq rfl rfl lb rfl imeth44 ?_)
  refine AO.nS ?_
  refine AC.condF rfl rfl ?_
  refine AC.skip ?_
  change AC _ _ _ _
  refine AC.sm 1 rfl ?_
  refine AO.op rfl (AOp.inl [] (by kernel_rfl) Tryz.func28 rfl Tryz.ntmps28 rfl rfl lb rfl (leb rfl) rfl ?_)
  intro fr43
  refine AC.sm 1 rfl ?_
  refine AO.objs (obs' := [.fix 27 [.d (di .i64 a0.Kind), .d (di .i64 a0.Layout), .d (di .i64 a0.SRID), .d (eS1 a0.Flat), .d (eS2 a0.Ends), .d (eS3 a0.Endss), .d (eS0 a0.Kids)], .fix 30 [.d (.v (.slice none 0 0))], .fix 4 [.d (dbool false)], .frame fr3 [(4, .ptr 1 0), (5, .ptr 2 0)], .dead, .fix 108 [.own 6, .d (di .i64 (0 : Int)), .d (di .i8 y40.1)], .grow 5 1 (List.map keS6 y40.2), .frame fr43 []]) rfl ?_
  refine AO.nS ?_
  refine AC.seq ?_
  refine AC.drawS [0, 1, 2, 3, 4, 5, 6, 7] [] [8, 9] (fun L => [.fix 27 [.d (di .i64 a0.Kind), .d (di .i64 a0.Layout), .d (di .i64 a0.SRID), .d (eS1 a0.Flat), .d (eS2 a0.Ends), .d (eS3 a0.Endss), .d (eS0 a0.Kids)], .fix 30 [.d (.v (.slice none 0 0))], .fix 4 [.d (dbool false)], .frame fr3 [(4, .ptr 1 0), (5, .ptr 2 0)], .dead, .fix 108 [.own 6, .d (di .i64 (0 : Int)), .d (di .i8 y40.1)], .grow 5 1 (List.map keS6 y40.2), .frame fr43 []]) [] mixed (by kernel_rfl) (fun _ _ _ => rfl) rfl ?_
  refine AS.op [0] [] [] [] rfl rfl rfl (by kernel_rfl) (by kernel_rfl) rfl rfl (fun _ _ _ h => AOp.move rfl rfl lb rfl h) (by kernel_rfl) ?_
  refine AS.op [3] [] [] [] rfl rfl rfl (by kernel_rfl) (by kernel_rfl) rfl rfl (fun _ _ _ h => AOp.nilCheck rfl rfl lb rfl rfl h) (by kernel_rfl) ?_
  refine AS.op [4] [] [] [] rfl rfl rfl (by kernel_rfl) (by kernel_rfl) rfl rfl (fun _ _ _ h => AOp.fieldAddr rfl rfl lb rfl fo108_0 h) (by kernel_rfl) ?_
  refine AS.op [5] [] [] [] rfl rfl rfl (by kernel_rfl) (by kernel_rfl) rfl rfl (fun _ _ _ h => AOp.load1 rfl rfl lb rfl agg30 rfl rfl h) (by kernel_rfl) ?_
  refine AS.op [0] [] [] [] rfl rfl rfl (by kernel_rfl) (by kernel_rfl) rfl rfl (fun _ _ _ h => AOp.move rfl rfl lb rfl h) (by kernel_rfl) ?_
  refine AS.op [7] [] [] [] rfl rfl rfl (by kernel_rfl) (by kernel_rfl) rfl rfl (fun _ _ _ h => AOp.nilCheck rfl rfl lb rfl rfl h) (by kernel_rfl) ?_
  refine AS.op [8] [] [] [] rfl rfl rfl (by kernel_rfl) (by kernel_rfl) rfl rfl (fun _ _ _ h => AOp.fieldAddr rfl rfl lb rfl fo108_1 h) (by kernel_rfl) ?_
  refine AS.op [9] [] [] [] rfl rfl rfl (by kernel_rfl) (by kernel_rfl) rfl rfl (fun _ _ _ h => AOp.load1 rfl rfl lb rfl agg3 rfl rfl h) (by kernel_rfl) ?_
  refine AS.done ?_
  refine AO.objs (obs' := [.fix 27 [.d (di .i64 a0.Kind), .d (di .i64 a0.Layout), .d (di .i64 a0.SRID), .d (eS1 a0.Flat), .d (eS2 a0.Ends), .d (eS3 a0.Endss), .d (eS0 a0.Kids)], .fix 30 [.d (.v (.slice none 0 0))], .fix 4 [.d (dbool false)], .frame fr3 [(4, .ptr 1 0), (5, .ptr 2 0)], .dead, .fix 108 [.own 6, .d (di .i64 (0 : Int)), .d (di .i8 y40.1)], .grow 5 1 (List.map keS6 y40.2), .frame fr43 []]) rfl ?_
  refine AO.subO 5 rfl (.cons (SVLe.any _) (.cons (SVLe.refl _) (.cons (SVLe.refl _) .nil))) ?_
  refine AO.freezeG 6 rfl rfl rfl ?_
  obtain ⟨q44, h0⟩ := need_elim h0
  refine AO.op rfl (AOp.sliceD (cells := (List.map keS6 y40.2)) (n := y40.2.length) (l := ((0 : Int)).toNat) (hh := y40.2.length) rfl rfl lb rfl (.inr ⟨_, _, _, rfl, rfl, q44.1.1, rfl⟩) (.inl ⟨rfl, rfl⟩) el30 (by decide) (len1 _ _) q44.2.1 q44.2.2 (sub1 _ _ _ _) ?_)
  refine AO.mn 1 rfl ?_
  refine AC.ret ?_
  refine inlret (ob' := [.fix 27 [.d (di .i64 a0.Kind), .d (di .i64 a0.Layout), .d (di .i64 a0.SRID), .d (eS1 a0.Flat), .d (eS2 a0.Ends), .d (eS3 a0.Endss), .d (eS0 a0.Kids)], .fix 30 [.d (.v (.slice none 0 0))], .fix 4 [.d (dbool false)], .frame fr3 [(4, .ptr 1 0), (5, .ptr 2 0)], .dead, .fix 108 [.any, .d (di .i64 (0 : Int)), .d (di .i8 y40.1)], .dead, .dead]) (e' := []) (r := .d (eS6 ((y40.2.drop ((0 : Int)).toNat).take (y40.2.length - ((0 : Int)).toNat)))) rfl rfl rfl ?_
  change AO _ _ _ _ _
  refine AO.mv 2 rfl ?_
  refine AO.objs (obs' := [.fix 27 [.d (di .i64 a0.Kind), .d (di .i64 a0.Layout), .d (di .i64 a0.SRID), .d (eS1 a0.Flat), .d (eS2 a0.Ends), .d (eS3 a0.Endss), .d (eS0 a0.Kids)], .fix 30 [.d (.v (.slice none 0 0))], .fix 4 [.d (dbool false)], .frame fr3 [(4, .ptr 1 0), (5, .ptr 2 0)], .dead, .fix 108 [.any, .d (di .i64 (0 : Int)), .d (di .i8 y40.1)], .dead, .dead]) rfl ?_
  refine AO.nS ?_
  refine AC.ret ?_
  refine inlret (ob' := [.fix 27 [.d (di .i64 a0.Kind), .d (di .i64 a0.Layout), .d (di .i64 a0.SRID), .d (eS1 a0.Flat), .d (eS2 a0.Ends), .d (eS3 a0.Endss), .d (eS0 a0.Kids)], .fix 30 [.d (.v (.slice none 0 0))], .fix 4 [.d (dbool false)], .dead, .dead, .fix 108 [.any, .d (di .i64 (0 : Int)), .d (di .i8 y40.1)], .dead, .dead]) (e' := [(4, .ptr 1 0), (5, .ptr 2 0)]) (r := .tu [.d (eS6 ((y40.2.drop ((0 : Int)).toNat).take (y40.2.length - ((0 : Int)).toNat))), .d (.v (.nilIface))]) rfl rfl rfl ?_
  change AO _ _ _ _ _
  refine AO.mv 5 rfl ?_
  refine AO.objs (obs' := [.fix 27 [.d (di .i64 a0.Kind), .d (di .i64 a0.Layout), .d (di .i64 a0.SRID), .d (eS1 a0.Flat), .d (eS2 a0.Ends), .d (eS3 a0.Endss), .d (eS0 a0.Kids)], .fix 30 [.d (.v (.slice none 0 0))], .fix 4 [.d (dbool false)], .dead, .dead, .fix 108 [.any, .d (di .i64 (0 : Int)), .d (di .i8 y40.1)], .dead, .dead]) rfl ?_
  refine AO.nS ?_
  refine AC.seq ?_
  refine AC.sm 1 rfl ?_
  refine AO.op rfl (AOp.nilNeq rfl rfl lb rfl imeth44 ?_)
  refine AO.nS ?_
  refine AC.condF rfl rfl ?_
  refine AC.skip ?_
  change AC _ _ _ _
  refine AC.sm 1 rfl ?_
  refine AO.op rfl (AOp.store rfl rfl rfl rfl size30 rfl rfl rfl (leb rfl) ?_)
  refine AO.op rfl (AOp.store rfl rfl rfl rfl size4 rfl rfl rfl (leb rfl) ?_)
  refine AO.nS ?_
  refine AC.ret ?_
  change RetQ _ _ _ .ret _
  obtain rfl := Option.some.inj h0
  refine retq rfl rfl
 replace h0 := cF h0 q37
 refine AO.dec (decide (y1.dt = 89)) (fun q45 => ?_) (fun q45 => ?_)
 ·replace h0 := cT h0 q45
  obtain ⟨y46, q47, h0⟩ := bind_elim h0
  refine AO.sub 12 rfl (eIfc_le q45 q47) ?_
  refine AO.adoptO 5 0 5 1 rfl rfl ?_
  obtain ⟨y48, q49, h0⟩ := bind_elim h0
  refine AO.op rfl (AOp.callH (hs := [5, 6]) (unp := [6]) (EntersS.call (by kernel_rfl) rfl rfl) (wh_Write_MultiPolygon F a1 y46 (0 : Int) [] _ q49) lb (.cons (SVLe.refl _) (.cons (SVLe.refl _) (.cons (SVLe.refl _) .nil))) rfl rfl rfl (.cons rfl (.cons rfl .nil)) (.cons ⟨rfl, rfl⟩ (.cons ⟨rfl, rfl⟩ .nil)) rfl (.cons (.inr rfl) (.cons (.inr rfl) (.cons (.inr rfl) (.cons (.inr rfl) (.cons (.inr rfl) (.cons (.inl rfl) (.cons (.inl rfl) .nil))))))) rfl ?_)
  rintro _ _ ⟨rfl, rfl⟩
  refine ⟨.d (.v (.nilIface)), [.fix 108 [.own 6, .d (di .i64 (0 : Int)), .d (di .i8 y48.1)], .grow 5 1 (List.map keS6 y48.2)], rfl, (.cons rfl (.cons rfl .nil)), ?_⟩
  refine AO.objs (obs' := [.fix 27 [.d (di .i64 a0.Kind), .d (di .i64 a0.Layout), .d (di .i64 a0.SRID), .d (eS1 a0.Flat), .d (eS2 a0.Ends), .d (eS3 a0.Endss), .d (eS0 a0.Kids)], .fix 30 [.d (.v (.slice none 0 0))], .fix 4 [.d (dbool false)], .frame fr3 [(4, .ptr 1 0), (5, .ptr 2 0)], .dead, .fix 108 [.own 6, .d (di .i64 (0 : Int)), .d (di .i8 y48.1)], .grow 5 1 (List.map keS6 y48.2)]) rfl ?_
  refine AO.mn 1 rfl ?_
  refine AC.sm 1 rfl ?_
  refine AO.op rfl (AOp.nilNeq rfl rfl lb rfl imeth44 ?_)
  refine AO.nS ?_
  refine AC.condF rfl rfl ?_
  refine AC.skip ?_
  change AC _ _ _ _
  refine AC.sm 1 rfl ?_
  refine AO.op rfl (AOp.inl [] (by kernel_rfl) Tryz.func28 rfl Tryz.ntmps28 rfl rfl lb rfl (leb rfl) rfl ?_)
  intro fr51
  refine AC.sm 1 rfl ?_
  refine AO.objs (obs' := [.fix 27 [.d (di .i64 a0.Kind), .d (di .i64 a0.Layout), .d (di .i64 a0.SRID), .d (eS1 a0.Flat), .d (eS2 a0.Ends), .d (eS3 a0.Endss), .d (eS0 a0.Kids)], .fix 30 [.d (.v (.slice none 0 0))], .fix 4 [.d (dbool false)], .frame fr3 [(4, .ptr 1 0), (5, .ptr 2 0)], .dead, .fix 108 [.own 6, .d (di .i64 (0 : Int)), .d (di .i8 y48.1)], .grow 5 1 (List.map keS6 y48.2), .frame fr51 []]) rfl ?_
  refine AO.nS ?_
  refine AC.seq ?_
  refine AC.drawS [0, 1, 2, 3, 4, 5, 6, 7] [] [8, 9] (fun L => [.fix 27 [.d (di .i64 a0.Kind), .d (di .i64 a0.Layout), .d (di .i64 a0.SRID), .d (eS1 a0.Flat), .d (eS2 a0.Ends), .d (eS3 a0.Endss), .d (eS0 a0.Kids)], .fix 30 [.d (.v (.slice none 0 0))], .fix 4 [.d (dbool false)], .frame fr3 [(4, .ptr 1 0), (5, .ptr 2 0)], .dead, .fix 108 [.own 6, .d (di .i64 (0 : Int)), .d (di .i8 y48.1)], .grow 5 1 (List.map keS6 y48.2), .frame fr51 []]) [] mixed (by kernel_rfl) (fun _ _ _ => rfl) rfl ?_
  refine AS.op [0] [] [] [] rfl rfl rfl (by kernel_rfl) (by kernel_rfl) rfl rfl (fun _ _ _ h => AOp.move rfl rfl lb rfl h) (by kernel_rfl) ?_
  refine AS.op [3] [] [] [] rfl rfl rfl (by kernel_rfl) (by kernel_rfl) rfl rfl (fun _ _ _ h => AOp.nilCheck rfl rfl lb rfl rfl h) (by kernel_rfl) ?_
  refine AS.op [4] [] [] [] rfl rfl rfl (by kernel_rfl) (by kernel_rfl) rfl rfl (fun _ _ _ h => AOp.fieldAddr rfl rfl lb rfl fo108_0 h) (by kernel_rfl) ?_
  refine AS.op [5] [] [] [] rfl rfl rfl (by kernel_rfl) (by kernel_rfl) rfl rfl (fun _ _ _ h => AOp.load1 rfl rfl lb rfl agg30 rfl rfl h) (by kernel_rfl) ?_
  refine AS.op [0] [] [] [] rfl rfl rfl (by kernel_rfl) (by kernel_rfl) rfl rfl (fun _ _ _ h => AOp.move rfl rfl lb rfl h) (by kernel_rfl) ?_
  refine AS.op [7] [] [] [] rfl rfl rfl (by kernel_rfl) (by kernel_rfl) rfl rfl (fun _ _ _ h => AOp.nilCheck rfl rfl lb rfl rfl h) (by kernel_rfl) ?_
  refine AS.op [8] [] [] [] rfl rfl rfl (by kernel_rfl) (by kernel_rfl) rfl rfl (fun _ _ _ h => AOp.fieldAddr rfl rfl lb rfl fo108_1 h) (by kernel_rfl) ?_
  refine AS.op [9] [] [] [] rfl rfl rfl (by kernel_rfl) (by kernel_rfl) rfl rfl (fun _ _ _ h => AOp.load1 rfl rfl lb rfl agg3 rfl rfl h) (by kernel_rfl) ?_
  refine AS.done ?_
  refine AO.objs (obs' := [.fix 27 [.d (di .i64 a0.Kind), .d (di .i64 a0.Layout), .d (di .i64 a0.SRID), .d (eS1 a0.Flat), .d (eS2 a0.Ends), .d (eS3 a0.Endss), .d (eS0 a0.Kids)], .fix 30 [.d (.v (.slice none 0 0))], .fix 4 [.d (dbool false)], .frame fr3 [(4, .ptr 1 0), (5, .ptr 2 0)], .dead, .fix 108 [.own 6, .d (di .i64 (0 : Int)), .d (di .i8 y48.1)], .grow 5 1 (List.map keS6 y48.2), .frame fr51 []]) rfl ?_
  refine AO.subO 5 rfl (.cons (SVLe.any _) (.cons (SVLe.refl _) (.cons (SVLe.refl _) .nil))) ?_
  refine AO.freezeG 6 rfl rfl rfl ?_
  obtain ⟨q52, h0⟩ := need_elim h0
  refine AO.op rfl (AOp.sliceD (cells := (List.map keS6 y48.2)) (n := y48.2.length) (l := ((0 : Int)).toNat) (hh := y48.2.length) rfl rfl lb rfl (.inr ⟨_, _, _, rfl, rfl, q52.1.1, rfl⟩) (.inl ⟨rfl, rfl⟩) el30 (by decide) (len1 _ _) q52.2.1 q52.2.2 (sub1 _ _ _ _) ?_)
  refine AO.mn 1 rfl ?_
  refine AC.ret ?_
  refine inlret (ob' := [.fix 27 [.d (di .i64 a0.Kind), .d (di .i64 a0.Layout), .d (di .i64 a0.SRID), .d (eS1 a0.Flat), .d (eS2 a0.Ends), .d (eS3 a0.Endss), .d (eS0 a0.Kids)], .fix 30 [.d (.v (.slice none 0 0))], .fix 4 [.d (dbool false)], .frame fr3 [(4, .ptr 1 0), (5, .ptr 2 0)], .dead, .fix 108 [.any, .d (di .i64 (0 : Int)), .d (di .i8 y48.1)], .dead, .dead]) (e' := []) (r := .d (eS6 ((y48.2.drop ((0 : Int)).toNat).take (y48.2.length - ((0 : Int)).toNat)))) rfl rfl rfl ?_
  change AO _ _ _ _ _
  refine AO.mv 2 rfl ?_
  refine AO.objs (obs' := [.fix 27 [.d (di .i64 a0.Kind), .d (di .i64 a0.Layout), .d (di .i64 a0.SRID), .d (eS1 a0.Flat), .d (eS2 a0.Ends), .d (eS3 a0.Endss), .d (eS0 a0.Kids)], .fix 30 [.d (.v (.slice none 0 0))], .fix 4 [.d (dbool false)], .frame fr3 [(4, .ptr 1 0), (5, .ptr 2 0)], .dead, .fix 108 [.any, .d (di .i64 (0 : Int)), .d (di .i8 y48.1)], .dead, .dead]) rfl ?_
  refine AO.nS ?_
  refine AC.ret ?_
  refine inlret (ob' := [.fix 27 [.d (di .i64 a0.Kind), .d (di .i64 a0.Layout), .d (di .i64 a0.SRID), .d (eS1 a0.Flat), .d (eS2 a0.Ends), .d (eS3 a0.Endss), .d (eS0 a0.Kids)], .fix 30 [.d (.v (.slice none 0 0))], .fix 4 [.d (dbool false)], .dead, .dead, .fix 108 [.any, .d (di .i64 (0 : Int)), .d (di .i8 y48.1)], .dead, .dead]) (e' := [(4, .ptr 1 0), (5, .ptr 2 0)]) (r := .tu [.d (eS6 ((y48.2.drop ((0 : Int)).toNat).take (y48.2.length - ((0 : Int)).toNat))), .d (.v (.nilIface))]) rfl rfl rfl ?_
  change AO _ _ _ _ _
  refine AO.mv 5 rfl ?_
  refine AO.objs (obs' := [.fix 27 [.d (di .i64 a0.Kind), .d (di .i64 a0.Layout), .d (di .i64 a0.SRID), .d (eS1 a0.Flat), .d (eS2 a0.Ends), .d (eS3 a0.Endss), .d (eS0 a0.Kids)], .fix 30 [.d (.v (.slice none 0 0))], .fix 4 [.d (dbool false)], .dead, .dead, .fix 108 [.any, .d (di .i64 (0 : Int)), .d (di .i8 y48.1)], .dead, .dead]) rfl ?_
  refine AO.nS ?_
  refine AC.seq ?_
  refine AC.sm 1 rfl ?_
  refine AO.op rfl (AOp.nilNeq rfl rfl lb rfl imeth44 ?_)
  refine AO.nS ?_
  refine AC.condF rfl rfl ?_
  refine AC.skip ?_
  change AC _ _ _ _
  refine AC.sm 1 rfl ?_
  refine AO.op rfl (AOp.store rfl rfl rfl rfl size30 rfl rfl rfl (leb rfl) ?_)
  refine AO.op rfl (AOp.store rfl rfl rfl rfl size4 rfl rfl rfl (leb rfl) ?_)
  refine AO.nS ?_
  refine AC.ret ?_
  change RetQ _ _ _ .ret _
  obtain rfl := Option.some.inj h0
  refine retq rfl rfl
 replace h0 := cF h0 q45
 refine AO.dec (decide (y1.dt = 93)) (fun q53 => ?_) (fun q53 => ?_)
 ·replace h0 := cT h0 q53
  obtain ⟨y54, q55, h0⟩ := bind_elim h0
  refine AO.sub 12 rfl (eIfc_le q53 q55) ?_
  refine AO.adoptO 5 0 5 1 rfl rfl ?_
  obtain ⟨y56, q57, h0⟩ := bind_elim h0
  refine AO.op rfl (AOp.callH (hs := [5, 6]) (unp := [6]) (EntersS.call (by kernel_rfl) rfl rfl) (wh_Write_GeometryCollection F a1 y54 (0 : Int) [] _ q57) lb (.cons (SVLe.refl _) (.cons (SVLe.refl _) (.cons (SVLe.refl _) .nil))) rfl rfl rfl (.cons rfl (.cons rfl .nil)) (.cons ⟨rfl, rfl⟩ (.cons ⟨rfl, rfl⟩ .nil)) rfl (.cons (.inr rfl) (.cons (.inr rfl) (.cons (.inr rfl) (.cons (.inr rfl) (.cons (.inr rfl) (.cons (.inl rfl) (.cons (.inl rfl) .nil))))))) rfl ?_)
  rintro _ _ ⟨rfl, rfl⟩
  refine ⟨.d (.v (.nilIface)), [.fix 108 [.own 6, .d (di .i64 (0 : Int)), .d (di .i8 y56.1)], .grow 5 1 (List.map keS6 y56.2)], rfl, (.cons rfl (.cons rfl .nil)), ?_⟩
  refine AO.objs (obs' := [.fix 27 [.d (di .i64 a0.Kind), .d (di .i64 a0.Layout), .d (di .i64 a0.SRID), .d (eS1 a0.Flat), .d (eS2 a0.Ends), .d (eS3 a0.Endss), .d (eS0 a0.Kids)], .fix 30 [.d (.v (.slice none 0 0))], .fix 4 [.d (dbool false)], .frame fr3 [(4, .ptr 1 0), (5, .ptr 2 0)], .dead, .fix 108 [.own 6, .d (di .i64 (0 : Int)), .d (di .i8 y56.1)], .grow 5 1 (List.map keS6 y56.2)]) rfl ?_
  refine AO.mn 1 rfl ?_
  refine AC.sm 1 rfl ?_
  refine AO.op rfl (AOp.nilNeq rfl rfl lb rfl imeth44 ?_)
  refine AO.nS ?_
  refine AC.condF rfl rfl ?_
  refine AC.skip ?_
  change AC _ _ _ _
  refine AC.sm 1 rfl ?_
  refine AO.op rfl (AOp.inl [] (by kernel_rfl) Tryz.func28 rfl Tryz.ntmps28 rfl rfl lb rfl (leb rfl) rfl ?_)
  intro fr59
  refine AC.sm 1 rfl ?_
  refine AO.objs (obs' := [.fix 27 [.d (di .i64 a0.Kind), .d (di .i64 a0.Layout), .d (di .i64 a0.SRID), .d (eS1 a0.Flat), .d (eS2 a0.Ends), .d (eS3 a0.Endss), .d (eS0 a0.Kids)], .fix 30 [.d (.v (.slice none 0 0))], .fix 4 [.d (dbool false)], .frame fr3 [(4, .ptr 1 0), (5, .ptr 2 0)], .dead, .fix 108 [.own 6, .d (di .i64 (0 : Int)), .d (di .i8 y56.1)], .grow 5 1 (List.map keS6 y56.2), .frame fr59 []]) rfl ?_
  refine AO.nS ?_
  refine AC.seq ?_
  refine AC.drawS [0, 1, 2, 3, 4, 5, 6, 7] [] [8, 9] (fun L => [.fix 27 [.d (di .i64 a0.Kind), .d (di .i64 a0.Layout), .d (di .i64 a0.SRID), .d (eS1 a0.Flat), .d (eS2 a0.Ends), .d (eS3 a0.Endss), .d (eS0 a0.Kids)], .fix 30 [.d (.v (.slice none 0 0))], .fix 4 [.d (dbool false)], .frame fr3 [(4, .ptr 1 0), (5, .ptr 2 0)], .dead, .fix 108 [.own 6, .d (di .i64 (0 : Int)), .d (di .i8 y56.1)], .grow 5 1 (List.map keS6 y56.2), .frame fr59 []]) [] mixed (by kernel_rfl) (fun _ _ _ => rfl) rfl ?_
  refine AS.op [0] [] [] [] rfl rfl rfl (by kernel_rfl) (by kernel_rfl) rfl rfl (fun _ _ _ h => AOp.move rfl rfl lb rfl h) (by kernel_rfl) ?_
  refine AS.op [3] [] [] [] rfl rfl rfl (by kernel_rfl) (by kernel_rfl) rfl rfl (fun _ _ _ h => AOp.nilCheck rfl rfl lb rfl rfl h) (by kernel_rfl) ?_
  refine AS.op [4] [] [] [] rfl rfl rfl (by kernel_rfl) (by kernel_rfl) rfl rfl (fun _ _ _ h => AOp.fieldAddr rfl rfl lb rfl fo108_0 h) (by kernel_rfl) ?_
  refine AS.op [5] [] [] [] rfl rfl rfl (by kernel_rfl) (by kernel_rfl) rfl rfl (fun _ _ _ h => AOp.load1 rfl rfl lb rfl agg30 rfl rfl h) (by kernel_rfl) ?_
  refine AS.op [0] [] [] [] rfl rfl rfl (by kernel_rfl) (by kernel_rfl) rfl rfl (fun _ _ _ h => AOp.move rfl rfl lb rfl h) (by kernel_rfl) ?_
  refine AS.op [7] [] [] [] rfl rfl rfl (by kernel_rfl) (by kernel_rfl) rfl rfl (fun _ _ _ h => AOp.nilCheck rfl rfl lb rfl rfl h) (by kernel_rfl) ?_
  refine AS.op [8] [] [] [] rfl rfl rfl (by kernel_rfl) (by kernel_rfl) rfl rfl (fun _ _ _ h => AOp.fieldAddr rfl rfl lb rfl fo108_1 h) (by kernel_rfl) ?_
  refine AS.op [9] [] [] [] rfl rfl rfl (by kernel_rfl) (by kernel_rfl) rfl rfl (fun _ _ _ h => AOp.load1 rfl rfl lb rfl agg3 rfl rfl h) (by kernel_rfl) ?_
  refine AS.done ?_
  refine AO.objs (obs' := [.fix 27 [.d (di .i64 a0.Kind), .d (di .i64 a0.Layout), .d (di .i64 a0.SRID), .d (eS1 a0.Flat), .d (eS2 a0.Ends), .d (eS3 a0.Endss), .d (eS0 a0.Kids)], .fix 30 [.d (.v (.slice none 0 0))], .fix 4 [.d (dbool false)], .frame fr3 [(4, .ptr 1 0), (5, .ptr 2 0)], .dead, .fix 108 [.own 6, .d (di .i64 (0 : Int)), .d (di .i8 y56.1)], .grow 5 1 (List.map keS6 y56.2), .frame fr59 []]) rfl ?_
  refine AO.subO 5 rfl (.cons (SVLe.any _) (.cons (SVLe.refl _) (.cons (SVLe.refl _) .nil))) ?_
  refine AO.freezeG 6 rfl rfl rfl ?_
  obtain ⟨q60, h0⟩ := need_elim h0
  refine AO.op rfl (AOp.sliceD (cells := (List.map keS6 y56.2)) (n := y56.2.length) (l := ((0 : Int)).toNat) (hh := y56.2.length) rfl rfl lb rfl (.inr ⟨_, _, _, rfl, rfl, q60.1.1, rfl⟩) (.inl ⟨rfl, rfl⟩) el30 (by decide) (len1 _ _) q60.2.1 q60.2.2 (sub1 _ _ _ _) ?_)
  refine AO.mn 1 rfl ?_
  refine AC.ret ?_
  refine inlret (ob' := [.fix 27 [.d (di .i64 a0.Kind), .d (di .i64 a0.Layout), .d (di .i64 a0.SRID), .d (eS1 a0.Flat), .d (eS2 a0.Ends), .d (eS3 a0.Endss), .d (eS0 a0.Kids)], .fix 30 [.d (.v (.slice none 0 0))], .fix 4 [.d (dbool false)], .frame fr3 [(4, .ptr 1 0), (5, .ptr 2 0)], .dead, .fix 108 [.any, .d (di .i64 (0 : Int)), .d (di .i8 y56.1)], .dead, .dead]) (e' := []) (r := .d (eS6 ((y56.2.drop ((0 : Int)).toNat).take (y56.2.length - ((0 : Int)).toNat)))) rfl rfl rfl ?_
  change AO _ _ _ _ _
  refine AO.mv 2 rfl ?_
  refine AO.objs (obs' := [.fix 27 [.d (di .i64 a0.Kind), .d (di .i64 a0.Layout), .d (di .i64 a0.SRID), .d (eS1 a0.Flat), .d (eS2 a0.Ends), .d (eS3 a0.Endss), .d (eS0 a0.Kids)], .fix 30 [.d (.v (.slice none 0 0))], .fix 4 [.d (dbool false)], .frame fr3 [(4, .ptr 1 0), (5, .ptr 2 0)], .dead, .fix 108 [.any, .d (di .i64 (0 : Int)), .d (di .i8 y56.1)], .dead, .dead]) rfl ?_
  refine AO.nS ?_
  refine AC.ret ?_
  refine inlret (ob' := [.fix 27 [.d (di .i64 a0.Kind), .d (di .i64 a0.Layout), .d (di .i64 a0.SRID), .d (eS1 a0.Flat), .d (eS2 a0.Ends), .d (eS3 a0.Endss), .d (eS0 a0.Kids)], .fix 30 [.d (.v (.slice none 0 0))], .fix 4 [.d (dbool false)], .dead, .dead, .fix 108 [.any, .d (di .i64 (0 : Int)), .d (di .i8 y56.1)], .dead, .dead]) (e' := [(4, .ptr 1 0), (5, .ptr 2 0)]) (r := .tu [.d (eS6 ((y56.2.drop ((0 : Int)).toNat).take (y56.2.length - ((0 : Int)).toNat))), .d (.v (.nilIface))]) rfl rfl rfl ?_
  change AO _ _ _ _ _
  refine AO.mv 5 rfl ?_
  refine AO.objs (obs' := [.fix 27 [.d (di .i64 a0.Kind), .d (di .i64 a0.Layout), .d (di .i64 a0.SRID), .d (eS1 a0.Flat), .d (eS2 a0.Ends), .d (eS3 a0.Endss), .d (eS0 a0.Kids)], .fix 30 [.d (.v (.slice none 0 0))], .fix 4 [.d (dbool false)], .dead, .dead, .fix 108 [.any, .d (di .i64 (0 : Int)), .d (di .i8 y56.1)], .dead, .dead]) rfl ?_
  refine AO.nS ?_
  refine AC.seq ?_
  refine AC.sm 1 rfl ?_
  refine AO.op rfl (AOp.nilNeq rfl rfl lb rfl imeth44 ?_)
  refine AO.nS ?_
  refine AC.condF rfl rfl ?_
  refine AC.skip ?_
  change AC _ _ _ _
  refine AC.sm 1 rfl ?_
  refine AO.op rfl (AOp.store rfl rfl rfl rfl size30 rfl rfl rfl (leb rfl) ?_)
  refine AO.op rfl (AOp.store rfl rfl rfl rfl size4 rfl rfl rfl (leb rfl) ?_)
  refine AO.nS ?_
  refine AC.ret ?_
  change RetQ _ _ _ .ret _
  obtain rfl := Option.some.inj h0
  refine retq rfl rfl
 replace h0 := cF h0 q53
 cases h0

set_option maxRecDepth 100000 in
set_option maxHeartbeats 4000000 in
theorem w_NumParts (a0 : TImpl_Geom) (r0 : Int) (h0 : p_NumParts a0 = some r0) : FnD Tryz.prog 21 [e_TImpl_Geom a0] (fun r => r = di .i64 r0) := by
 refine FnD.of (by kernel_rfl) Tryz.func21 rfl Tryz.ntmps21 rfl (leb rfl) fun W ok => ?_
 unfold p_NumParts at h0
 refine AC.sr ?_
 refine AO.op rfl (AOp.box rfl rfl lb rfl rfl ?_)
 refine AO.mn 1 rfl ?_
 refine AC.seq ?_
 refine AC.sr ?_
 refine AO.op rfl (AOp.fieldAddr rfl rfl lb rfl fo27_0 ?_)
 refine AO.op rfl (AOp.load1 rfl rfl lb rfl agg3 rfl rfl ?_)
 refine AO.nS ?_
 refine AC.block ?_
 refine AC.joinP (V := Bool) [1, 4] [5] 1 (fun g1 => [(5, .d (dbool g1))]) (fun g1 => [.fix 27 [.d (di .i64 a0.Kind), .d (di .i64 a0.Layout), .d (di .i64 a0.SRID), .d (eS1 a0.Flat), .d (eS2 a0.Ends), .d (eS3 a0.Endss), .d (eS0 a0.Kids)]]) (fun g1 => (p_NumParts_k1 a0) g1 = some r0) rfl ?_ ?_
 ·refine AC.sr ?_
  refine AO.op rfl (AOp.ieql rfl rfl lb rfl rfl ?_)
  refine AO.mn 1 rfl ?_
  refine AC.cond rfl (fun q4 => ?_) (fun q4 => ?_)
  ·replace h0 := cT h0 q4
   refine AC.skip ?_
   exact ⟨(decide (a0.Kind = (3 : Int))), _, rfl, (LeL.refl _), rfl, rfl, h0⟩
  replace h0 := cF h0 q4
  refine AC.sr ?_
  refine AO.op rfl (AOp.ieql rfl rfl lb rfl rfl ?_)
  refine AO.mn 1 rfl ?_
  refine AC.cond rfl (fun q5 => ?_) (fun q5 => ?_)
  ·replace h0 := cT h0 q5
   refine AC.skip ?_
   exact ⟨(decide (a0.Kind = (4 : Int))), _, rfl, (LeL.refl _), rfl, rfl, h0⟩
  replace h0 := cF h0 q5
  refine AC.region ?_
  refine AO.op rfl (AOp.ieql rfl rfl lb rfl rfl ?_)
  refine AO.mv 1 rfl ?_
  refine AO.nil ?_
  exact ⟨(decide (a0.Kind = (5 : Int))), _, rfl, (LeL.refl _), rfl, rfl, h0⟩
 intro g1 h0
 unfold p_NumParts_k1 at h0
 refine AC.cond rfl (fun q2 => ?_) (fun q2 => ?_)
 ·replace h0 := cT h0 q2
  refine AC.sr ?_
  refine AO.op rfl (AOp.fieldAddr rfl rfl lb rfl fo27_4 ?_)
  refine AO.op rfl (AOp.load1 rfl rfl lb rfl agg23 rfl rfl ?_)
  refine AO.op rfl (AOp.lenDs (n := a0.Ends.length) (cells := (List.map keS2 a0.Ends)) rfl rfl lb rfl el23 (by decide) (len1 _ _) ?_)
  refine AO.mn 1 rfl ?_
  refine AC.ret ?_
  change RetQ _ _ _ .ret _
  obtain rfl := Option.some.inj h0
  refine retq rfl rfl
 replace h0 := cF h0 q2
 refine AC.sr ?_
 refine AO.op rfl (AOp.ieql rfl rfl lb rfl rfl ?_)
 refine AO.mn 1 rfl ?_
 refine AC.cond rfl (fun q3 => ?_) (fun q3 => ?_)
 ·replace h0 := cT h0 q3
  refine AC.sr ?_
  refine AO.op rfl (AOp.fieldAddr rfl rfl lb rfl fo27_5 ?_)
  refine AO.op rfl (AOp.load1 rfl rfl lb rfl agg24 rfl rfl ?_)
  refine AO.op rfl (AOp.lenDs (n := a0.Endss.length) (cells := (List.map keS3 a0.Endss)) rfl rfl lb rfl el24 (by decide) (len1 _ _) ?_)
  refine AO.mn 1 rfl ?_
  refine AC.ret ?_
  change RetQ _ _ _ .ret _
  obtain rfl := Option.some.inj h0
  refine retq rfl rfl
 replace h0 := cF h0 q3
 refine AC.skip ?_
 change AC _ _ _ _
 refine AC.sr ?_
 refine AO.op rfl (AOp.fieldAddr rfl rfl lb rfl fo27_6 ?_)
 refine AO.op rfl (AOp.load1 rfl rfl lb rfl agg25 rfl rfl ?_)
 refine AO.op rfl (AOp.lenDs (n := a0.Kids.length) (cells := (List.flatMap c0_TImpl_Geom a0.Kids)) rfl rfl lb rfl el25 (by decide) (lenN _ 7 c0_TImpl_Geom_len _) ?_)
 refine AO.mn 1 rfl ?_
 refine AC.ret ?_
 change RetQ _ _ _ .ret _
 obtain rfl := Option.some.inj h0
 refine retq rfl rfl

set_option maxRecDepth 100000 in
set_option maxHeartbeats 4000000 in
theorem w_KidOf (a0 : Int) (r0 : Int) (h0 : p_KidOf a0 = some r0) : FnD Tryz.prog 51 [di .i64 a0] (fun r => r = di .i64 r0) := by
 refine FnD.of (by kernel_rfl) Tryz.func51 rfl Tryz.ntmps51 rfl (leb rfl) fun W ok => ?_
 unfold p_KidOf at h0
 refine AC.smn 1 rfl ?_
 refine AC.seq ?_
 refine AC.sm 1 rfl ?_
 refine AO.op rfl (AOp.igeq rfl rfl lb rfl rfl ?_)
 refine AO.mv 1 rfl ?_
 refine AO.dec (decide ((4 : Int) ≤ a0)) (fun q1 => ?_) (fun q1 => ?_)
 ·replace h0 := cT h0 q1
  refine AO.guardY rfl rfl rfl q1 (AOp.move rfl rfl lb rfl ?_)
  refine AO.guardY rfl rfl rfl q1 (AOp.ileq rfl rfl lb rfl rfl ?_)
  refine AO.op rfl (AOp.pick rfl rfl lb rfl q1 rfl ?_)
  refine AO.nS ?_
  refine AC.cond rfl (fun q2 => ?_) (fun q2 => ?_)
  ·replace h0 := cT h0 q2
   refine AC.sm 1 rfl ?_
   obtain ⟨q3, h0⟩ := need_elim h0
   refine AO.op rfl (AOp.isub rfl rfl lb rfl rfl rfl q3.1 q3.2 ?_)
   refine AO.mn 1 rfl ?_
   refine AC.ret ?_
   change RetQ _ _ _ .ret _
   obtain rfl := Option.some.inj h0
   refine retq rfl rfl
  replace h0 := cF h0 q2
  refine AC.skip ?_
  change AC _ _ _ _
  refine AC.smn 1 rfl ?_
  refine AC.ret ?_
  change RetQ _ _ _ .ret _
  obtain rfl := Option.some.inj h0
  refine retq rfl rfl
 replace h0 := cF h0 q1
 refine AO.guardN rfl rfl rfl lb rfl q1 ?_
 refine AO.guardN rfl rfl rfl lb rfl q1 ?_
 refine AO.op rfl (AOp.pickN rfl rfl lb rfl q1 rfl ?_)
 refine AO.nS ?_
 refine AC.condF rfl rfl ?_
 refine AC.skip ?_
 change AC _ _ _ _
 refine AC.smn 1 rfl ?_
 refine AC.ret ?_
 change RetQ _ _ _ .ret _
 obtain rfl := Option.some.inj h0
 refine retq rfl rfl

set_option maxRecDepth 100000 in
set_option maxHeartbeats 4000000 in
theorem w_Part (F : Nat) (a0 : TImpl_Geom) (a1 : Int) (r0 : TImpl_Geom) (h0 : p_Part F a0 a1 = some r0) : FnD Tryz.prog 22 [e_TImpl_Geom a0, di .i64 a1] (fun r => r = e_TImpl_Geom r0) := by
 refine FnD.of (by kernel_rfl) Tryz.func22 rfl Tryz.ntmps22 rfl (leb rfl) fun W ok => ?_
 unfold p_Part at h0
 refine AC.sr ?_
 refine AO.op rfl (AOp.box rfl rfl lb rfl rfl ?_)
 refine AO.op rfl (AOp.alloc rfl rfl lb zero27 rfl ?_)
 refine AO.nS ?_
 refine AC.seq ?_
 refine AC.sr ?_
 refine AO.op rfl (AOp.fieldAddr rfl rfl lb rfl fo27_0 ?_)
 refine AO.op rfl (AOp.load1 rfl rfl lb rfl agg3 rfl rfl ?_)
 refine AO.op rfl (AOp.ieql rfl rfl lb rfl rfl ?_)
 refine AO.nS ?_
 refine AC.cond rfl (fun q1 => ?_) (fun q1 => ?_)
 ·replace h0 := cT h0 q1
  refine AC.sr ?_
  refine AO.op rfl (AOp.fieldAddr rfl rfl lb rfl fo27_6 ?_)
  refine AO.op rfl (AOp.load1 rfl rfl lb rfl agg25 rfl rfl ?_)
  refine AO.mv 1 rfl ?_
  obtain ⟨x2, q3, h0⟩ := idx_elim h0
  refine AO.op rfl (AOp.indexDs (cells := (List.flatMap c0_TImpl_Geom a0.Kids)) rfl rfl lb rfl rfl el25 (by decide) q3.1 (ltN 7 c0_TImpl_Geom_len (by decide) q3.2) ?_)
  refine AO.op rfl (AOp.loadEpN rfl rfl lb rfl agg27 size27 (leN 7 c0_TImpl_Geom_len q3.2) ((atN 7 c0_TImpl_Geom_len q3.2).trans (c0_TImpl_Geom_eq x2)) ?_)
  refine AO.op rfl (AOp.store rfl rfl rfl rfl size27 rfl rfl rfl (leb rfl) ?_)
  refine AO.nS ?_
  refine AC.ret ?_
  change RetQ _ _ _ .ret _
  obtain rfl := Option.some.inj h0
  refine retq rfl rfl
 replace h0 := cF h0 q1
 refine AC.skip ?_
 change AC _ _ _ _
 refine AC.seq ?_
 refine AC.sr ?_
 refine AO.op rfl (AOp.fieldAddr rfl rfl lb rfl fo27_0 ?_)
 refine AO.op rfl (AOp.load1 rfl rfl lb rfl agg3 rfl rfl ?_)
 refine AO.op rfl (AOp.ieql rfl rfl lb rfl rfl ?_)
 refine AO.nS ?_
 refine AC.cond rfl (fun q4 => ?_) (fun q4 => ?_)
 ·replace h0 := cT h0 q4
  refine AC.smn 1 rfl ?_
  refine AC.seq ?_
  refine AC.sr ?_
  refine AO.op rfl (AOp.fieldAddr rfl rfl lb rfl fo27_5 ?_)
  refine AO.op rfl (AOp.load1 rfl rfl lb rfl agg24 rfl rfl ?_)
  refine AO.mv 1 rfl ?_
  obtain ⟨q5, h0⟩ := need_elim h0
  refine AO.op rfl (AOp.sliceD (cells := (List.map keS3 a0.Endss)) (n := a0.Endss.length) (l := 0) (hh := (a1).toNat) rfl rfl lb rfl (.inl ⟨rfl, rfl⟩) (.inr ⟨_, _, _, rfl, rfl, q5.1.2, rfl⟩) el24 (by decide) (len1 _ _) q5.2.1 q5.2.2 (sub1 _ _ _ _) ?_)
  refine AO.op rfl (AOp.lenDs (n := ((a0.Endss.drop 0).take ((a1).toNat - 0)).length) (cells := (List.map keS3 ((a0.Endss.drop 0).take ((a1).toNat - 0)))) rfl rfl lb rfl el24 (by decide) (len1 _ _) ?_)
  refine AO.mn 1 rfl ?_
  obtain ⟨o6, l7, h0⟩ := bind_elim h0
  refine AC.joinE (V := Int) [1, 2, 4] [5] 2 (fun g8 => [(5, .d (di .i64 g8))]) (fun g8 => [.fix 27 [.d (di .i64 a0.Kind), .d (di .i64 a0.Layout), .d (di .i64 a0.SRID), .d (eS1 a0.Flat), .d (eS2 a0.Ends), .d (eS3 a0.Endss), .d (eS0 a0.Kids)], .fix 27 [.d (di .i64 (0 : Int)), .d (di .i64 (0 : Int)), .d (di .i64 (0 : Int)), .d (.v (.slice none 0 0)), .d (.v (.slice none 0 0)), .d (.v (.slice none 0 0)), .d (.v (.slice none 0 0))]]) (fun g8 => (p_Part_k1 a0 a1 F) g8 = some r0) rfl ?_ ?_
  ·refine AC.block ?_
   refine AC.loopP (V := (Int × Int)) (p_Part_l4 a0 a1) o6 [1, 2, 4, 28, 29] [5, 30] 2 (fun g25 => [(5, .d (di .i64 g25.1)), (30, .d (di .i64 g25.2))]) (fun g25 => [.fix 27 [.d (di .i64 a0.Kind), .d (di .i64 a0.Layout), .d (di .i64 a0.SRID), .d (eS1 a0.Flat), .d (eS2 a0.Ends), .d (eS3 a0.Endss), .d (eS0 a0.Kids)], .fix 27 [.d (di .i64 (0 : Int)), .d (di .i64 (0 : Int)), .d (di .i64 (0 : Int)), .d (.v (.slice none 0 0)), .d (.v (.slice none 0 0)), .d (.v (.slice none 0 0)), .d (.v (.slice none 0 0))]]) F ((0 : Int), (0 : Int)) l7 rfl rfl (LeL.refl _) rfl rfl ?_
   intro n27 g25 h1
   unfold p_Part_l4 at h1
   refine AC.sr ?_
   refine AO.op rfl (AOp.ilss rfl rfl lb rfl rfl ?_)
   refine AO.nS ?_
   refine AC.seq ?_
   refine AC.cond rfl (fun q28 => ?_) (fun q28 => ?_)
   ·replace h1 := cT h1 q28
    refine AC.skip ?_
    change AC _ _ _ _
    refine AC.seq ?_
    refine AC.block ?_
    refine AC.sr ?_
    obtain ⟨x29, q30, h1⟩ := idx_elim h1
    refine AO.op rfl (AOp.indexDs (cells := (List.map keS3 ((a0.Endss.drop 0).take ((a1).toNat - 0)))) rfl rfl lb rfl rfl el24 (by decide) q30.1 (lt1 q30.2) ?_)
    refine AO.op rfl (AOp.loadEp rfl rfl lb rfl agg23 (at1 q30.2) ?_)
    refine AO.mn 1 rfl ?_
    refine AC.sm 1 rfl ?_
    refine AO.op rfl (AOp.lenDs (n := x29.length) (cells := (List.map keS2 x29)) rfl rfl lb rfl el23 (by decide) (len1 _ _) ?_)
    refine AO.op rfl (AOp.igtr rfl rfl lb rfl rfl ?_)
    refine AO.nS ?_
    refine AC.cond rfl (fun q31 => ?_) (fun q31 => ?_)
    ·replace h1 := cT h1 q31
     refine AC.region ?_
     refine AO.mv 2 rfl ?_
     refine AO.op rfl (AOp.lenDs (n := x29.length) (cells := (List.map keS2 x29)) rfl rfl lb rfl el23 (by decide) (len1 _ _) ?_)
     obtain ⟨q32, h1⟩ := need_elim h1
     refine AO.op rfl (AOp.isub rfl rfl lb rfl rfl rfl q32.1 q32.2 ?_)
     obtain ⟨x33, q34, h1⟩ := idx_elim h1
     refine AO.op rfl (AOp.indexDs (cells := (List.map keS2 x29)) rfl rfl lb rfl rfl el23 (by decide) q34.1 (lt1 q34.2) ?_)
     refine AO.op rfl (AOp.loadEp rfl rfl lb rfl agg3 (at1 q34.2) ?_)
     refine AO.mv 1 rfl ?_
     refine AO.nil (?_ : AC _ _ _ _)
     refine AC.region ?_
     obtain ⟨q35, h1⟩ := need_elim h1
     refine AO.op rfl (AOp.iadd rfl rfl lb rfl rfl rfl q35.1 q35.2 ?_)
     refine AO.mv 1 rfl ?_
     refine AO.nil ?_
     exact ⟨(x33, (g25.2 + (1 : Int))), _, rfl, (LeL.refl _), rfl, rfl, h1⟩
    replace h1 := cF h1 q31
    refine AC.skip ?_
    change AC _ _ _ _
    refine AC.region ?_
    obtain ⟨q36, h1⟩ := need_elim h1
    refine AO.op rfl (AOp.iadd rfl rfl lb rfl rfl rfl q36.1 q36.2 ?_)
    refine AO.mv 1 rfl ?_
    refine AO.nil ?_
    exact ⟨(g25.1, (g25.2 + (1 : Int))), _, rfl, (LeL.refl _), rfl, rfl, h1⟩
   replace h1 := cF h1 q28
   refine AC.exit ?_
   obtain rfl := Option.some.inj h1
   exact ⟨g25.1, _, rfl, (LeL.refl _), rfl, rfl, aftL h0⟩
  intro g8 h0
  unfold p_Part_k1 at h0
  change AC _ _ _ _
  refine AC.sr ?_
  refine AO.op rfl (AOp.fieldAddr rfl rfl lb rfl fo27_1 ?_)
  refine AO.op rfl (AOp.load1 rfl rfl lb rfl agg3 rfl rfl ?_)
  refine AO.op rfl (AOp.build rfl rfl lb zero27 rfl places27 rfl rfl ?_)
  refine AO.op rfl (AOp.alloc rfl rfl lb zero27 rfl ?_)
  refine AO.op rfl (AOp.store rfl rfl rfl rfl size27 rfl rfl rfl (leb rfl) ?_)
  refine AO.nS ?_
  refine AC.smn 2 rfl ?_
  refine AC.seq ?_
  refine AC.sr ?_
  refine AO.op rfl (AOp.fieldAddr rfl rfl lb rfl fo27_5 ?_)
  refine AO.op rfl (AOp.load1 rfl rfl lb rfl agg24 rfl rfl ?_)
  refine AO.mv 1 rfl ?_
  obtain ⟨x9, q10, h0⟩ := idx_elim h0
  refine AO.op rfl (AOp.indexDs (cells := (List.map keS3 a0.Endss)) rfl rfl lb rfl rfl el24 (by decide) q10.1 (lt1 q10.2) ?_)
  refine AO.op rfl (AOp.loadEp rfl rfl lb rfl agg23 (at1 q10.2) ?_)
  refine AO.op rfl (AOp.lenDs (n := x9.length) (cells := (List.map keS2 x9)) rfl rfl lb rfl el23 (by decide) (len1 _ _) ?_)
  refine AO.mn 1 rfl ?_
  refine AC.adoptO 2 4 3 1 rfl rfl ?_
  obtain ⟨o11, l12, h0⟩ := bind_elim h0
  refine AC.joinE (V := (Int × (List Int))) [2, 4, 5, 8] [9] 4 (fun g13 => [(9, .d (di .i64 g13.1))]) (fun g13 => [.fix 27 [.d (di .i64 a0.Kind), .d (di .i64 a0.Layout), .d (di .i64 a0.SRID), .d (eS1 a0.Flat), .d (eS2 a0.Ends), .d (eS3 a0.Endss), .d (eS0 a0.Kids)], .fix 27 [.d (di .i64 (0 : Int)), .d (di .i64 (0 : Int)), .d (di .i64 (0 : Int)), .d (.v (.slice none 0 0)), .d (.v (.slice none 0 0)), .d (.v (.slice none 0 0)), .d (.v (.slice none 0 0))], .fix 27 [.d (di .i64 (3 : Int)), .d (di .i64 a0.Layout), .d (di .i64 (0 : Int)), .d (.v (.slice none 0 0)), .own 3, .d (.v (.slice none 0 0)), .d (.v (.slice none 0 0))], .grow 3 1 (List.map keS2 g13.2)]) (fun g13 => (p_Part_k2 a0 g8) g13 = some r0) rfl ?_ ?_
  ·refine AC.block ?_
   refine AC.loopP (V := (Int × Int × (List Int))) (p_Part_l3 g8 x9) o11 [2, 4, 5, 8, 52, 53] [9, 54] 4 (fun g16 => [(9, .d (di .i64 g16.1)), (54, .d (di .i64 g16.2.1))]) (fun g16 => [.fix 27 [.d (di .i64 a0.Kind), .d (di .i64 a0.Layout), .d (di .i64 a0.SRID), .d (eS1 a0.Flat), .d (eS2 a0.Ends), .d (eS3 a0.Endss), .d (eS0 a0.Kids)], .fix 27 [.d (di .i64 (0 : Int)), .d (di .i64 (0 : Int)), .d (di .i64 (0 : Int)), .d (.v (.slice none 0 0)), .d (.v (.slice none 0 0)), .d (.v (.slice none 0 0)), .d (.v (.slice none 0 0))], .fix 27 [.d (di .i64 (3 : Int)), .d (di .i64 a0.Layout), .d (di .i64 (0 : Int)), .d (.v (.slice none 0 0)), .own 3, .d (.v (.slice none 0 0)), .d (.v (.slice none 0 0))], .grow 3 1 (List.map keS2 g16.2.2)]) F (g8, (0 : Int), []) l12 rfl rfl (LeL.refl _) rfl rfl ?_
   intro n18 g16 h1
   unfold p_Part_l3 at h1
   refine AC.sr ?_
   refine AO.op rfl (AOp.ilss rfl rfl lb rfl rfl ?_)
   refine AO.nS ?_
   refine AC.seq ?_
   refine AC.cond rfl (fun q19 => ?_) (fun q19 => ?_)
   ·replace h1 := cT h1 q19
    refine AC.skip ?_
    change AC _ _ _ _
    refine AC.seq ?_
    refine AC.block ?_
    refine AC.sr ?_
    obtain ⟨x20, q21, h1⟩ := idx_elim h1
    refine AO.op rfl (AOp.indexDs (cells := (List.map keS2 x9)) rfl rfl lb rfl rfl el23 (by decide) q21.1 (lt1 q21.2) ?_)
    refine AO.op rfl (AOp.loadEp rfl rfl lb rfl agg3 (at1 q21.2) ?_)
    refine AO.mn 1 rfl ?_
    refine AC.sr ?_
    refine AO.op rfl (AOp.fieldAddr rfl rfl lb rfl fo27_4 ?_)
    refine AO.op rfl (AOp.load1 rfl rfl lb rfl agg23 rfl rfl ?_)
    refine AO.mv 2 rfl ?_
    obtain ⟨q22, h1⟩ := need_elim h1
    refine AO.op rfl (AOp.isub rfl rfl lb rfl rfl rfl q22.1 q22.2 ?_)
    refine AO.op rfl (AOp.buildSliceD rfl rfl lb el23 zero3 rfl (leb rfl) rfl rfl rfl rfl ?_)
    refine AO.subO 2 rfl (.cons (SVLe.refl _) (.cons (SVLe.refl _) (.cons (SVLe.refl _) (.cons (SVLe.refl _) (.cons (SVLe.any _) (.cons (SVLe.refl _) (.cons (SVLe.refl _) .nil))))))) ?_
    obtain ⟨q23, h1⟩ := need_elim h1
    refine AO.op rfl (AOp.appendOwn' (p := 3) (n := g16.2.2.length) (m := [(x20 - g8)].length) (news := (List.map keS2 [(x20 - g8)])) rfl rfl lb rfl rfl el23 info3 rfl (by decide) rfl (len1 _ _) (len1 _ _) (one1 _ (fun _ => rfl) _) q23 (by decide) rfl rfl (cat1 _ _ _) ?_)
    refine AO.op rfl (AOp.fieldAddr rfl rfl lb rfl fo27_4 ?_)
    refine AO.op rfl (AOp.storeOwn rfl rfl rfl rfl rfl rfl size23 rfl rfl (leb rfl) ?_)
    refine AO.nS ?_
    refine AC.region ?_
    refine AO.mv 2 rfl ?_
    refine AO.nil (?_ : AC _ _ _ _)
    refine AC.region ?_
    obtain ⟨q24, h1⟩ := need_elim h1
    refine AO.op rfl (AOp.iadd rfl rfl lb rfl rfl rfl q24.1 q24.2 ?_)
    refine AO.mv 1 rfl ?_
    refine AO.nil ?_
    exact ⟨(x20, (g16.2.1 + (1 : Int)), (g16.2.2 ++ [(x20 - g8)])), _, rfl, (LeL.refl _), rfl, rfl, h1⟩
   replace h1 := cF h1 q19
   refine AC.exit ?_
   obtain rfl := Option.some.inj h1
   exact ⟨(g16.1, g16.2.2), _, rfl, (LeL.refl _), rfl, rfl, aftL h0⟩
  intro g13 h0
  unfold p_Part_k2 at h0
  change AC _ _ _ _
  refine AC.sr ?_
  refine AO.op rfl (AOp.buildOwn rfl rfl lb el22 zero60 rfl (leb rfl) rfl rfl rfl rfl ?_)
  refine AO.op rfl (AOp.fieldAddr rfl rfl lb rfl fo27_3 ?_)
  refine AO.op rfl (AOp.load1 rfl rfl lb rfl agg22 rfl rfl ?_)
  refine AO.mv 2 rfl ?_
  obtain ⟨q14, h0⟩ := need_elim h0
  refine AO.op rfl (AOp.sliceD (cells := (List.map keS1 a0.Flat)) (n := a0.Flat.length) (l := (g8).toNat) (hh := (g13.1).toNat) rfl rfl lb rfl (.inr ⟨_, _, _, rfl, rfl, q14.1.1, rfl⟩) (.inr ⟨_, _, _, rfl, rfl, q14.1.2, rfl⟩) el22 (by decide) (len1 _ _) q14.2.1 q14.2.2 (sub1 _ _ _ _) ?_)
  obtain ⟨q15, h0⟩ := need_elim h0
  refine AO.op rfl (AOp.appendOwn' (p := 4) (n := 0) (m := ((a0.Flat.drop (g8).toNat).take ((g13.1).toNat - (g8).toNat)).length) (news := (List.map keS1 ((a0.Flat.drop (g8).toNat).take ((g13.1).toNat - (g8).toNat)))) rfl rfl lb rfl rfl el22 info60 rfl (by decide) rfl rfl (len1 _ _) (one1 _ (fun _ => rfl) _) q15 (by decide) rfl rfl rfl ?_)
  refine AO.op rfl (AOp.fieldAddr rfl rfl lb rfl fo27_3 ?_)
  refine AO.op rfl (AOp.storeOwn rfl rfl rfl rfl rfl rfl size22 rfl rfl (leb rfl) ?_)
  refine AO.nS ?_
  refine AC.sr ?_
  refine AO.op rfl (AOp.loadN rfl rfl lb rfl agg27 size27 rfl (leb rfl) rfl ?_)
  refine AO.subO 2 rfl (.cons (SVLe.refl _) (.cons (SVLe.refl _) (.cons (SVLe.refl _) (.cons (SVLe.any _) (.cons (SVLe.refl _) (.cons (SVLe.refl _) (.cons (SVLe.refl _) .nil))))))) ?_
  refine AO.freezeG 4 rfl rfl rfl ?_
  refine AO.subO 2 rfl (.cons (SVLe.refl _) (.cons (SVLe.refl _) (.cons (SVLe.refl _) (.cons (SVLe.refl _) (.cons (SVLe.any _) (.cons (SVLe.refl _) (.cons (SVLe.refl _) .nil))))))) ?_
  refine AO.freezeG 3 rfl rfl rfl ?_
  refine AO.op rfl (AOp.store rfl rfl rfl rfl size27 rfl rfl rfl (leb rfl) ?_)
  refine AO.nS ?_
  refine AC.subO 1 rfl (.cons (SVLe.refl _) (.cons (SVLe.refl _) (.cons (SVLe.refl _) (.cons (SVLe.refl _) (.cons (SVLe.refl _) (.cons (SVLe.nil 1) (.cons (SVLe.nil 7) .nil))))))) ?_
  refine AC.ret ?_
  change RetQ _ _ _ .ret _
  obtain rfl := Option.some.inj h0
  refine retq rfl rfl
 replace h0 := cF h0 q4
 refine AC.skip ?_
 change AC _ _ _ _
 refine AC.smn 1 rfl ?_
 refine AC.joinP (V := Int) [1, 2, 4] [12] 2 (fun g37 => [(12, .d (di .i64 g37))]) (fun g37 => [.fix 27 [.d (di .i64 a0.Kind), .d (di .i64 a0.Layout), .d (di .i64 a0.SRID), .d (eS1 a0.Flat), .d (eS2 a0.Ends), .d (eS3 a0.Endss), .d (eS0 a0.Kids)], .fix 27 [.d (di .i64 (0 : Int)), .d (di .i64 (0 : Int)), .d (di .i64 (0 : Int)), .d (.v (.slice none 0 0)), .d (.v (.slice none 0 0)), .d (.v (.slice none 0 0)), .d (.v (.slice none 0 0))]]) (fun g37 => (p_Part_k5 a0 a1) g37 = some r0) rfl ?_ ?_
 ·refine AC.sm 1 rfl ?_
  refine AO.op rfl (AOp.igtr rfl rfl lb rfl rfl ?_)
  refine AO.nS ?_
  refine AC.cond rfl (fun q46 => ?_) (fun q46 => ?_)
  ·replace h0 := cT h0 q46
   refine AC.region ?_
   refine AO.op rfl (AOp.fieldAddr rfl rfl lb rfl fo27_4 ?_)
   refine AO.op rfl (AOp.load1 rfl rfl lb rfl agg23 rfl rfl ?_)
   refine AO.mv 1 rfl ?_
   obtain ⟨q47, h0⟩ := need_elim h0
   refine AO.op rfl (AOp.isub rfl rfl lb rfl rfl rfl q47.1 q47.2 ?_)
   obtain ⟨x48, q49, h0⟩ := idx_elim h0
   refine AO.op rfl (AOp.indexDs (cells := (List.map keS2 a0.Ends)) rfl rfl lb rfl rfl el23 (by decide) q49.1 (lt1 q49.2) ?_)
   refine AO.op rfl (AOp.loadEp rfl rfl lb rfl agg3 (at1 q49.2) ?_)
   refine AO.mv 1 rfl ?_
   refine AO.nil ?_
   exact ⟨x48, _, rfl, (LeL.refl _), rfl, rfl, h0⟩
  replace h0 := cF h0 q46
  refine AC.skip ?_
  exact ⟨(0 : Int), _, rfl, (LeL.refl _), rfl, rfl, h0⟩
 intro g37 h0
 unfold p_Part_k5 at h0
 refine AC.smn 1 rfl ?_
 refine AC.joinP (V := Int) [1, 2, 4, 12] [13] 2 (fun g38 => [(13, .d (di .i64 g38))]) (fun g38 => [.fix 27 [.d (di .i64 a0.Kind), .d (di .i64 a0.Layout), .d (di .i64 a0.SRID), .d (eS1 a0.Flat), .d (eS2 a0.Ends), .d (eS3 a0.Endss), .d (eS0 a0.Kids)], .fix 27 [.d (di .i64 (0 : Int)), .d (di .i64 (0 : Int)), .d (di .i64 (0 : Int)), .d (.v (.slice none 0 0)), .d (.v (.slice none 0 0)), .d (.v (.slice none 0 0)), .d (.v (.slice none 0 0))]]) (fun g38 => (p_Part_k6 a0 a1 g37) g38 = some r0) rfl ?_ ?_
 ·refine AC.sr ?_
  refine AO.op rfl (AOp.fieldAddr rfl rfl lb rfl fo27_0 ?_)
  refine AO.op rfl (AOp.load1 rfl rfl lb rfl agg3 rfl rfl ?_)
  refine AO.op rfl (AOp.ineq rfl rfl lb rfl rfl ?_)
  refine AO.nS ?_
  refine AC.cond rfl (fun q43 => ?_) (fun q43 => ?_)
  ·replace h0 := cT h0 q43
   refine AC.region ?_
   refine AO.op rfl (AOp.fieldAddr rfl rfl lb rfl fo27_0 ?_)
   refine AO.op rfl (AOp.load1 rfl rfl lb rfl agg3 rfl rfl ?_)
   obtain ⟨y44, q45, h0⟩ := bind_elim h0
   refine AO.op rfl (AOp.callD rfl rfl lb rfl rfl (w_KidOf a0.Kind y44 q45) ?_)
   rintro _ rfl
   refine AO.mv 1 rfl ?_
   refine AO.nil ?_
   exact ⟨y44, _, rfl, (LeL.refl _), rfl, rfl, h0⟩
  replace h0 := cF h0 q43
  refine AC.skip ?_
  exact ⟨(8 : Int), _, rfl, (LeL.refl _), rfl, rfl, h0⟩
 intro g38 h0
 unfold p_Part_k6 at h0
 refine AC.seq ?_
 refine AC.room ?_
 obtain ⟨x39, q40, h0⟩ := idx_elim h0
 obtain ⟨q41, h0⟩ := need_elim h0
 obtain ⟨q42, h0⟩ := need_elim h0
 refine AC.drawS [0, 1, 2, 3, 4, 5, 6, 7, 8, 9, 10, 11, 12, 13] [3, 13] [14, 15] (fun L => [.fix 27 [.d (di .i64 a0.Kind), .d (di .i64 a0.Layout), .d (di .i64 a0.SRID), .d (eS1 a0.Flat), .d (eS2 a0.Ends), .d (eS3 a0.Endss), .d (eS0 a0.Kids)], .fix 27 [.d (di .i64 (0 : Int)), .d (di .i64 (0 : Int)), .d (di .i64 (0 : Int)), .d (.v (.slice none 0 0)), .d (.v (.slice none 0 0)), .d (.v (.slice none 0 0)), .d (.v (.slice none 0 0))], bif L 13 then .grow 60 1 (List.map keS1 ((a0.Flat.drop (g37).toNat).take ((x39).toNat - (g37).toNat))) else bif L 3 then .grow 60 1 (List.map keS1 []) else .dead]) [(3, SV.noO2 2 3), (13, SV.noO 2)] mixed (by kernel_rfl) (fun L L' h => by simp only [h 3 (by decide), h 13 (by decide)]) rfl ?_
 refine AS.op [13] [] [] [3, 13] rfl rfl rfl (by kernel_rfl) (by kernel_rfl) rfl rfl (fun _ _ _ h => AOp.move rfl rfl lb rfl h) (by kernel_rfl) ?_
 refine AS.op [2] [] [] [3, 13] rfl rfl rfl (by kernel_rfl) (by kernel_rfl) rfl rfl (fun _ _ _ h => AOp.fieldAddr rfl rfl lb rfl fo27_1 h) (by kernel_rfl) ?_
 refine AS.op [92] [] [] [3, 13] rfl rfl rfl (by kernel_rfl) (by kernel_rfl) rfl rfl (fun _ _ _ h => AOp.load1 rfl rfl lb rfl agg3 rfl rfl h) (by kernel_rfl) ?_
 refine AS.mid [] [] [13, 3] [] rfl rfl rfl rfl (by kernel_rfl) (by kernel_rfl) rfl rfl (fun _ _ _ h => AOp.buildOwn rfl rfl lb el22 zero60 rfl (leb rfl) rfl rfl rfl rfl (AO.sink 2 3 rfl rfl rfl (.cons rfl (.cons rfl (.cons (noO2_cond rfl (noO2_cond rfl rfl)) .nil))) rfl h)) (by kernel_rfl) rfl ?_
 refine AS.op [2] [] [13] [3] rfl rfl rfl (by kernel_rfl) (by kernel_rfl) rfl rfl (fun _ _ _ h => AOp.fieldAddr rfl rfl lb rfl fo27_3 h) (by kernel_rfl) ?_
 refine AS.op [95] [] [13] [3] rfl rfl rfl (by kernel_rfl) (by kernel_rfl) rfl rfl (fun _ _ _ h => AOp.load1 rfl rfl lb rfl agg22 rfl rfl h) (by kernel_rfl) ?_
 refine AS.op [12] [] [13] [3] rfl rfl rfl (by kernel_rfl) (by kernel_rfl) rfl rfl (fun _ _ _ h => AOp.move rfl rfl lb rfl h) (by kernel_rfl) ?_
 refine AS.op [2] [] [13] [3] rfl rfl rfl (by kernel_rfl) (by kernel_rfl) rfl rfl (fun _ _ _ h => AOp.fieldAddr rfl rfl lb rfl fo27_4 h) (by kernel_rfl) ?_
 refine AS.op [98] [] [13] [3] rfl rfl rfl (by kernel_rfl) (by kernel_rfl) rfl rfl (fun _ _ _ h => AOp.load1 rfl rfl lb rfl agg23 rfl rfl h) (by kernel_rfl) ?_
 refine AS.op [1] [] [13] [3] rfl rfl rfl (by kernel_rfl) (by kernel_rfl) rfl rfl (fun _ _ _ h => AOp.move rfl rfl lb rfl h) (by kernel_rfl) ?_
 refine AS.op [99, 100] [] [13] [3] rfl rfl rfl (by kernel_rfl) (by kernel_rfl) rfl rfl (fun _ _ _ h => AOp.indexDs (cells := (List.map keS2 a0.Ends)) rfl rfl lb rfl rfl el23 (by decide) q40.1 (lt1 q40.2) h) (by kernel_rfl) ?_
 refine AS.op [101] [] [13] [3] rfl rfl rfl (by kernel_rfl) (by kernel_rfl) rfl rfl (fun _ _ _ h => AOp.loadEp rfl rfl lb rfl agg3 (at1 q40.2) h) (by kernel_rfl) ?_
 refine AS.op [96, 97, 102] [] [13] [3] rfl rfl rfl (by kernel_rfl) (by kernel_rfl) rfl rfl (fun _ _ _ h => AOp.sliceD (cells := (List.map keS1 a0.Flat)) (n := a0.Flat.length) (l := (g37).toNat) (hh := (x39).toNat) rfl rfl lb rfl (.inr ⟨_, _, _, rfl, rfl, q41.1.1, rfl⟩) (.inr ⟨_, _, _, rfl, rfl, q41.1.2, rfl⟩) el22 (by decide) (len1 _ _) q41.2.1 q41.2.2 (sub1 _ _ _ _) h) (by kernel_rfl) ?_
 refine AS.mid [94, 103] [3] [13] [] rfl rfl rfl rfl (by kernel_rfl) (by kernel_rfl) rfl rfl (fun _ _ _ h => AOp.appendOwn' (p := 2) (n := 0) (m := ((a0.Flat.drop (g37).toNat).take ((x39).toNat - (g37).toNat)).length) (news := (List.map keS1 ((a0.Flat.drop (g37).toNat).take ((x39).toNat - (g37).toNat)))) rfl rfl lb rfl rfl el22 info60 rfl (by decide) rfl rfl (len1 _ _) (one1 _ (fun _ => rfl) _) q42 (by decide) (allNo (.cons rfl (.cons rfl (.cons rfl .nil)))) rfl rfl (AO.dropped h)) (by kernel_rfl) rfl ?_
 refine AS.done ?_
 refine AO.objs (obs' := [.fix 27 [.d (di .i64 a0.Kind), .d (di .i64 a0.Layout), .d (di .i64 a0.SRID), .d (eS1 a0.Flat), .d (eS2 a0.Ends), .d (eS3 a0.Endss), .d (eS0 a0.Kids)], .fix 27 [.d (di .i64 (0 : Int)), .d (di .i64 (0 : Int)), .d (di .i64 (0 : Int)), .d (.v (.slice none 0 0)), .d (.v (.slice none 0 0)), .d (.v (.slice none 0 0)), .d (.v (.slice none 0 0))], .grow 60 1 (List.map keS1 ((a0.Flat.drop (g37).toNat).take ((x39).toNat - (g37).toNat)))]) rfl ?_
 refine AO.freezeG 2 rfl rfl rfl ?_
 refine AO.op rfl (AOp.build rfl rfl lb zero27 rfl places27 rfl rfl ?_)
 refine AO.op rfl (AOp.store rfl rfl rfl rfl size27 rfl rfl rfl (leb rfl) ?_)
 refine AO.nil (?_ : AC _ _ _ _)
 refine AC.subO 1 rfl (.cons (SVLe.refl _) (.cons (SVLe.refl _) (.cons (SVLe.refl _) (.cons (SVLe.refl _) (.cons (SVLe.nil 1) (.cons (SVLe.nil 1) (.cons (SVLe.nil 7) .nil))))))) ?_
 refine AC.ret ?_
 change RetQ _ _ _ .ret _
 obtain rfl := Option.some.inj h0
 refine retq rfl rfl

set_option maxRecDepth 100000 in
set_option maxHeartbeats 4000000 in
theorem w_Parts (F : Nat) (a0 : TImpl_Geom) (r0 : (List TImpl_Geom)) (h0 : p_Parts F a0 = some r0) : FnD Tryz.prog 8 [e_TImpl_Geom a0] (fun r => r = eS0 r0) := by
 refine FnD.of (by kernel_rfl) Tryz.func8 rfl Tryz.ntmps8 rfl (leb rfl) fun W ok => ?_
 unfold p_Parts at h0
 refine AC.sr ?_
 refine AO.op rfl (AOp.box rfl rfl lb rfl rfl ?_)
 refine AO.mn 1 rfl ?_
 refine AC.smn 1 rfl ?_
 refine AC.seq ?_
 refine AC.sr ?_
 refine AO.op rfl (AOp.loadN rfl rfl lb rfl agg27 size27 rfl (leb rfl) rfl ?_)
 obtain ⟨y1, q2, h0⟩ := bind_elim h0
 refine AO.op rfl (AOp.callD rfl rfl lb rfl rfl (w_NumParts a0 y1 q2) ?_)
 rintro _ rfl
 refine AO.mn 1 rfl ?_
 refine AC.adopt 3 27 7 rfl ?_
 obtain ⟨o3, l4, h0⟩ := bind_elim h0
 refine AC.joinE (V := (List TImpl_Geom)) [] [3] 2 (fun g5 => [(3, .own 1)]) (fun g5 => [.fix 27 [.d (di .i64 a0.Kind), .d (di .i64 a0.Layout), .d (di .i64 a0.SRID), .d (eS1 a0.Flat), .d (eS2 a0.Ends), .d (eS3 a0.Endss), .d (eS0 a0.Kids)], .grow 27 7 (List.flatMap c0_TImpl_Geom g5)]) (fun g5 => p_Parts_k1 g5 = some r0) rfl ?_ ?_
 ·refine AC.block ?_
  refine AC.loopP (V := (Int × (List TImpl_Geom))) (p_Parts_l2 a0 F y1) o3 [1, 6] [3, 7] 2 (fun g6 => [(3, .own 1), (7, .d (di .i64 g6.1))]) (fun g6 => [.fix 27 [.d (di .i64 a0.Kind), .d (di .i64 a0.Layout), .d (di .i64 a0.SRID), .d (eS1 a0.Flat), .d (eS2 a0.Ends), .d (eS3 a0.Endss), .d (eS0 a0.Kids)], .grow 27 7 (List.flatMap c0_TImpl_Geom g6.2)]) F ((0 : Int), []) l4 rfl rfl (LeL.refl _) rfl rfl ?_
  intro n8 g6 h1
  unfold p_Parts_l2 at h1
  refine AC.sr ?_
  refine AO.op rfl (AOp.ilss rfl rfl lb rfl rfl ?_)
  refine AO.nS ?_
  refine AC.seq ?_
  refine AC.cond rfl (fun q9 => ?_) (fun q9 => ?_)
  ·replace h1 := cT h1 q9
   refine AC.skip ?_
   change AC _ _ _ _
   refine AC.seq ?_
   refine AC.block ?_
   refine AC.smn 2 rfl ?_
   refine AC.region ?_
   refine AO.mv 1 rfl ?_
   refine AO.op rfl (AOp.loadN rfl rfl lb rfl agg27 size27 rfl (leb rfl) rfl ?_)
   refine AO.mv 1 rfl ?_
   obtain ⟨y10, q11, h1⟩ := bind_elim h1
   refine AO.op rfl (AOp.callD rfl rfl lb rfl rfl (w_Part F a0 g6.1 y10 q11) ?_)
   rintro _ rfl
   refine AO.op rfl (AOp.buildSliceD rfl rfl lb el25 zero27 rfl (leb rfl) rfl rfl rfl rfl (AO.top (y := .d (eS0 [y10])) (SVLe.of_eq (by simp only [eS0, List.flatMap_cons, List.flatMap_nil, c0_TImpl_Geom_eq, List.append_nil] <;> rfl)) ?_))
   obtain ⟨q12, h1⟩ := need_elim h1
   refine AO.op rfl (AOp.appendOwn' (p := 1) (n := g6.2.length) (m := [y10].length) (news := (List.flatMap c0_TImpl_Geom [y10])) rfl rfl lb rfl rfl el25 info27 rfl (by decide) rfl (lenN _ 7 c0_TImpl_Geom_len _) (lenN _ 7 c0_TImpl_Geom_len _) (oneN _ c0_TImpl_Geom_one _) q12 (by decide) rfl rfl (catN _ _ _) ?_)
   refine AO.mv 1 rfl ?_
   refine AO.nil (?_ : AC _ _ _ _)
   refine AC.region ?_
   obtain ⟨q13, h1⟩ := need_elim h1
   refine AO.op rfl (AOp.iadd rfl rfl lb rfl rfl rfl q13.1 q13.2 ?_)
   refine AO.mv 1 rfl ?_
   refine AO.nil ?_
   exact ⟨((g6.1 + (1 : Int)), (g6.2 ++ [y10])), _, rfl, (LeL.refl _), rfl, rfl, h1⟩
  replace h1 := cF h1 q9
  refine AC.exit ?_
  obtain rfl := Option.some.inj h1
  exact ⟨g6.2, _, rfl, (LeL.refl _), rfl, rfl, aftL h0⟩
 intro g5 h0
 unfold p_Parts_k1 at h0
 change AC _ _ _ _
 refine AC.smn 2 rfl ?_
 refine AC.ret ?_
 change RetQ _ _ _ .ret _
 obtain rfl := Option.some.inj h0
 refine retq rfl rfl

set_option maxRecDepth 100000 in
set_option maxHeartbeats 4000000 in
theorem w_ySame (a0 : (List Int)) (a1 : (List Int)) (r0 : Bool) (h0 : p_ySame a0 a1 = some r0) : FnD Tryz.prog 9 [eS6 a0, eS6 a1] (fun r => r = dbool r0) := by
 refine FnD.of (by kernel_rfl) Tryz.func9 rfl Tryz.ntmps9 rfl (leb rfl) fun W ok => ?_
 unfold p_ySame at h0
 refine AC.smn 1 rfl ?_
 refine AC.sm 1 rfl ?_
 refine AO.op rfl (AOp.bytesStr (g := keS6) rfl rfl lb rfl (fun _ => rfl) Tryz.underlying30 Tryz.underlying5 Tryz.underlying9 ?_)
 refine AO.mv 1 rfl ?_
 refine AO.op rfl (AOp.bytesStr (g := keS6) rfl rfl lb rfl (fun _ => rfl) Tryz.underlying30 Tryz.underlying5 Tryz.underlying9 ?_)
 refine AO.op rfl (AOp.bin rfl rfl lb rfl rfl rfl (fun w => by rw [binOp_string_eql]; rfl) ?_)
 refine AO.mn 1 rfl ?_
 refine AC.ret ?_
 change RetQ _ _ _ .ret _
 obtain rfl := Option.some.inj h0
 refine retq rfl rfl

set_option maxRecDepth 100000 in
set_option maxHeartbeats 4000000 in
theorem w_CountBytes (F : Nat) (a0 : Int) (a1 : Bool) (r0 : (List Int)) (h0 : p_CountBytes F a0 a1 = some r0) : FnD Tryz.prog 10 [di .u32 a0, dbool a1] (fun r => r = eS6 r0) := by
 refine FnD.of (by kernel_rfl) Tryz.func10 rfl Tryz.ntmps10 rfl (leb rfl) fun W ok => ?_
 unfold p_CountBytes at h0
 refine AC.smn 1 rfl ?_
 refine AC.sm 1 rfl ?_
 refine AO.op rfl (AOp.build rfl rfl lb zero57 rfl places57 rfl rfl ?_)
 refine AO.op rfl (AOp.box rfl rfl lb rfl rfl ?_)
 refine AO.mn 1 rfl ?_
 refine AC.sm 2 rfl ?_
 refine AO.op rfl (AOp.i2i rfl rfl lb rfl Tryz.underlying36 Tryz.underlying59 rfl ?_)
 refine AO.op rfl (AOp.inl [5] (by kernel_rfl) Tryz.func23 rfl Tryz.ntmps23 rfl rfl lb rfl (leb rfl) rfl ?_)
 intro fr1
 refine AC.smn 2 rfl ?_
 refine AC.adoptO 0 0 5 1 rfl rfl ?_
 obtain ⟨o2, l3, h0⟩ := bind_elim h0
 refine AC.joinE (V := (List Int)) [] [] 3 (fun g4 => []) (fun g4 => [.fix 57 [.own 2, .d (dbool a1), .d (dbool false), .d (dbool false), .d (dbool false)], .frame fr1 [(5, .ptr 0 0)], .grow 5 1 (List.map keS6 g4)]) (fun g4 => p_CountBytes_k1 g4 = some r0) rfl ?_ ?_
 ·refine AC.block ?_
  refine AC.loopP (V := (Int × (List Int))) (p_CountBytes_l2 a0 a1) o2 [0, 1, 2, 8] [9] 3 (fun g5 => [(9, .d (di .i64 g5.1))]) (fun g5 => [.fix 57 [.own 2, .d (dbool a1), .d (dbool false), .d (dbool false), .d (dbool false)], .frame fr1 [(5, .ptr 0 0)], .grow 5 1 (List.map keS6 g5.2)]) F ((0 : Int), []) l3 rfl rfl (LeL.refl _) rfl rfl ?_
  intro n7 g5 h1
  unfold p_CountBytes_l2 at h1
  refine AC.sr ?_
  refine AO.op rfl (AOp.ilss rfl rfl lb rfl rfl ?_)
  refine AO.nS ?_
  refine AC.seq ?_
  refine AC.cond rfl (fun q8 => ?_) (fun q8 => ?_)
  ·replace h1 := cT h1 q8
   refine AC.skip ?_
   change AC _ _ _ _
   refine AC.seq ?_
   refine AC.block ?_
   refine AC.smn 2 rfl ?_
   refine AC.smn 2 rfl ?_
   refine AC.joinP (V := Int) [0, 1, 2, 8, 9] [7] 3 (fun g9 => [(7, .d (di .i64 g9))]) (fun g9 => [.fix 57 [.own 2, .d (dbool a1), .d (dbool false), .d (dbool false), .d (dbool false)], .frame fr1 [(5, .ptr 0 0)], .grow 5 1 (List.map keS6 g5.2)]) (fun g9 => (p_CountBytes_k3 a0 g5 (iter (p_CountBytes_l2 a0 a1) n7)) g9 = some o2) rfl ?_ ?_
   ·refine AC.sm 1 rfl ?_
    refine AO.op rfl (AOp.nilCheck rfl rfl lb rfl rfl ?_)
    refine AO.op rfl (AOp.fieldAddr rfl rfl lb rfl fo57_1 ?_)
    refine AO.op rfl (AOp.load1 rfl rfl lb rfl agg4 rfl rfl ?_)
    refine AO.nS ?_
    refine AC.cond rfl (fun q14 => ?_) (fun q14 => ?_)
    ·replace h1 := cT h1 q14
     refine AC.region ?_
     refine AO.mv 1 rfl ?_
     obtain ⟨q15, h1⟩ := need_elim h1
     refine AO.op rfl (AOp.isub rfl rfl lb rfl rfl rfl q15.1 q15.2 ?_)
     refine AO.mv 1 rfl ?_
     obtain ⟨q16, h1⟩ := need_elim h1
     refine AO.op rfl (AOp.isub rfl rfl lb rfl rfl rfl q16.1 q16.2 ?_)
     refine AO.mv 1 rfl ?_
     refine AO.nil ?_
     exact ⟨(((4 : Int) - (1 : Int)) - g5.1), _, rfl, (LeL.refl _), rfl, rfl, h1⟩
    replace h1 := cF h1 q14
    refine AC.skip ?_
    exact ⟨g5.1, _, rfl, (LeL.refl _), rfl, rfl, h1⟩
   intro g9 h1
   unfold p_CountBytes_k3 at h1
   obtain ⟨q10, h1⟩ := need_elim h1
   obtain ⟨q11, h1⟩ := need_elim h1
   obtain ⟨q12, h1⟩ := need_elim h1
   refine AC.drawS [0, 1, 2, 3, 4, 5, 6, 7, 8, 9, 10, 11] [11] [12, 13, 14] (fun L => [.fix 57 [(bif L 11 then .any else .own 2), .d (dbool a1), .d (dbool false), .d (dbool false), .d (dbool false)], .frame fr1 [(5, .ptr 0 0)], bif L 11 then .grow 5 1 (List.map keS6 (g5.2 ++ [(IntKind.u8.wrap ((IntKind.u64.wrap a0) / 2 ^ (((8 : Int) * g9)).toNat))])) else .grow 5 1 (List.map keS6 g5.2)]) [(11, SV.noO 2)] mixed (by kernel_rfl) (fun L L' h => by simp only [h 11 (by decide), h 11 (by decide)]) rfl ?_
   refine AS.op [0] [] [] [11] rfl rfl rfl (by kernel_rfl) (by kernel_rfl) rfl rfl (fun _ _ _ h => AOp.move rfl rfl lb rfl h) (by kernel_rfl) ?_
   refine AS.op [0] [] [11] [] rfl rfl rfl (by kernel_rfl) (by kernel_rfl) rfl rfl (fun _ _ _ h => AOp.move rfl rfl lb rfl h) (by kernel_rfl) ?_
   refine AS.op [22] [] [11] [] rfl rfl rfl (by kernel_rfl) (by kernel_rfl) rfl rfl (fun _ _ _ h => AOp.nilCheck rfl rfl lb rfl rfl h) (by kernel_rfl) ?_
   refine AS.op [23] [] [11] [] rfl rfl rfl (by kernel_rfl) (by kernel_rfl) rfl rfl (fun _ _ _ h => AOp.fieldAddr rfl rfl lb rfl fo57_0 h) (by kernel_rfl) ?_
   refine AS.op [24] [] [11] [] rfl rfl rfl (by kernel_rfl) (by kernel_rfl) rfl rfl (fun _ _ _ h => AOp.load1 rfl rfl lb rfl agg30 rfl rfl h) (by kernel_rfl) ?_
   refine AS.op [1] [] [11] [] rfl rfl rfl (by kernel_rfl) (by kernel_rfl) rfl rfl (fun _ _ _ h => AOp.move rfl rfl lb rfl h) (by kernel_rfl) ?_
   refine AS.op [7] [] [11] [] rfl rfl rfl (by kernel_rfl) (by kernel_rfl) rfl rfl (fun _ _ _ h => AOp.move rfl rfl lb rfl h) (by kernel_rfl) ?_
   refine AS.op [27] [] [11] [] rfl rfl rfl (by kernel_rfl) (by kernel_rfl) rfl rfl (fun _ _ _ h => AOp.imul rfl rfl lb rfl rfl rfl q10.1 q10.2 h) (by kernel_rfl) ?_
   refine AS.op [26, 28] [] [11] [] rfl rfl rfl (by kernel_rfl) (by kernel_rfl) rfl rfl (fun _ _ _ h => AOp.ishr' rfl rfl lb rfl rfl q11.1 q11.2 h) (by kernel_rfl) ?_
   refine AS.op [29] [] [11] [] rfl rfl rfl (by kernel_rfl) (by kernel_rfl) rfl rfl (fun _ _ _ h => AOp.i2i rfl rfl lb rfl Tryz.underlying59 Tryz.underlying5 rfl h) (by kernel_rfl) ?_
   refine AS.op [30] [] [11] [] rfl rfl rfl (by kernel_rfl) (by kernel_rfl) rfl rfl (fun _ _ _ h => AOp.buildSliceD rfl rfl lb el30 zero5 rfl (leb rfl) rfl rfl rfl rfl h) (by kernel_rfl) ?_
   refine AS.mid [25, 31] [] [11] [] rfl rfl rfl rfl (by kernel_rfl) (by kernel_rfl) rfl rfl (fun _ _ _ h => AOp.subO 0 rfl (.cons (SVLe.any _) (.cons (SVLe.refl _) (.cons (SVLe.refl _) (.cons (SVLe.refl _) (.cons (SVLe.refl _) .nil))))) (AOp.appendOwn' (p := 2) (n := g5.2.length) (m := [(IntKind.u8.wrap ((IntKind.u64.wrap a0) / 2 ^ (((8 : Int) * g9)).toNat))].length) (news := (List.map keS6 [(IntKind.u8.wrap ((IntKind.u64.wrap a0) / 2 ^ (((8 : Int) * g9)).toNat))])) rfl rfl lb rfl rfl el30 info5 rfl (by decide) rfl (len1 _ _) (len1 _ _) (one1 _ (fun _ => rfl) _) q12 (by decide) (allNo (.cons rfl (.cons rfl (.cons rfl .nil)))) rfl (cat1 _ _ _) (AO.dropped h))) (by kernel_rfl) rfl ?_
   refine AS.done ?_
   refine AO.objs (obs' := [.fix 57 [.any, .d (dbool a1), .d (dbool false), .d (dbool false), .d (dbool false)], .frame fr1 [(5, .ptr 0 0)], .grow 5 1 (List.map keS6 (g5.2 ++ [(IntKind.u8.wrap ((IntKind.u64.wrap a0) / 2 ^ (((8 : Int) * g9)).toNat))]))]) rfl ?_
   refine AO.op rfl (AOp.nilCheck rfl rfl lb rfl rfl ?_)
   refine AO.op rfl (AOp.fieldAddr rfl rfl lb rfl fo57_0 ?_)
   refine AO.op rfl (AOp.storeOwn rfl rfl rfl rfl rfl rfl size30 rfl rfl (leb rfl) ?_)
   refine AO.nil (?_ : AC _ _ _ _)
   refine AC.region ?_
   obtain ⟨q13, h1⟩ := need_elim h1
   refine AO.op rfl (AOp.iadd rfl rfl lb rfl rfl rfl q13.1 q13.2 ?_)
   refine AO.mv 1 rfl ?_
   refine AO.nil ?_
   exact ⟨((g5.1 + (1 : Int)), (g5.2 ++ [(IntKind.u8.wrap ((IntKind.u64.wrap a0) / 2 ^ (((8 : Int) * g9)).toNat))])), _, rfl, (LeL.refl _), rfl, rfl, h1⟩
  replace h1 := cF h1 q8
  refine AC.exit ?_
  obtain rfl := Option.some.inj h1
  exact ⟨g5.2, _, rfl, (LeL.refl _), rfl, rfl, aftL h0⟩
 intro g4 h0
 unfold p_CountBytes_k1 at h0
 refine inlend (ob' := [.fix 57 [.own 2, .d (dbool a1), .d (dbool false), .d (dbool false), .d (dbool false)], .dead, .grow 5 1 (List.map keS6 g4)]) (e' := [(5, .ptr 0 0)]) (r := .tu []) rfl rfl rfl ?_
 change AO _ _ _ _ _
 refine AO.nS ?_
 refine AC.sm 1 rfl ?_
 refine AO.op rfl (AOp.nilCheck rfl rfl lb rfl rfl ?_)
 refine AO.op rfl (AOp.fieldAddr rfl rfl lb rfl fo57_0 ?_)
 refine AO.op rfl (AOp.load1 rfl rfl lb rfl agg30 rfl rfl ?_)
 refine AO.mn 1 rfl ?_
 refine AC.ret ?_
 change RetQ _ _ _ .ret _
 obtain rfl := Option.some.inj h0
 refine retq rfl rfl

set_option maxRecDepth 100000 in
set_option maxHeartbeats 4000000 in
theorem w_FnEWKBParts (F : Nat) (a0 : TImpl_Geom) (a1 : Bool) (a2 : Int) (r0 : Bool) (h0 : p_FnEWKBParts F a0 a1 a2 = some r0) : FnD Tryz.prog 3 [e_TImpl_Geom a0, dbool a1, di .i64 a2] (fun r => r = dbool r0) := by
 refine FnD.of (by kernel_rfl) Tryz.func3 rfl Tryz.ntmps3 rfl (leb rfl) fun W ok => ?_
 unfold p_FnEWKBParts at h0
 refine AC.sr ?_
 refine AO.op rfl (AOp.box rfl rfl lb rfl rfl ?_)
 refine AO.mn 1 rfl ?_
 refine AC.seq ?_
 refine AC.sr ?_
 refine AO.op rfl (AOp.loadN rfl rfl lb rfl agg27 size27 rfl (leb rfl) rfl ?_)
 obtain ⟨y1, q2, h0⟩ := bind_elim h0
 refine AO.op rfl (AOp.callD rfl rfl lb rfl rfl (w_zzFits2 F a0 y1 q2) ?_)
 rintro _ rfl
 refine AO.op rfl (AOp.bnot rfl rfl lb rfl ?_)
 refine AO.nS ?_
 refine AC.cond rfl (fun q3 => ?_) (fun q3 => ?_)
 ·replace h0 := cT h0 q3
  refine AC.smn 1 rfl ?_
  refine AC.ret ?_
  change RetQ _ _ _ .ret _
  obtain rfl := Option.some.inj h0
  refine retq rfl rfl
 replace h0 := cF h0 q3
 refine AC.skip ?_
 change AC _ _ _ _
 refine AC.seq ?_
 refine AC.joinP (V := Bool) [1, 2, 3] [36] 1 (fun g4 => [(36, .d (dbool g4))]) (fun g4 => [.fix 27 [.d (di .i64 a0.Kind), .d (di .i64 a0.Layout), .d (di .i64 a0.SRID), .d (eS1 a0.Flat), .d (eS2 a0.Ends), .d (eS3 a0.Endss), .d (eS0 a0.Kids)]]) (fun g4 => (p_FnEWKBParts_k1 a0 a1 a2 F) g4 = some r0) rfl ?_ ?_
 ·refine AC.region ?_
  refine AO.op rfl (AOp.loadN rfl rfl lb rfl agg27 size27 rfl (leb rfl) rfl ?_)
  obtain ⟨y66, q67, h0⟩ := bind_elim h0
  refine AO.op rfl (AOp.callD rfl rfl lb rfl rfl (w_yWritten F a0 y66 q67) ?_)
  rintro _ rfl
  refine AO.op rfl (AOp.bnot rfl rfl lb rfl ?_)
  refine AO.mv 1 rfl ?_
  refine AO.dec (!y66) (fun q68 => ?_) (fun q68 => ?_)
  ·replace h0 := cT h0 q68
   refine AO.guardN rfl rfl rfl lb rfl q68 ?_
   refine AO.guardN rfl rfl rfl lb rfl q68 ?_
   refine AO.guardN rfl rfl rfl lb rfl q68 ?_
   refine AO.op rfl (AOp.pick rfl rfl lb rfl q68 rfl ?_)
   refine AO.mv 1 rfl ?_
   refine AO.guardN rfl rfl rfl lb rfl rfl ?_
   refine AO.guardN rfl rfl rfl lb rfl rfl ?_
   refine AO.op rfl (AOp.pick rfl rfl lb rfl rfl rfl ?_)
   refine AO.mv 1 rfl ?_
   refine AO.guardN rfl rfl rfl lb rfl rfl ?_
   refine AO.guardN rfl rfl rfl lb rfl rfl ?_
   refine AO.op rfl (AOp.pick rfl rfl lb rfl rfl rfl ?_)
   refine AO.nil ?_
   exact ⟨true, _, rfl, (LeL.refl _), rfl, rfl, h0⟩
  replace h0 := cF h0 q68
  refine AO.guardY rfl rfl rfl q68 (AOp.fieldAddr rfl rfl lb rfl fo27_0 ?_)
  refine AO.guardY rfl rfl rfl q68 (AOp.load1 rfl rfl lb rfl agg3 rfl rfl ?_)
  refine AO.guardY rfl rfl rfl q68 (AOp.ilss rfl rfl lb rfl rfl ?_)
  refine AO.op rfl (AOp.pickN rfl rfl lb rfl q68 rfl ?_)
  refine AO.mv 1 rfl ?_
  refine AO.dec (decide (a0.Kind < (4 : Int))) (fun q69 => ?_) (fun q69 => ?_)
  ·replace h0 := cT h0 q69
   refine AO.guardN rfl rfl rfl lb rfl q69 ?_
   refine AO.guardN rfl rfl rfl lb rfl q69 ?_
   refine AO.op rfl (AOp.pick rfl rfl lb rfl q69 rfl ?_)
   refine AO.mv 1 rfl ?_
   refine AO.guardN rfl rfl rfl lb rfl rfl ?_
   refine AO.guardN rfl rfl rfl lb rfl rfl ?_
   refine AO.op rfl (AOp.pick rfl rfl lb rfl rfl rfl ?_)
   refine AO.nil ?_
   exact ⟨true, _, rfl, (LeL.refl _), rfl, rfl, h0⟩
  replace h0 := cF h0 q69
  refine AO.guardY rfl rfl rfl q69 (AOp.move rfl rfl lb rfl ?_)
  refine AO.guardY rfl rfl rfl q69 (AOp.ilss rfl rfl lb rfl rfl ?_)
  refine AO.op rfl (AOp.pickN rfl rfl lb rfl q69 rfl ?_)
  refine AO.mv 1 rfl ?_
  refine AO.dec (decide (a2 < (1 : Int))) (fun q70 => ?_) (fun q70 => ?_)
  ·replace h0 := cT h0 q70
   refine AO.guardN rfl rfl rfl lb rfl q70 ?_
   refine AO.guardN rfl rfl rfl lb rfl q70 ?_
   refine AO.op rfl (AOp.pick rfl rfl lb rfl q70 rfl ?_)
   refine AO.nil ?_
   exact ⟨true, _, rfl, (LeL.refl _), rfl, rfl, h0⟩
  replace h0 := cF h0 q70
  refine AO.guardY rfl rfl rfl q70 (AOp.move rfl rfl lb rfl ?_)
  refine AO.guardY rfl rfl rfl q70 (AOp.igtr rfl rfl lb rfl rfl ?_)
  refine AO.op rfl (AOp.pickN rfl rfl lb rfl q70 rfl ?_)
  refine AO.nil ?_
  exact ⟨(decide ((2147483647 : Int) < a2)), _, rfl, (LeL.refl _), rfl, rfl, h0⟩
 intro g4 h0
 unfold p_FnEWKBParts_k1 at h0
 refine AC.cond rfl (fun q5 => ?_) (fun q5 => ?_)
 ·replace h0 := cT h0 q5
  refine AC.smn 1 rfl ?_
  refine AC.ret ?_
  change RetQ _ _ _ .ret _
  obtain rfl := Option.some.inj h0
  refine retq rfl rfl
 replace h0 := cF h0 q5
 refine AC.skip ?_
 change AC _ _ _ _
 refine AC.sr ?_
 refine AO.op rfl (AOp.loadN rfl rfl lb rfl agg27 size27 rfl (leb rfl) rfl ?_)
 obtain ⟨y6, q7, h0⟩ := bind_elim h0
 refine AO.op rfl (AOp.callD rfl rfl lb rfl rfl (w_yNoSRID F a0 y6 q7) ?_)
 rintro _ rfl
 refine AO.op rfl (AOp.store rfl rfl rfl rfl size27 rfl rfl rfl (leb rfl) ?_)
 refine AO.nS ?_
 refine AC.sr ?_
 refine AO.op rfl (AOp.loadN rfl rfl lb rfl agg27 size27 rfl (leb rfl) rfl ?_)
 refine AO.mv 1 rfl ?_
 obtain ⟨y8, q9, h0⟩ := bind_elim h0
 refine AO.op rfl (AOp.callD rfl rfl lb rfl rfl (w_WriteEWKB F y6 a1 y8 q9) ?_)
 rintro _ rfl
 refine AO.mn 5 rfl ?_
 refine AC.seq ?_
 refine AC.joinP (V := Bool) [1, 2, 3, 7, 8] [51] 1 (fun g10 => [(51, .d (dbool g10))]) (fun g10 => [.fix 27 [.d (di .i64 y6.Kind), .d (di .i64 y6.Layout), .d (di .i64 y6.SRID), .d (eS1 y6.Flat), .d (eS2 y6.Ends), .d (eS3 y6.Endss), .d (eS0 y6.Kids)]]) (fun g10 => (p_FnEWKBParts_k2 a1 a2 F y6 y8) g10 = some r0) rfl ?_ ?_
 ·refine AC.region ?_
  refine AO.mv 1 rfl ?_
  refine AO.op rfl (AOp.bnot rfl rfl lb rfl ?_)
  refine AO.mv 1 rfl ?_
  refine AO.dec (!y8.2) (fun q65 => ?_) (fun q65 => ?_)
  ·replace h0 := cT h0 q65
   refine AO.guardN rfl rfl rfl lb rfl q65 ?_
   refine AO.guardN rfl rfl rfl lb rfl q65 ?_
   refine AO.guardN rfl rfl rfl lb rfl q65 ?_
   refine AO.op rfl (AOp.pick rfl rfl lb rfl q65 rfl ?_)
   refine AO.nil ?_
   exact ⟨true, _, rfl, (LeL.refl _), rfl, rfl, h0⟩
  replace h0 := cF h0 q65
  refine AO.guardY rfl rfl rfl q65 (AOp.move rfl rfl lb rfl ?_)
  refine AO.guardY rfl rfl rfl q65 (AOp.lenDs (n := y8.1.length) (cells := (List.map keS6 y8.1)) rfl rfl lb rfl el30 (by decide) (len1 _ _) ?_)
  refine AO.guardY rfl rfl rfl q65 (AOp.ilss rfl rfl lb rfl rfl ?_)
  refine AO.op rfl (AOp.pickN rfl rfl lb rfl q65 rfl ?_)
  refine AO.nil ?_
  exact ⟨(decide (((y8.1.length : Nat) : Int) < (9 : Int))), _, rfl, (LeL.refl _), rfl, rfl, h0⟩
 intro g10 h0
 unfold p_FnEWKBParts_k2 at h0
 refine AC.cond rfl (fun q11 => ?_) (fun q11 => ?_)
 ·replace h0 := cT h0 q11
  refine AC.smn 1 rfl ?_
  refine AC.ret ?_
  change RetQ _ _ _ .ret _
  obtain rfl := Option.some.inj h0
  refine retq rfl rfl
 replace h0 := cF h0 q11
 refine AC.skip ?_
 change AC _ _ _ _
 refine AC.sr ?_
 refine AO.op rfl (AOp.buildOwn rfl rfl lb el30 zero5 rfl (leb rfl) rfl rfl rfl rfl ?_)
 refine AO.mv 1 rfl ?_
 obtain ⟨q12, h0⟩ := need_elim h0
 refine AO.op rfl (AOp.sliceD (cells := (List.map keS6 y8.1)) (n := y8.1.length) (l := 0) (hh := ((9 : Int)).toNat) rfl rfl lb rfl (.inl ⟨rfl, rfl⟩) (.inr ⟨_, _, _, rfl, rfl, q12.1.2, rfl⟩) el30 (by decide) (len1 _ _) q12.2.1 q12.2.2 (sub1 _ _ _ _) ?_)
 obtain ⟨q13, h0⟩ := need_elim h0
 refine AO.op rfl (AOp.appendOwn' (p := 1) (n := 0) (m := ((y8.1.drop 0).take (((9 : Int)).toNat - 0)).length) (news := (List.map keS6 ((y8.1.drop 0).take (((9 : Int)).toNat - 0)))) rfl rfl lb rfl rfl el30 info5 rfl (by decide) rfl rfl (len1 _ _) (one1 _ (fun _ => rfl) _) q13 (by decide) rfl rfl rfl ?_)
 refine AO.mn 1 rfl ?_
 refine AC.seq ?_
 refine AC.sr ?_
 refine AO.op rfl (AOp.loadN rfl rfl lb rfl agg27 size27 rfl (leb rfl) rfl ?_)
 obtain ⟨y14, q15, h0⟩ := bind_elim h0
 refine AO.op rfl (AOp.callD rfl rfl lb rfl rfl (w_Parts F y6 y14 q15) ?_)
 rintro _ rfl
 refine AO.op rfl (AOp.lenDs (n := y14.length) (cells := (List.flatMap c0_TImpl_Geom y14)) rfl rfl lb rfl el25 (by decide) (lenN _ 7 c0_TImpl_Geom_len _) ?_)
 refine AO.mn 1 rfl ?_
 obtain ⟨o16, l17, h0⟩ := bind_elim h0
 refine AC.joinE (V := (Bool × (List Int))) [1, 2, 3, 7] [8, 9] 2 (fun g18 => [(8, .d (dbool g18.1)), (9, .own 1)]) (fun g18 => [.fix 27 [.d (di .i64 y6.Kind), .d (di .i64 y6.Layout), .d (di .i64 y6.SRID), .d (eS1 y6.Flat), .d (eS2 y6.Ends), .d (eS3 y6.Endss), .d (eS0 y6.Kids)], .grow 5 1 (List.map keS6 g18.2)]) (fun g18 => (p_FnEWKBParts_k3 a1 a2 F y6 y8) g18 = some r0) rfl ?_ ?_
 ·refine AC.block ?_
  refine AC.loopP (V := (Bool × Int × (List Int))) (p_FnEWKBParts_l6 a1 F y14) o16 [1, 2, 3, 7, 57, 58] [8, 9, 59] 2 (fun g53 => [(8, .d (dbool g53.1)), (9, .own 1), (59, .d (di .i64 g53.2.1))]) (fun g53 => [.fix 27 [.d (di .i64 y6.Kind), .d (di .i64 y6.Layout), .d (di .i64 y6.SRID), .d (eS1 y6.Flat), .d (eS2 y6.Ends), .d (eS3 y6.Endss), .d (eS0 y6.Kids)], .grow 5 1 (List.map keS6 g53.2.2)]) F (y8.2, (0 : Int), ((y8.1.drop 0).take (((9 : Int)).toNat - 0))) l17 rfl rfl (LeL.refl _) rfl rfl ?_
  intro n55 g53 h1
  unfold p_FnEWKBParts_l6 at h1
  refine AC.sr ?_
  refine AO.op rfl (AOp.ilss rfl rfl lb rfl rfl ?_)
  refine AO.nS ?_
  refine AC.seq ?_
  refine AC.cond rfl (fun q56 => ?_) (fun q56 => ?_)
  ·replace h1 := cT h1 q56
   refine AC.skip ?_
   change AC _ _ _ _
   refine AC.seq ?_
   refine AC.block ?_
   refine AC.sr ?_
   obtain ⟨x57, q58, h1⟩ := idx_elim h1
   refine AO.op rfl (AOp.indexDs (cells := (List.flatMap c0_TImpl_Geom y14)) rfl rfl lb rfl rfl el25 (by decide) q58.1 (ltN 7 c0_TImpl_Geom_len (by decide) q58.2) ?_)
   refine AO.op rfl (AOp.loadEpN rfl rfl lb rfl agg27 size27 (leN 7 c0_TImpl_Geom_len q58.2) ((atN 7 c0_TImpl_Geom_len q58.2).trans (c0_TImpl_Geom_eq x57)) ?_)
   refine AO.op rfl (AOp.alloc rfl rfl lb zero27 rfl ?_)
   refine AO.op rfl (AOp.store rfl rfl rfl rfl size27 rfl rfl rfl (leb rfl) ?_)
   refine AO.nS ?_
   refine AC.sr ?_
   refine AO.op rfl (AOp.loadN rfl rfl lb rfl agg27 size27 rfl (leb rfl) rfl ?_)
   refine AO.mv 1 rfl ?_
   obtain ⟨y59, q60, h1⟩ := bind_elim h1
   refine AO.op rfl (AOp.callD rfl rfl lb rfl rfl (w_WriteEWKB F x57 a1 y59 q60) ?_)
   rintro _ rfl
   refine AO.mn 5 rfl ?_
   refine AC.region ?_
   refine AO.mv 2 rfl ?_
   obtain ⟨q61, h1⟩ := need_elim h1
   refine AO.op rfl (AOp.appendOwn' (p := 1) (n := g53.2.2.length) (m := y59.1.length) (news := (List.map keS6 y59.1)) rfl rfl lb rfl rfl el30 info5 rfl (by decide) rfl (len1 _ _) (len1 _ _) (one1 _ (fun _ => rfl) _) q61 (by decide) rfl rfl (cat1 _ _ _) ?_)
   refine AO.mv 2 rfl ?_
   refine AO.dec g53.1 (fun q62 => ?_) (fun q62 => ?_)
   ·replace h1 := cT h1 q62
    refine AO.guardY rfl rfl rfl q62 (AOp.move rfl rfl lb rfl ?_)
    refine AO.op rfl (AOp.pick rfl rfl lb rfl q62 rfl ?_)
    refine AO.mv 2 rfl ?_
    refine AO.nil (?_ : AC _ _ _ _)
    refine AC.region ?_
    obtain ⟨q63, h1⟩ := need_elim h1
    refine AO.op rfl (AOp.iadd rfl rfl lb rfl rfl rfl q63.1 q63.2 ?_)
    refine AO.mv 1 rfl ?_
    refine AO.nil ?_
    exact ⟨(y59.2, (g53.2.1 + (1 : Int)), (g53.2.2 ++ y59.1)), _, rfl, (LeL.refl _), rfl, rfl, h1⟩
   replace h1 := cF h1 q62
   refine AO.guardN rfl rfl rfl lb rfl q62 ?_
   refine AO.op rfl (AOp.pickN rfl rfl lb rfl q62 rfl ?_)
   refine AO.mv 2 rfl ?_
   refine AO.nil (?_ : AC _ _ _ _)
   refine AC.region ?_
   obtain ⟨q64, h1⟩ := need_elim h1
   refine AO.op rfl (AOp.iadd rfl rfl lb rfl rfl rfl q64.1 q64.2 ?_)
   refine AO.mv 1 rfl ?_
   refine AO.nil ?_
   exact ⟨(false, (g53.2.1 + (1 : Int)), (g53.2.2 ++ y59.1)), _, rfl, (LeL.refl _), rfl, rfl, h1⟩
  replace h1 := cF h1 q56
  refine AC.exit ?_
  obtain rfl := Option.some.inj h1
  exact ⟨(g53.1, g53.2.2), _, rfl, (LeL.refl _), rfl, rfl, aftL h0⟩
 intro g18 h0
 unfold p_FnEWKBParts_k3 at h0
 change AC _ _ _ _
 refine AC.sm 1 rfl ?_
 refine AO.op rfl (AOp.fieldAddr rfl rfl lb rfl fo27_2 ?_)
 refine AO.op rfl (AOp.store rfl rfl rfl rfl size3 rfl rfl rfl (leb rfl) ?_)
 refine AO.nS ?_
 refine AC.sr ?_
 refine AO.op rfl (AOp.loadN rfl rfl lb rfl agg27 size27 rfl (leb rfl) rfl ?_)
 refine AO.mv 1 rfl ?_
 obtain ⟨y19, q20, h0⟩ := bind_elim h0
 refine AO.op rfl (AOp.callD rfl rfl lb rfl rfl (w_WriteEWKB F (TImpl_Geom.mk y6.Kind y6.Layout a2 y6.Flat y6.Ends y6.Endss y6.Kids) a1 y19 q20) ?_)
 rintro _ rfl
 refine AO.mn 5 rfl ?_
 refine AC.seq ?_
 refine AC.freezeG 1 rfl rfl rfl ?_
 refine AC.joinP (V := Bool) [1, 2, 7, 14] [104] 2 (fun g21 => [(104, .d (dbool g21))]) (fun g21 => [.fix 27 [.d (di .i64 y6.Kind), .d (di .i64 y6.Layout), .d (di .i64 a2), .d (eS1 y6.Flat), .d (eS2 y6.Ends), .d (eS3 y6.Endss), .d (eS0 y6.Kids)], .dead]) (fun g21 => (p_FnEWKBParts_k4 a1 a2 F y8 y19) g21 = some r0) rfl ?_ ?_
 ·refine AC.region ?_
  refine AO.mv 1 rfl ?_
  refine AO.op rfl (AOp.bnot rfl rfl lb rfl ?_)
  refine AO.mv 1 rfl ?_
  refine AO.dec (!g18.1) (fun q47 => ?_) (fun q47 => ?_)
  ·replace h0 := cT h0 q47
   refine AO.guardN rfl rfl rfl lb rfl q47 ?_
   refine AO.guardN rfl rfl rfl lb rfl q47 ?_
   refine AO.op rfl (AOp.pick rfl rfl lb rfl q47 rfl ?_)
   refine AO.mv 1 rfl ?_
   refine AO.guardN rfl rfl rfl lb rfl rfl ?_
   refine AO.guardN rfl rfl rfl lb rfl rfl ?_
   refine AO.guardN rfl rfl rfl lb rfl rfl ?_
   refine AO.guardN rfl rfl rfl lb rfl rfl ?_
   refine AO.op rfl (AOp.pick rfl rfl lb rfl rfl rfl ?_)
   refine AO.mv 1 rfl ?_
   refine AO.guardN rfl rfl rfl lb rfl rfl ?_
   refine AO.guardN rfl rfl rfl lb rfl rfl ?_
   refine AO.guardN rfl rfl rfl lb rfl rfl ?_
   refine AO.guardN rfl rfl rfl lb rfl rfl ?_
   refine AO.guardN rfl rfl rfl lb rfl rfl ?_
   refine AO.guardN rfl rfl rfl lb rfl rfl ?_
   refine AO.op rfl (AOp.pick rfl rfl lb rfl rfl rfl ?_)
   refine AO.nil ?_
   exact ⟨true, _, rfl, (LeL.refl _), rfl, rfl, h0⟩
  replace h0 := cF h0 q47
  refine AO.guardY rfl rfl rfl q47 (AOp.move rfl rfl lb rfl ?_)
  refine AO.guardY rfl rfl rfl q47 (AOp.bnot rfl rfl lb rfl ?_)
  refine AO.op rfl (AOp.pickN rfl rfl lb rfl q47 rfl ?_)
  refine AO.mv 1 rfl ?_
  refine AO.dec (!y19.2) (fun q48 => ?_) (fun q48 => ?_)
  ·replace h0 := cT h0 q48
   refine AO.guardN rfl rfl rfl lb rfl q48 ?_
   refine AO.guardN rfl rfl rfl lb rfl q48 ?_
   refine AO.guardN rfl rfl rfl lb rfl q48 ?_
   refine AO.guardN rfl rfl rfl lb rfl q48 ?_
   refine AO.op rfl (AOp.pick rfl rfl lb rfl q48 rfl ?_)
   refine AO.mv 1 rfl ?_
   refine AO.guardN rfl rfl rfl lb rfl rfl ?_
   refine AO.guardN rfl rfl rfl lb rfl rfl ?_
   refine AO.guardN rfl rfl rfl lb rfl rfl ?_
   refine AO.guardN rfl rfl rfl lb rfl rfl ?_
   refine AO.guardN rfl rfl rfl lb rfl rfl ?_
   refine AO.guardN rfl rfl rfl lb rfl rfl ?_
   refine AO.op rfl (AOp.pick rfl rfl lb rfl rfl rfl ?_)
   refine AO.nil ?_
   exact ⟨true, _, rfl, (LeL.refl _), rfl, rfl, h0⟩
  replace h0 := cF h0 q48
  refine AO.guardY rfl rfl rfl q48 (AOp.move rfl rfl lb rfl ?_)
  refine AO.guardY rfl rfl rfl q48 (AOp.move rfl rfl lb rfl ?_)
  obtain ⟨y49, q50, h0⟩ := bind_elim h0
  refine AO.guardY rfl rfl rfl q48 (AOp.callD rfl rfl lb rfl rfl (w_ySame y8.1 g18.2 y49 q50) ?_)
  rintro _ rfl
  refine AO.guardY rfl rfl rfl q48 (AOp.bnot rfl rfl lb rfl ?_)
  refine AO.op rfl (AOp.pickN rfl rfl lb rfl q48 rfl ?_)
  refine AO.mv 1 rfl ?_
  refine AO.dec (!y49) (fun q51 => ?_) (fun q51 => ?_)
  ·replace h0 := cT h0 q51
   refine AO.guardN rfl rfl rfl lb rfl q51 ?_
   refine AO.guardN rfl rfl rfl lb rfl q51 ?_
   refine AO.guardN rfl rfl rfl lb rfl q51 ?_
   refine AO.guardN rfl rfl rfl lb rfl q51 ?_
   refine AO.guardN rfl rfl rfl lb rfl q51 ?_
   refine AO.guardN rfl rfl rfl lb rfl q51 ?_
   refine AO.op rfl (AOp.pick rfl rfl lb rfl q51 rfl ?_)
   refine AO.nil ?_
   exact ⟨true, _, rfl, (LeL.refl _), rfl, rfl, h0⟩
  replace h0 := cF h0 q51
  refine AO.guardY rfl rfl rfl q51 (AOp.move rfl rfl lb rfl ?_)
  refine AO.guardY rfl rfl rfl q51 (AOp.lenDs (n := y19.1.length) (cells := (List.map keS6 y19.1)) rfl rfl lb rfl el30 (by decide) (len1 _ _) ?_)
  refine AO.guardY rfl rfl rfl q51 (AOp.move rfl rfl lb rfl ?_)
  refine AO.guardY rfl rfl rfl q51 (AOp.lenDs (n := y8.1.length) (cells := (List.map keS6 y8.1)) rfl rfl lb rfl el30 (by decide) (len1 _ _) ?_)
  obtain ⟨q52, h0⟩ := need_elim h0
  refine AO.guardY rfl rfl rfl q51 (AOp.iadd rfl rfl lb rfl rfl rfl q52.1 q52.2 ?_)
  refine AO.guardY rfl rfl rfl q51 (AOp.ineq rfl rfl lb rfl rfl ?_)
  refine AO.op rfl (AOp.pickN rfl rfl lb rfl q51 rfl ?_)
  refine AO.nil ?_
  exact ⟨(!decide (((y19.1.length : Nat) : Int) = (((y8.1.length : Nat) : Int) + (4 : Int)))), _, rfl, (LeL.refl _), rfl, rfl, h0⟩
 intro g21 h0
 unfold p_FnEWKBParts_k4 at h0
 refine AC.cond rfl (fun q22 => ?_) (fun q22 => ?_)
 ·replace h0 := cT h0 q22
  refine AC.smn 1 rfl ?_
  refine AC.ret ?_
  change RetQ _ _ _ .ret _
  obtain rfl := Option.some.inj h0
  refine retq rfl rfl
 replace h0 := cF h0 q22
 refine AC.skip ?_
 change AC _ _ _ _
 refine AC.smn 1 rfl ?_
 refine AC.joinP (V := Int) [1, 2, 7, 14] [16] 2 (fun g23 => [(16, .d (di .i64 g23))]) (fun g23 => [.fix 27 [.d (di .i64 y6.Kind), .d (di .i64 y6.Layout), .d (di .i64 a2), .d (eS1 y6.Flat), .d (eS2 y6.Ends), .d (eS3 y6.Endss), .d (eS0 y6.Kids)], .dead]) (fun g23 => (p_FnEWKBParts_k5 a1 a2 F y8 y19) g23 = some r0) rfl ?_ ?_
 ·refine AC.smn 1 rfl ?_
  refine AC.cond rfl (fun q46 => ?_) (fun q46 => ?_)
  ·replace h0 := cT h0 q46
   refine AC.region ?_
   refine AO.mv 1 rfl ?_
   refine AO.nil ?_
   exact ⟨(1 : Int), _, rfl, (LeL.refl _), rfl, rfl, h0⟩
  replace h0 := cF h0 q46
  refine AC.skip ?_
  exact ⟨(4 : Int), _, rfl, (LeL.refl _), rfl, rfl, h0⟩
 intro g23 h0
 unfold p_FnEWKBParts_k5 at h0
 refine AC.sr ?_
 refine AO.op rfl (AOp.buildOwn rfl rfl lb el30 zero5 rfl (leb rfl) rfl rfl rfl rfl ?_)
 refine AO.mv 1 rfl ?_
 obtain ⟨q24, h0⟩ := need_elim h0
 refine AO.op rfl (AOp.sliceD (cells := (List.map keS6 y8.1)) (n := y8.1.length) (l := 0) (hh := ((5 : Int)).toNat) rfl rfl lb rfl (.inl ⟨rfl, rfl⟩) (.inr ⟨_, _, _, rfl, rfl, q24.1.2, rfl⟩) el30 (by decide) (len1 _ _) q24.2.1 q24.2.2 (sub1 _ _ _ _) ?_)
 obtain ⟨q25, h0⟩ := need_elim h0
 refine AO.op rfl (AOp.appendOwn' (p := 2) (n := 0) (m := ((y8.1.drop 0).take (((5 : Int)).toNat - 0)).length) (news := (List.map keS6 ((y8.1.drop 0).take (((5 : Int)).toNat - 0)))) rfl rfl lb rfl rfl el30 info5 rfl (by decide) rfl rfl (len1 _ _) (one1 _ (fun _ => rfl) _) q25 (by decide) rfl rfl rfl ?_)
 refine AO.mn 1 rfl ?_
 refine AC.sm 2 rfl ?_
 obtain ⟨q26, h0⟩ := need_elim h0
 refine AO.op rfl (AOp.indexOwn (cells := (List.map keS6 ((y8.1.drop 0).take (((5 : Int)).toNat - 0)))) (n := ((y8.1.drop 0).take (((5 : Int)).toNat - 0)).length) rfl rfl lb rfl rfl el30 rfl (by decide) (len1 _ _) q26.1 q26.2 ?_)
 obtain ⟨x27, q28, h0⟩ := idx_elim h0
 refine AO.op rfl (AOp.loadO1 rfl rfl lb rfl agg5 rfl (at1 q28.2) ?_)
 obtain ⟨q29, h0⟩ := need_elim h0
 refine AO.op rfl (AOp.iadd rfl rfl lb rfl rfl rfl q29.1 q29.2 ?_)
 obtain ⟨q30, h0⟩ := need_elim h0
 refine AO.op rfl (AOp.indexOwn (cells := (List.map keS6 ((y8.1.drop 0).take (((5 : Int)).toNat - 0)))) (n := ((y8.1.drop 0).take (((5 : Int)).toNat - 0)).length) rfl rfl lb rfl rfl el30 rfl (by decide) (len1 _ _) q30.1 q30.2 ?_)
 obtain ⟨q31, h0⟩ := need_elim h0
 refine AO.op rfl (AOp.storeOL (f := keS6) (l := ((y8.1.drop 0).take (((5 : Int)).toNat - 0))) (i := (g23).toNat) (v := (x27 + (32 : Int))) rfl rfl rfl rfl size5 rfl rfl rfl q31 ?_)
 refine AO.nS ?_
 refine AC.seq ?_
 refine AC.freezeG 2 rfl rfl rfl ?_
 refine AC.draw 21 mixed (by kernel_rfl) ?_
 refine AD.op [14] rfl (by kernel_rfl) rfl rfl (fun _ _ h => AOp.move rfl rfl lb rfl h) ?_
 obtain ⟨q32, h0⟩ := need_elim h0
 refine AD.op [116] rfl (by kernel_rfl) rfl rfl (fun _ _ h => AOp.sliceD (cells := (List.map keS6 y19.1)) (n := y19.1.length) (l := 0) (hh := ((5 : Int)).toNat) rfl rfl lb rfl (.inl ⟨rfl, rfl⟩) (.inr ⟨_, _, _, rfl, rfl, q32.1.2, rfl⟩) el30 (by decide) (len1 _ _) q32.2.1 q32.2.2 (sub1 _ _ _ _) h) ?_
 refine AD.op [17] rfl (by kernel_rfl) rfl rfl (fun _ _ h => AOp.move rfl rfl lb rfl h) ?_
 obtain ⟨y33, q34, h0⟩ := bind_elim h0
 refine AD.op [117, 118] rfl (by kernel_rfl) rfl rfl (fun _ _ h => AOp.callD rfl rfl lb rfl rfl (w_ySame ((y19.1.drop 0).take (((5 : Int)).toNat - 0)) (((y8.1.drop 0).take (((5 : Int)).toNat - 0)).set (g23).toNat (x27 + (32 : Int))) y33 q34) (by rintro _ rfl; exact h)) ?_
 refine AD.op [119] rfl (by kernel_rfl) rfl rfl (fun _ _ h => AOp.move rfl rfl lb rfl h) ?_
 refine AD.dec y33 (fun q35 => ?_) (fun q35 => ?_)
 ·replace h0 := cT h0 q35
  refine AD.opY [14, 120] rfl rfl rfl q35 (by kernel_rfl) rfl rfl (fun _ _ h => AOp.move rfl rfl lb rfl h) ?_
  obtain ⟨q36, h0⟩ := need_elim h0
  refine AD.opY [120, 121] rfl rfl rfl q35 (by kernel_rfl) rfl rfl (fun _ _ h => AOp.sliceD (cells := (List.map keS6 y19.1)) (n := y19.1.length) (l := ((5 : Int)).toNat) (hh := ((9 : Int)).toNat) rfl rfl lb rfl (.inr ⟨_, _, _, rfl, rfl, q36.1.1, rfl⟩) (.inr ⟨_, _, _, rfl, rfl, q36.1.2, rfl⟩) el30 (by decide) (len1 _ _) q36.2.1 q36.2.2 (sub1 _ _ _ _) h) ?_
  refine AD.opY [2, 120] rfl rfl rfl q35 (by kernel_rfl) rfl rfl (fun _ _ h => AOp.move rfl rfl lb rfl h) ?_
  refine AD.opY [120, 123] rfl rfl rfl q35 (by kernel_rfl) rfl rfl (fun _ _ h => AOp.i2i rfl rfl lb rfl Tryz.underlying3 Tryz.underlying36 rfl h) ?_
  refine AD.opY [1, 120] rfl rfl rfl q35 (by kernel_rfl) rfl rfl (fun _ _ h => AOp.move rfl rfl lb rfl h) ?_
  obtain ⟨y37, q38, h0⟩ := bind_elim h0
  refine AD.opY [120, 124, 125] rfl rfl rfl q35 (by kernel_rfl) rfl rfl (fun _ _ h => AOp.callD rfl rfl lb rfl rfl (w_CountBytes F (IntKind.u32.wrap a2) a1 y37 q38) (by rintro _ rfl; exact h)) ?_
  obtain ⟨y39, q40, h0⟩ := bind_elim h0
  refine AD.opY [120, 122, 126] rfl rfl rfl q35 (by kernel_rfl) rfl rfl (fun _ _ h => AOp.callD rfl rfl lb rfl rfl (w_ySame ((y19.1.drop ((5 : Int)).toNat).take (((9 : Int)).toNat - ((5 : Int)).toNat)) y37 y39 q40) (by rintro _ rfl; exact h)) ?_
  refine AD.op [120, 127] rfl (by kernel_rfl) rfl rfl (fun _ _ h => AOp.pick rfl rfl lb rfl q35 rfl h) ?_
  refine AD.op [128] rfl (by kernel_rfl) rfl rfl (fun _ _ h => AOp.move rfl rfl lb rfl h) ?_
  refine AD.dec y39 (fun q41 => ?_) (fun q41 => ?_)
  ·replace h0 := cT h0 q41
   refine AD.opY [14, 129] rfl rfl rfl q41 (by kernel_rfl) rfl rfl (fun _ _ h => AOp.move rfl rfl lb rfl h) ?_
   obtain ⟨q42, h0⟩ := need_elim h0
   refine AD.opY [129, 130] rfl rfl rfl q41 (by kernel_rfl) rfl rfl (fun _ _ h => AOp.sliceD (cells := (List.map keS6 y19.1)) (n := y19.1.length) (l := ((9 : Int)).toNat) (hh := y19.1.length) rfl rfl lb rfl (.inr ⟨_, _, _, rfl, rfl, q42.1.1, rfl⟩) (.inl ⟨rfl, rfl⟩) el30 (by decide) (len1 _ _) q42.2.1 q42.2.2 (sub1 _ _ _ _) h) ?_
   refine AD.opY [7, 129] rfl rfl rfl q41 (by kernel_rfl) rfl rfl (fun _ _ h => AOp.move rfl rfl lb rfl h) ?_
   obtain ⟨q43, h0⟩ := need_elim h0
   refine AD.opY [129, 132] rfl rfl rfl q41 (by kernel_rfl) rfl rfl (fun _ _ h => AOp.sliceD (cells := (List.map keS6 y8.1)) (n := y8.1.length) (l := ((5 : Int)).toNat) (hh := y8.1.length) rfl rfl lb rfl (.inr ⟨_, _, _, rfl, rfl, q43.1.1, rfl⟩) (.inl ⟨rfl, rfl⟩) el30 (by decide) (len1 _ _) q43.2.1 q43.2.2 (sub1 _ _ _ _) h) ?_
   obtain ⟨y44, q45, h0⟩ := bind_elim h0
   refine AD.opY [129, 131, 133] rfl rfl rfl q41 (by kernel_rfl) rfl rfl (fun _ _ h => AOp.callD rfl rfl lb rfl rfl (w_ySame ((y19.1.drop ((9 : Int)).toNat).take (y19.1.length - ((9 : Int)).toNat)) ((y8.1.drop ((5 : Int)).toNat).take (y8.1.length - ((5 : Int)).toNat)) y44 q45) (by rintro _ rfl; exact h)) ?_
   refine AD.op [129, 134] rfl (by kernel_rfl) rfl rfl (fun _ _ h => AOp.pick rfl rfl lb rfl q41 rfl h) ?_
   refine AD.op [135] rfl (by kernel_rfl) rfl rfl (fun _ _ h => AOp.assign rfl rfl lb rfl h) ?_
   refine AD.done ?_
   refine AO.nil (?_ : AC _ _ _ _)
   refine AC.ret ?_
   change RetQ _ _ _ .ret _
   obtain rfl := Option.some.inj h0
   refine retq rfl rfl
  replace h0 := cF h0 q41
  refine AD.opN rfl rfl rfl lb rfl q41 ?_
  refine AD.opN rfl rfl rfl lb rfl q41 ?_
  refine AD.opN rfl rfl rfl lb rfl q41 ?_
  refine AD.opN rfl rfl rfl lb rfl q41 ?_
  refine AD.opN rfl rfl rfl lb rfl q41 ?_
  refine AD.op [129, 134] rfl (by kernel_rfl) rfl rfl (fun _ _ h => AOp.pickN rfl rfl lb rfl q41 rfl h) ?_
  refine AD.op [135] rfl (by kernel_rfl) rfl rfl (fun _ _ h => AOp.assign rfl rfl lb rfl h) ?_
  refine AD.done ?_
  refine AO.nil (?_ : AC _ _ _ _)
  refine AC.ret ?_
  change RetQ _ _ _ .ret _
  obtain rfl := Option.some.inj h0
  refine retq rfl rfl
 replace h0 := cF h0 q35
 refine AD.opN rfl rfl rfl lb rfl q35 ?_
 refine AD.opN rfl rfl rfl lb rfl q35 ?_
 refine AD.opN rfl rfl rfl lb rfl q35 ?_
 refine AD.opN rfl rfl rfl lb rfl q35 ?_
 refine AD.opN rfl rfl rfl lb rfl q35 ?_
 refine AD.opN rfl rfl rfl lb rfl q35 ?_
 refine AD.opN rfl rfl rfl lb rfl q35 ?_
 refine AD.op [120, 127] rfl (by kernel_rfl) rfl rfl (fun _ _ h => AOp.pickN rfl rfl lb rfl q35 rfl h) ?_
 refine AD.op [128] rfl (by kernel_rfl) rfl rfl (fun _ _ h => AOp.move rfl rfl lb rfl h) ?_
 refine AD.opN rfl rfl rfl lb rfl rfl ?_
 refine AD.opN rfl rfl rfl lb rfl rfl ?_
 refine AD.opN rfl rfl rfl lb rfl rfl ?_
 refine AD.opN rfl rfl rfl lb rfl rfl ?_
 refine AD.opN rfl rfl rfl lb rfl rfl ?_
 refine AD.op [129, 134] rfl (by kernel_rfl) rfl rfl (fun _ _ h => AOp.pickN rfl rfl lb rfl rfl rfl h) ?_
 refine AD.op [135] rfl (by kernel_rfl) rfl rfl (fun _ _ h => AOp.assign rfl rfl lb rfl h) ?_
 refine AD.done ?_
 refine AO.nil (?_ : AC _ _ _ _)
 refine AC.ret ?_
 change RetQ _ _ _ .ret _
 obtain rfl := Option.some.inj h0
 refine retq rfl rfl

end Go.Proofs.YtbinnbmpedmabaaGreat.Wk
