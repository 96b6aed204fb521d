/- Proved: more of it. -/
import Derived.Test.YtdchenbdnalbcaaGreatDoorWPf_1
namespace Go.Proofs.YtdchenbdnalbcaaGreatDoor.Wk
open Go.Vm
set_option linter.unusedVariables false
set_option linter.unusedSimpArgs false
set_option maxRecDepth 100000 in
set_option maxHeartbeats 4000000 in
/-- pub-orthodrome/impl.PolygonsCentroid -/
theorem w_PolygonsCentroid (F : Nat) (a0 : Int) (a1 : (List TImpl_Geom)) (r0 : ((List Nat) × Bool)) (h0 : p_PolygonsCentroid F a0 a1 = some r0) : FnD Tryz.prog 8 [di .i64 a0, eS0 a1] (fun r => r = .tu [eS1 r0.1, dbool r0.2]) := by
 refine FnD.wrap (g := 20) (m := 2) (fun vs w h => idle20 vs w h) (by kernel_rfl) Tryz.func8 rfl Tryz.ntmps8 rfl (leb rfl) fun W ok => ?_
 unfold p_PolygonsCentroid at h0
 refine AW.seq ?_
 refine AC.region ?_
 refine AO.op rfl (AOp.alloc rfl rfl (ltb rfl) zero40 rfl ?_)
 refine AO.op rfl (AOp.alloc rfl rfl (ltb rfl) zero4 rfl ?_)
 refine AO.nil ?_
 refine ⟨rfl, ?_⟩
 refine AW.defer (caps := [.tmp 4, .tmp 5]) rfl rfl rfl (ltb rfl) rfl rfl rfl rfl (by kernel_rfl) rfl fun df => ?_
 refine AC.seq ?_
 refine AC.region ?_
 refine AO.op rfl (AOp.move rfl rfl (ltb rfl) rfl ?_)
 refine AO.op rfl (AOp.inl [1, 4, 5] (by kernel_rfl) Tryz.func21 rfl Tryz.ntmps21 rfl rfl (ltb rfl) rfl (leb rfl) rfl ?_)
 intro fr1
 refine AC.seq ?_
 refine AC.region ?_
 refine AO.op rfl (AOp.assign rfl rfl (ltb rfl) rfl ?_)
 refine AO.nil ?_
 change AC _ _ _ _
 refine AC.seq ?_
 refine AC.room ?_
 refine AC.room ?_
 refine AC.room ?_
 obtain ⟨y2, q3, h0⟩ := bind_elim h0
 obtain ⟨y4, q5, h0⟩ := bind_elim h0
 obtain ⟨q6, h0⟩ := need_elim h0
 obtain ⟨y7, q8, h0⟩ := bind_elim h0
 obtain ⟨q9, h0⟩ := need_elim h0
 obtain ⟨y10, q11, h0⟩ := bind_elim h0
 obtain ⟨q12, h0⟩ := need_elim h0
 refine AC.drawS [0, 1, 2, 3, 4, 5, 6, 7, 8, 9, 10, 11] [5, 8, 11] [12, 13, 14] (fun L => [.fix 40 [.d (.v (.slice none 0 0))], .fix 4 [.d (dbool false)], .frame fr1 [(1, .d (eS0 a1)), (4, .ptr 0 0), (5, .ptr 1 0)], bif L 5 then .fix 54 (List.map (fun z => SV.d (keS1 z)) (List.replicate (y4).toNat (0 : Nat))) else .dead, bif L 8 then .fix 54 (List.map (fun z => SV.d (keS1 z)) (List.replicate (y7).toNat (0 : Nat))) else .dead, bif L 11 then .fix 54 (List.map (fun z => SV.d (keS1 z)) (List.replicate (y10).toNat (0 : Nat))) else .dead]) [(5, SV.noO2 3 6), (8, SV.noO2 4 6), (11, SV.noO2 5 6)] mixed (by kernel_rfl) (fun L L' h => by simp only [h 5 (by decide), h 8 (by decide), h 11 (by decide)]) rfl ?_
 refine AS.op [0] [] [] [5, 8, 11] rfl rfl rfl (by kernel_rfl) (by kernel_rfl) rfl rfl (fun _ _ _ h => AOp.move rfl rfl (ltb rfl) rfl h) (by kernel_rfl) ?_
 refine AS.op [0] [] [5, 8, 11] [] rfl rfl rfl (by kernel_rfl) (by kernel_rfl) rfl rfl (fun _ _ _ h => AOp.move rfl rfl (ltb rfl) rfl h) (by kernel_rfl) ?_
 refine AS.op [4] [] [5, 8, 11] [] rfl rfl rfl (by kernel_rfl) (by kernel_rfl) rfl rfl (fun _ _ _ h => AOp.callD rfl rfl (ltb rfl) rfl rfl (w_Layout_Stride a0 y2 q3) (by rintro _ rfl; exact h)) (by kernel_rfl) ?_
 refine AS.op [0] [] [5, 8, 11] [] rfl rfl rfl (by kernel_rfl) (by kernel_rfl) rfl rfl (fun _ _ _ h => AOp.move rfl rfl (ltb rfl) rfl h) (by kernel_rfl) ?_
 refine AS.op [6] [] [5, 8, 11] [] rfl rfl rfl (by kernel_rfl) (by kernel_rfl) rfl rfl (fun _ _ _ h => AOp.callD rfl rfl (ltb rfl) rfl rfl (w_Layout_Stride a0 y4 q5) (by rintro _ rfl; exact h)) (by kernel_rfl) ?_
 refine AS.mid [7] [] [5] [8, 11] rfl rfl rfl rfl (by kernel_rfl) (by kernel_rfl) rfl rfl (fun _ _ _ h => AOp.makeL (f := fun z => SV.d (keS1 z)) (z0 := (0 : Nat)) rfl rfl (ltb rfl) rfl rfl el40 info54 rfl rfl (by decide) q6.1 q6.2 rfl (AO.sink 3 6 rfl rfl rfl (.cons rfl (.cons rfl (.cons rfl (.cons (noO2_cond (noO2_fixl (fun _ => rfl)) rfl) (.cons (noO2_cond (noO2_fixl (fun _ => rfl)) rfl) (.cons (noO2_cond (noO2_fixl (fun _ => rfl)) rfl) .nil)))))) (noO2_fixl (fun _ => rfl)) h)) (by kernel_rfl) rfl ?_
 refine AS.op [0] [] [8, 11] [5] rfl rfl rfl (by kernel_rfl) (by kernel_rfl) rfl rfl (fun _ _ _ h => AOp.move rfl rfl (ltb rfl) rfl h) (by kernel_rfl) ?_
 refine AS.op [9] [] [8, 11] [5] rfl rfl rfl (by kernel_rfl) (by kernel_rfl) rfl rfl (fun _ _ _ h => AOp.callD rfl rfl (ltb rfl) rfl rfl (w_Layout_Stride a0 y7 q8) (by rintro _ rfl; exact h)) (by kernel_rfl) ?_
 refine AS.mid [10] [] [8] [5, 11] rfl rfl rfl rfl (by kernel_rfl) (by kernel_rfl) rfl rfl (fun _ _ _ h => AOp.makeL (f := fun z => SV.d (keS1 z)) (z0 := (0 : Nat)) rfl rfl (ltb rfl) rfl rfl el40 info54 rfl rfl (by decide) q9.1 q9.2 rfl (AO.sink 4 6 rfl rfl rfl (.cons rfl (.cons rfl (.cons rfl (.cons (noO2_cond (noO2_fixl (fun _ => rfl)) rfl) (.cons (noO2_cond (noO2_fixl (fun _ => rfl)) rfl) (.cons (noO2_cond (noO2_fixl (fun _ => rfl)) rfl) .nil)))))) (noO2_fixl (fun _ => rfl)) h)) (by kernel_rfl) rfl ?_
 refine AS.op [0] [] [11] [5, 8] rfl rfl rfl (by kernel_rfl) (by kernel_rfl) rfl rfl (fun _ _ _ h => AOp.move rfl rfl (ltb rfl) rfl h) (by kernel_rfl) ?_
 refine AS.op [12] [] [11] [5, 8] rfl rfl rfl (by kernel_rfl) (by kernel_rfl) rfl rfl (fun _ _ _ h => AOp.callD rfl rfl (ltb rfl) rfl rfl (w_Layout_Stride a0 y10 q11) (by rintro _ rfl; exact h)) (by kernel_rfl) ?_
 refine AS.mid [13] [] [11] [5, 8] rfl rfl rfl rfl (by kernel_rfl) (by kernel_rfl) rfl rfl (fun _ _ _ h => AOp.makeL (f := fun z => SV.d (keS1 z)) (z0 := (0 : Nat)) rfl rfl (ltb rfl) rfl rfl el40 info54 rfl rfl (by decide) q12.1 q12.2 rfl (AO.sink 5 6 rfl rfl rfl (.cons rfl (.cons rfl (.cons rfl (.cons (noO2_cond (noO2_fixl (fun _ => rfl)) rfl) (.cons (noO2_cond (noO2_fixl (fun _ => rfl)) rfl) (.cons (noO2_cond (noO2_fixl (fun _ => rfl)) rfl) .nil)))))) (noO2_fixl (fun _ => rfl)) h)) (by kernel_rfl) rfl ?_
 refine AS.done ?_
 refine AO.objs (obs' := [.fix 40 [.d (.v (.slice none 0 0))], .fix 4 [.d (dbool false)], .frame fr1 [(1, .d (eS0 a1)), (4, .ptr 0 0), (5, .ptr 1 0)], .fix 54 (List.map (fun z => SV.d (keS1 z)) (List.replicate (y4).toNat (0 : Nat))), .fix 54 (List.map (fun z => SV.d (keS1 z)) (List.replicate (y7).toNat (0 : Nat))), .fix 54 (List.map (fun z => SV.d (keS1 z)) (List.replicate (y10).toNat (0 : Nat)))]) rfl ?_
 refine AO.op rfl (AOp.build rfl rfl (ltb rfl) zero82 rfl places82 rfl rfl ?_)
 refine AO.op rfl (AOp.box rfl rfl (ltb rfl) rfl rfl ?_)
 refine AO.op rfl (AOp.assign rfl rfl (ltb rfl) rfl ?_)
 refine AO.objs (obs' := [.fix 40 [.d (.v (.slice none 0 0))], .fix 4 [.d (dbool false)], .frame fr1 [(1, .d (eS0 a1)), (4, .ptr 0 0), (5, .ptr 1 0)], .fix 54 (List.map (fun z => SV.d (keS1 z)) (List.replicate (y4).toNat (0 : Nat))), .fix 54 (List.map (fun z => SV.d (keS1 z)) (List.replicate (y7).toNat (0 : Nat))), .fix 54 (List.map (fun z => SV.d (keS1 z)) (List.replicate (y10).toNat (0 : Nat))), .fix 82 [.d (di .i64 a0), .d (di .i64 y2), .d (.v (.slice none 0 0)), .sl 4 1 0 ((y7).toNat) ((y7).toNat), .d (dfl (0 : Nat)), .sl 5 1 0 ((y10).toNat) ((y10).toNat), .sl 3 1 0 ((y4).toNat) ((y4).toNat), .d (dfl (0 : Nat))]]) rfl ?_
 refine AO.nil ?_
 change AC _ _ _ _
 refine AC.ret ?_
 refine inlret (ob' := [.fix 40 [.d (.v (.slice none 0 0))], .fix 4 [.d (dbool false)], .dead, .fix 54 (List.map (fun z => SV.d (keS1 z)) (List.replicate (y4).toNat (0 : Nat))), .fix 54 (List.map (fun z => SV.d (keS1 z)) (List.replicate (y7).toNat (0 : Nat))), .fix 54 (List.map (fun z => SV.d (keS1 z)) (List.replicate (y10).toNat (0 : Nat))), .fix 82 [.d (di .i64 a0), .d (di .i64 y2), .d (.v (.slice none 0 0)), .sl 4 1 0 ((y7).toNat) ((y7).toNat), .d (dfl (0 : Nat)), .sl 5 1 0 ((y10).toNat) ((y10).toNat), .sl 3 1 0 ((y4).toNat) ((y4).toNat), .d (dfl (0 : Nat))]]) (e' := [(1, .d (eS0 a1)), (4, .ptr 0 0), (5, .ptr 1 0)]) (r := .ptr 6 0) rfl rfl rfl ?_
 change AO _ _ _ _ _
 refine AO.op rfl (AOp.assign rfl rfl (ltb rfl) rfl ?_)
 refine AO.objs (obs' := [.fix 40 [.d (.v (.slice none 0 0))], .fix 4 [.d (dbool false)], .dead, .fix 54 (List.map (fun z => SV.d (keS1 z)) (List.replicate (y4).toNat (0 : Nat))), .fix 54 (List.map (fun z => SV.d (keS1 z)) (List.replicate (y7).toNat (0 : Nat))), .fix 54 (List.map (fun z => SV.d (keS1 z)) (List.replicate (y10).toNat (0 : Nat))), .fix 82 [.d (di .i64 a0), .d (di .i64 y2), .d (.v (.slice none 0 0)), .sl 4 1 0 ((y7).toNat) ((y7).toNat), .d (dfl (0 : Nat)), .sl 5 1 0 ((y10).toNat) ((y10).toNat), .sl 3 1 0 ((y4).toNat) ((y4).toNat), .d (dfl (0 : Nat))]]) rfl ?_
 refine AO.nil ?_
 change AC _ _ _ _
 refine AC.seq ?_
 refine AC.seq ?_
 refine AC.region ?_
 refine AO.op rfl (AOp.move rfl rfl (ltb rfl) rfl ?_)
 refine AO.op rfl (AOp.lenDs (n := a1.length) (cells := (List.flatMap c0_TImpl_Geom a1)) rfl rfl (ltb rfl) rfl el22 (by decide) (lenN _ 7 c0_TImpl_Geom_len _) ?_)
 refine AO.op rfl (AOp.move rfl rfl (ltb rfl) rfl ?_)
 refine AO.nil ?_
 change AC _ _ _ _
 obtain ⟨o13, l14, h0⟩ := bind_elim h0
 refine AC.joinE (V := ((List Nat) × (List Nat) × (List Nat) × Option (List Nat) × Nat × Nat)) [4, 5, 6] [] 7 (fun g15 => []) (fun g15 => [.fix 40 [.d (.v (.slice none 0 0))], .fix 4 [.d (dbool false)], .dead, .fix 54 (List.map (fun z => SV.d (keS1 z)) g15.1), .fix 54 (List.map (fun z => SV.d (keS1 z)) g15.2.1), .fix 54 (List.map (fun z => SV.d (keS1 z)) g15.2.2.1), .fix 82 [.d (di .i64 a0), .d (di .i64 y2), .d (oN eS1 g15.2.2.2.1), .sl 4 1 0 ((y7).toNat) ((y7).toNat), .d (dfl g15.2.2.2.2.1), .sl 5 1 0 ((y10).toNat) ((y10).toNat), .sl 3 1 0 ((y4).toNat) ((y4).toNat), .d (dfl g15.2.2.2.2.2)]]) (fun g15 => (p_PolygonsCentroid_k1 y2 y4 y10) g15 = some r0) rfl ?_ ?_
 ·refine AC.block ?_
  refine AC.loopP (V := (Int × (List Nat) × (List Nat) × (List Nat) × Option (List Nat) × Nat × Nat)) (p_PolygonsCentroid_l2 a0 a1 F y2 y4 y7 y10) o13 [4, 5, 6, 12, 13] [14] 7 (fun g57 => [(14, .d (di .i64 g57.1))]) (fun g57 => [.fix 40 [.d (.v (.slice none 0 0))], .fix 4 [.d (dbool false)], .dead, .fix 54 (List.map (fun z => SV.d (keS1 z)) g57.2.1), .fix 54 (List.map (fun z => SV.d (keS1 z)) g57.2.2.1), .fix 54 (List.map (fun z => SV.d (keS1 z)) g57.2.2.2.1), .fix 82 [.d (di .i64 a0), .d (di .i64 y2), .d (oN eS1 g57.2.2.2.2.1), .sl 4 1 0 ((y7).toNat) ((y7).toNat), .d (dfl g57.2.2.2.2.2.1), .sl 5 1 0 ((y10).toNat) ((y10).toNat), .sl 3 1 0 ((y4).toNat) ((y4).toNat), .d (dfl g57.2.2.2.2.2.2)]]) F ((0 : Int), (List.replicate (y4).toNat (0 : Nat)), (List.replicate (y7).toNat (0 : Nat)), (List.replicate (y10).toNat (0 : Nat)), none, (0 : Nat), (0 : Nat)) l14 rfl rfl (LeL.refl _) rfl (okU_mk rfl (okU_cons rfl (okU_cons rfl (okU_cons rfl (okU_cons (okU_fixl (fun _ => rfl)) (okU_cons (okU_fixl (fun _ => rfl)) (okU_cons (okU_fixl (fun _ => rfl)) (okU_cons rfl okU_nil)))))))) ?_
  intro n59 g57 h1
  unfold p_PolygonsCentroid_l2 at h1
  refine AC.seq ?_
  refine AC.region ?_
  refine AO.op rfl (AOp.ilss rfl rfl (ltb rfl) rfl rfl ?_)
  refine AO.nil ?_
  change AC _ _ _ _
  refine AC.seq ?_
  refine AC.cond rfl (fun q60 => ?_) (fun q60 => ?_)
  ·replace h1 := cT h1 q60
   refine AC.skip ?_
   change AC _ _ _ _
   refine AC.seq ?_
   refine AC.block ?_
   refine AC.seq ?_
   refine AC.region ?_
   obtain ⟨x61, q62, h1⟩ := idx_elim h1
   refine AO.op rfl (AOp.indexDs (cells := (List.flatMap c0_TImpl_Geom a1)) rfl rfl (ltb rfl) rfl rfl el22 (by decide) q62.1 (ltN 7 c0_TImpl_Geom_len (by decide) q62.2) ?_)
   refine AO.op rfl (AOp.loadEpN rfl rfl (ltb rfl) rfl agg49 size49 (leN 7 c0_TImpl_Geom_len q62.2) ((atN 7 c0_TImpl_Geom_len q62.2).trans (c0_TImpl_Geom_eq x61)) ?_)
   refine AO.op rfl (AOp.alloc rfl rfl (ltb rfl) zero49 rfl ?_)
   refine AO.op rfl (AOp.store rfl rfl rfl rfl size49 rfl rfl rfl (leb rfl) ?_)
   refine AO.nil ?_
   change AC _ _ _ _
   refine AC.region ?_
   refine AO.op rfl (AOp.move rfl rfl (ltb rfl) rfl ?_)
   refine AO.op rfl (AOp.loadN rfl rfl (ltb rfl) rfl agg49 size49 rfl (leb rfl) rfl ?_)
   refine AO.op rfl (AOp.inl [4, 5, 6, 12, 13, 14, 18] (by kernel_rfl) Tryz.func23 rfl Tryz.ntmps23 rfl rfl (ltb rfl) rfl (leb rfl) rfl ?_)
   intro fr63
   refine AC.seq ?_
   refine AC.region ?_
   refine AO.op rfl (AOp.box rfl rfl (ltb rfl) rfl rfl ?_)
   refine AO.op rfl (AOp.assign rfl rfl (ltb rfl) rfl ?_)
   refine AO.objs (obs' := [.fix 40 [.d (.v (.slice none 0 0))], .fix 4 [.d (dbool false)], .dead, .fix 54 (List.map (fun z => SV.d (keS1 z)) g57.2.1), .fix 54 (List.map (fun z => SV.d (keS1 z)) g57.2.2.1), .fix 54 (List.map (fun z => SV.d (keS1 z)) g57.2.2.2.1), .fix 82 [.d (di .i64 a0), .d (di .i64 y2), .d (oN eS1 g57.2.2.2.2.1), .sl 4 1 0 ((y7).toNat) ((y7).toNat), .d (dfl g57.2.2.2.2.2.1), .sl 5 1 0 ((y10).toNat) ((y10).toNat), .sl 3 1 0 ((y4).toNat) ((y4).toNat), .d (dfl g57.2.2.2.2.2.2)], .fix 49 [.d (di .i64 x61.Kind), .d (di .i64 x61.Layout), .d (di .i64 x61.SRID), .d (eS1 x61.Flat), .d (eS2 x61.Ends), .d (eS3 x61.Endss), .d (eS0 x61.Kids)], .frame fr63 [(4, .ptr 0 0), (5, .ptr 1 0), (6, .ptr 6 0), (12, .d (eS0 a1)), (13, .d (di .i64 ((a1.length : Nat) : Int))), (14, .d (di .i64 g57.1)), (18, .ptr 6 0)], .fix 49 [.d (di .i64 x61.Kind), .d (di .i64 x61.Layout), .d (di .i64 x61.SRID), .d (eS1 x61.Flat), .d (eS2 x61.Ends), .d (eS3 x61.Endss), .d (eS0 x61.Kids)]]) rfl ?_
   refine AO.nil ?_
   change AC _ _ _ _
   refine AC.seq ?_
   refine AC.draw 7 mixed (by kernel_rfl) ?_
   refine AD.op [1] rfl (by kernel_rfl) rfl rfl (fun _ _ h => AOp.fieldAddr rfl rfl (ltb rfl) rfl fo49_1 h) ?_
   refine AD.op [8] rfl (by kernel_rfl) rfl rfl (fun _ _ h => AOp.load1 rfl rfl (ltb rfl) rfl agg3 rfl rfl h) ?_
   refine AD.op [1] rfl (by kernel_rfl) rfl rfl (fun _ _ h => AOp.fieldAddr rfl rfl (ltb rfl) rfl fo49_3 h) ?_
   refine AD.op [10] rfl (by kernel_rfl) rfl rfl (fun _ _ h => AOp.load1 rfl rfl (ltb rfl) rfl agg40 rfl rfl h) ?_
   obtain ⟨y64, q65, h1⟩ := bind_elim h1
   refine AD.op [11] rfl (by kernel_rfl) rfl rfl (fun _ _ h => AOp.callD rfl rfl (ltb rfl) rfl rfl (w_floats x61.Flat y64 q65) (by rintro _ rfl; exact h)) ?_
   refine AD.op [9] rfl (by kernel_rfl) rfl rfl (fun _ _ h => AOp.assign rfl rfl (ltb rfl) rfl h) ?_
   refine AD.op [12] rfl (by kernel_rfl) rfl rfl (fun _ _ h => AOp.assign rfl rfl (ltb rfl) rfl h) ?_
   refine AD.done ?_
   refine AO.nil ?_
   change AC _ _ _ _
   refine AC.seq ?_
   refine AC.seq ?_
   refine AC.region ?_
   refine AO.op rfl (AOp.fieldAddr rfl rfl (ltb rfl) rfl fo49_0 ?_)
   refine AO.op rfl (AOp.load1 rfl rfl (ltb rfl) rfl agg3 rfl rfl ?_)
   refine AO.nil ?_
   change AC _ _ _ _
   refine AC.block ?_
   refine AC.seq ?_
   refine AC.region ?_
   refine AO.op rfl (AOp.ieql rfl rfl (ltb rfl) rfl rfl ?_)
   refine AO.op rfl (AOp.assign rfl rfl (ltb rfl) rfl ?_)
   refine AO.nil ?_
   change AC _ _ _ _
   refine AC.cond rfl (fun q66 => ?_) (fun q66 => ?_)
   ·replace h1 := cT h1 q66
    cases h1
   replace h1 := cF h1 q66
   refine AC.seq ?_
   refine AC.region ?_
   refine AO.op rfl (AOp.ieql rfl rfl (ltb rfl) rfl rfl ?_)
   refine AO.op rfl (AOp.assign rfl rfl (ltb rfl) rfl ?_)
   refine AO.nil ?_
   change AC _ _ _ _
   refine AC.cond rfl (fun q67 => ?_) (fun q67 => ?_)
   ·replace h1 := cT h1 q67
    cases h1
   replace h1 := cF h1 q67
   refine AC.seq ?_
   refine AC.region ?_
   refine AO.op rfl (AOp.ieql rfl rfl (ltb rfl) rfl rfl ?_)
   refine AO.op rfl (AOp.assign rfl rfl (ltb rfl) rfl ?_)
   refine AO.nil ?_
   change AC _ _ _ _
   refine AC.cond rfl (fun q68 => ?_) (fun q68 => ?_)
   ·replace h1 := cT h1 q68
    cases h1
   replace h1 := cF h1 q68
   refine AC.seq ?_
   refine AC.region ?_
   refine AO.op rfl (AOp.ieql rfl rfl (ltb rfl) rfl rfl ?_)
   refine AO.op rfl (AOp.assign rfl rfl (ltb rfl) rfl ?_)
   refine AO.nil ?_
   change AC _ _ _ _
   refine AC.cond rfl (fun q69 => ?_) (fun q69 => ?_)
   ·replace h1 := cT h1 q69
    refine AC.seq ?_
    refine AC.room ?_
    obtain ⟨y70, q71, h1⟩ := bind_elim h1
    obtain ⟨y72, q73, h1⟩ := bind_elim h1
    refine AC.drawS [0, 1, 2, 3, 4, 5, 6, 7] [5] [8, 9, 10] (fun L => [.fix 40 [.d (.v (.slice none 0 0))], .fix 4 [.d (dbool false)], .dead, .fix 54 (List.map (fun z => SV.d (keS1 z)) g57.2.1), .fix 54 (List.map (fun z => SV.d (keS1 z)) g57.2.2.1), .fix 54 (List.map (fun z => SV.d (keS1 z)) g57.2.2.2.1), .fix 82 [.d (di .i64 a0), .d (di .i64 y2), .d (oN eS1 g57.2.2.2.2.1), .sl 4 1 0 ((y7).toNat) ((y7).toNat), .d (dfl g57.2.2.2.2.2.1), .sl 5 1 0 ((y10).toNat) ((y10).toNat), .sl 3 1 0 ((y4).toNat) ((y4).toNat), .d (dfl g57.2.2.2.2.2.2)], .fix 49 [.d (di .i64 x61.Kind), .d (di .i64 x61.Layout), .d (di .i64 x61.SRID), .d (eS1 x61.Flat), .d (eS2 x61.Ends), .d (eS3 x61.Endss), .d (eS0 x61.Kids)], .frame fr63 [(4, .ptr 0 0), (5, .ptr 1 0), (6, .ptr 6 0), (12, .d (eS0 a1)), (13, .d (di .i64 ((a1.length : Nat) : Int))), (14, .d (di .i64 g57.1)), (18, .ptr 6 0)], .fix 49 [.d (di .i64 x61.Kind), .d (di .i64 x61.Layout), .d (di .i64 x61.SRID), .d (eS1 x61.Flat), .d (eS2 x61.Ends), .d (eS3 x61.Endss), .d (eS0 x61.Kids)], bif L 5 then .fix 92 [.d (di .i64 y72.geom2.geom1.geom0.layout), .d (di .i64 y72.geom2.geom1.geom0.stride), .d (eS1 y72.geom2.geom1.geom0.flatCoords), .d (di .i64 y72.geom2.geom1.geom0.srid), .d (eS2 y72.geom2.ends)] else .dead]) [(5, SV.noO2 10 11)] mixed (by kernel_rfl) (fun L L' h => by simp only [h 5 (by decide)]) rfl ?_
    refine AS.op [3] [] [5] [] rfl rfl rfl (by kernel_rfl) (by kernel_rfl) rfl rfl (fun _ _ _ h => AOp.move rfl rfl (ltb rfl) rfl h) (by kernel_rfl) ?_
    refine AS.op [4] [] [5] [] rfl rfl rfl (by kernel_rfl) (by kernel_rfl) rfl rfl (fun _ _ _ h => AOp.move rfl rfl (ltb rfl) rfl h) (by kernel_rfl) ?_
    refine AS.op [1] [] [5] [] rfl rfl rfl (by kernel_rfl) (by kernel_rfl) rfl rfl (fun _ _ _ h => AOp.fieldAddr rfl rfl (ltb rfl) rfl fo49_4 h) (by kernel_rfl) ?_
    refine AS.op [46] [] [5] [] rfl rfl rfl (by kernel_rfl) (by kernel_rfl) rfl rfl (fun _ _ _ h => AOp.load1 rfl rfl (ltb rfl) rfl agg46 rfl rfl h) (by kernel_rfl) ?_
    refine AS.op [47] [] [5] [] rfl rfl rfl (by kernel_rfl) (by kernel_rfl) rfl rfl (fun _ _ _ h => AOp.callD rfl rfl (ltb rfl) rfl rfl (w_ints x61.Ends y70 q71) (by rintro _ rfl; exact h)) (by kernel_rfl) ?_
    refine AS.mid [44, 45, 48] [] [5] [] rfl rfl rfl rfl (by kernel_rfl) (by kernel_rfl) rfl rfl (fun _ _ _ h => AOp.callA rfl rfl (ltb rfl) rfl rfl (wa_NewPolygonFlat x61.Layout y64 y70 y72 q73) (AO.sink 10 11 rfl rfl rfl (.cons rfl (.cons rfl (.cons rfl (.cons (noO2_fixl (fun _ => rfl)) (.cons (noO2_fixl (fun _ => rfl)) (.cons (noO2_fixl (fun _ => rfl)) (.cons rfl (.cons rfl (.cons rfl (.cons rfl (.cons (noO2_cond rfl rfl) .nil))))))))))) rfl h)) (by kernel_rfl) rfl ?_
    refine AS.op [1] [] [] [5] rfl rfl rfl (by kernel_rfl) (by kernel_rfl) rfl rfl (fun _ _ _ h => AOp.fieldAddr rfl rfl (ltb rfl) rfl fo49_2 h) (by kernel_rfl) ?_
    refine AS.op [50] [] [] [5] rfl rfl rfl (by kernel_rfl) (by kernel_rfl) rfl rfl (fun _ _ _ h => AOp.load1 rfl rfl (ltb rfl) rfl agg3 rfl rfl h) (by kernel_rfl) ?_
    refine AS.done ?_
    refine AO.objs (obs' := [.fix 40 [.d (.v (.slice none 0 0))], .fix 4 [.d (dbool false)], .dead, .fix 54 (List.map (fun z => SV.d (keS1 z)) g57.2.1), .fix 54 (List.map (fun z => SV.d (keS1 z)) g57.2.2.1), .fix 54 (List.map (fun z => SV.d (keS1 z)) g57.2.2.2.1), .fix 82 [.d (di .i64 a0), .d (di .i64 y2), .d (oN eS1 g57.2.2.2.2.1), .sl 4 1 0 ((y7).toNat) ((y7).toNat), .d (dfl g57.2.2.2.2.2.1), .sl 5 1 0 ((y10).toNat) ((y10).toNat), .sl 3 1 0 ((y4).toNat) ((y4).toNat), .d (dfl g57.2.2.2.2.2.2)], .fix 49 [.d (di .i64 x61.Kind), .d (di .i64 x61.Layout), .d (di .i64 x61.SRID), .d (eS1 x61.Flat), .d (eS2 x61.Ends), .d (eS3 x61.Endss), .d (eS0 x61.Kids)], .frame fr63 [(4, .ptr 0 0), (5, .ptr 1 0), (6, .ptr 6 0), (12, .d (eS0 a1)), (13, .d (di .i64 ((a1.length : Nat) : Int))), (14, .d (di .i64 g57.1)), (18, .ptr 6 0)], .fix 49 [.d (di .i64 x61.Kind), .d (di .i64 x61.Layout), .d (di .i64 x61.SRID), .d (eS1 x61.Flat), .d (eS2 x61.Ends), .d (eS3 x61.Endss), .d (eS0 x61.Kids)], .fix 92 [.d (di .i64 y72.geom2.geom1.geom0.layout), .d (di .i64 y72.geom2.geom1.geom0.stride), .d (eS1 y72.geom2.geom1.geom0.flatCoords), .d (di .i64 y72.geom2.geom1.geom0.srid), .d (eS2 y72.geom2.ends)]]) rfl ?_
    refine AO.op rfl (AOp.inl [2] (by kernel_rfl) Tryz.func52 rfl Tryz.ntmps52 rfl rfl (ltb rfl) rfl (leb rfl) rfl ?_)
    intro fr74
    refine AC.seq ?_
    refine AC.region ?_
    refine AO.op rfl (AOp.assign rfl rfl (ltb rfl) rfl ?_)
    refine AO.objs (obs' := [.fix 40 [.d (.v (.slice none 0 0))], .fix 4 [.d (dbool false)], .dead, .fix 54 (List.map (fun z => SV.d (keS1 z)) g57.2.1), .fix 54 (List.map (fun z => SV.d (keS1 z)) g57.2.2.1), .fix 54 (List.map (fun z => SV.d (keS1 z)) g57.2.2.2.1), .fix 82 [.d (di .i64 a0), .d (di .i64 y2), .d (oN eS1 g57.2.2.2.2.1), .sl 4 1 0 ((y7).toNat) ((y7).toNat), .d (dfl g57.2.2.2.2.2.1), .sl 5 1 0 ((y10).toNat) ((y10).toNat), .sl 3 1 0 ((y4).toNat) ((y4).toNat), .d (dfl g57.2.2.2.2.2.2)], .fix 49 [.d (di .i64 x61.Kind), .d (di .i64 x61.Layout), .d (di .i64 x61.SRID), .d (eS1 x61.Flat), .d (eS2 x61.Ends), .d (eS3 x61.Endss), .d (eS0 x61.Kids)], .frame fr63 [(4, .ptr 0 0), (5, .ptr 1 0), (6, .ptr 6 0), (12, .d (eS0 a1)), (13, .d (di .i64 ((a1.length : Nat) : Int))), (14, .d (di .i64 g57.1)), (18, .ptr 6 0)], .fix 49 [.d (di .i64 x61.Kind), .d (di .i64 x61.Layout), .d (di .i64 x61.SRID), .d (eS1 x61.Flat), .d (eS2 x61.Ends), .d (eS3 x61.Endss), .d (eS0 x61.Kids)], .fix 92 [.d (di .i64 y72.geom2.geom1.geom0.layout), .d (di .i64 y72.geom2.geom1.geom0.stride), .d (eS1 y72.geom2.geom1.geom0.flatCoords), .d (di .i64 y72.geom2.geom1.geom0.srid), .d (eS2 y72.geom2.ends)], .frame fr74 [(2, .d (.v (.nilIface)))]]) rfl ?_
    refine AO.nil ?_
    change AC _ _ _ _
    refine AC.seq ?_
    refine AC.region ?_
    refine AO.op rfl (AOp.move rfl rfl (ltb rfl) rfl ?_)
    refine AO.op rfl (AOp.move rfl rfl (ltb rfl) rfl ?_)
    refine AO.op rfl (AOp.nilCheck rfl rfl (ltb rfl) rfl rfl ?_)
    refine AO.op rfl (AOp.fieldAddr rfl rfl (ltb rfl) rfl fo92_0 ?_)
    refine AO.op rfl (AOp.fieldAddr rfl rfl (ltb rfl) rfl fo90_0 ?_)
    refine AO.op rfl (AOp.fieldAddr rfl rfl (ltb rfl) rfl fo88_0 ?_)
    refine AO.op rfl (AOp.fieldAddr rfl rfl (ltb rfl) rfl fo86_3 ?_)
    refine AO.op rfl (AOp.store rfl rfl rfl rfl size3 rfl rfl rfl (leb rfl) ?_)
    refine AO.nil ?_
    change AC _ _ _ _
    refine AC.seq ?_
    refine AC.region ?_
    refine AO.op rfl (AOp.move rfl rfl (ltb rfl) rfl ?_)
    refine AO.op rfl (AOp.assign rfl rfl (ltb rfl) rfl ?_)
    refine AO.nil ?_
    change AC _ _ _ _
    refine AC.ret ?_
    refine inlret (ob' := [.fix 40 [.d (.v (.slice none 0 0))], .fix 4 [.d (dbool false)], .dead, .fix 54 (List.map (fun z => SV.d (keS1 z)) g57.2.1), .fix 54 (List.map (fun z => SV.d (keS1 z)) g57.2.2.1), .fix 54 (List.map (fun z => SV.d (keS1 z)) g57.2.2.2.1), .fix 82 [.d (di .i64 a0), .d (di .i64 y2), .d (oN eS1 g57.2.2.2.2.1), .sl 4 1 0 ((y7).toNat) ((y7).toNat), .d (dfl g57.2.2.2.2.2.1), .sl 5 1 0 ((y10).toNat) ((y10).toNat), .sl 3 1 0 ((y4).toNat) ((y4).toNat), .d (dfl g57.2.2.2.2.2.2)], .fix 49 [.d (di .i64 x61.Kind), .d (di .i64 x61.Layout), .d (di .i64 x61.SRID), .d (eS1 x61.Flat), .d (eS2 x61.Ends), .d (eS3 x61.Endss), .d (eS0 x61.Kids)], .frame fr63 [(4, .ptr 0 0), (5, .ptr 1 0), (6, .ptr 6 0), (12, .d (eS0 a1)), (13, .d (di .i64 ((a1.length : Nat) : Int))), (14, .d (di .i64 g57.1)), (18, .ptr 6 0)], .fix 49 [.d (di .i64 x61.Kind), .d (di .i64 x61.Layout), .d (di .i64 x61.SRID), .d (eS1 x61.Flat), .d (eS2 x61.Ends), .d (eS3 x61.Endss), .d (eS0 x61.Kids)], .fix 92 [.d (di .i64 y72.geom2.geom1.geom0.layout), .d (di .i64 y72.geom2.geom1.geom0.stride), .d (eS1 y72.geom2.geom1.geom0.flatCoords), .d (di .i64 x61.SRID), .d (eS2 y72.geom2.ends)], .dead]) (e' := [(2, .d (.v (.nilIface)))]) (r := .ptr 10 0) rfl rfl rfl ?_
    change AO _ _ _ _ _
    refine AO.op rfl (AOp.makeIfc rfl rfl (ltb rfl) rfl conc64 ?_)
    refine AO.op rfl (AOp.assign rfl rfl (ltb rfl) rfl ?_)
    refine AO.objs (obs' := [.fix 40 [.d (.v (.slice none 0 0))], .fix 4 [.d (dbool false)], .dead, .fix 54 (List.map (fun z => SV.d (keS1 z)) g57.2.1), .fix 54 (List.map (fun z => SV.d (keS1 z)) g57.2.2.1), .fix 54 (List.map (fun z => SV.d (keS1 z)) g57.2.2.2.1), .fix 82 [.d (di .i64 a0), .d (di .i64 y2), .d (oN eS1 g57.2.2.2.2.1), .sl 4 1 0 ((y7).toNat) ((y7).toNat), .d (dfl g57.2.2.2.2.2.1), .sl 5 1 0 ((y10).toNat) ((y10).toNat), .sl 3 1 0 ((y4).toNat) ((y4).toNat), .d (dfl g57.2.2.2.2.2.2)], .fix 49 [.d (di .i64 x61.Kind), .d (di .i64 x61.Layout), .d (di .i64 x61.SRID), .d (eS1 x61.Flat), .d (eS2 x61.Ends), .d (eS3 x61.Endss), .d (eS0 x61.Kids)], .frame fr63 [(4, .ptr 0 0), (5, .ptr 1 0), (6, .ptr 6 0), (12, .d (eS0 a1)), (13, .d (di .i64 ((a1.length : Nat) : Int))), (14, .d (di .i64 g57.1)), (18, .ptr 6 0)], .fix 49 [.d (di .i64 x61.Kind), .d (di .i64 x61.Layout), .d (di .i64 x61.SRID), .d (eS1 x61.Flat), .d (eS2 x61.Ends), .d (eS3 x61.Endss), .d (eS0 x61.Kids)], .fix 92 [.d (di .i64 y72.geom2.geom1.geom0.layout), .d (di .i64 y72.geom2.geom1.geom0.stride), .d (eS1 y72.geom2.geom1.geom0.flatCoords), .d (di .i64 x61.SRID), .d (eS2 y72.geom2.ends)], .dead]) rfl ?_
    refine AO.nil ?_
    change AC _ _ _ _
    refine AC.ret ?_
    refine inlret (ob' := [.fix 40 [.d (.v (.slice none 0 0))], .fix 4 [.d (dbool false)], .dead, .fix 54 (List.map (fun z => SV.d (keS1 z)) g57.2.1), .fix 54 (List.map (fun z => SV.d (keS1 z)) g57.2.2.1), .fix 54 (List.map (fun z => SV.d (keS1 z)) g57.2.2.2.1), .fix 82 [.d (di .i64 a0), .d (di .i64 y2), .d (oN eS1 g57.2.2.2.2.1), .sl 4 1 0 ((y7).toNat) ((y7).toNat), .d (dfl g57.2.2.2.2.2.1), .sl 5 1 0 ((y10).toNat) ((y10).toNat), .sl 3 1 0 ((y4).toNat) ((y4).toNat), .d (dfl g57.2.2.2.2.2.2)], .fix 49 [.d (di .i64 x61.Kind), .d (di .i64 x61.Layout), .d (di .i64 x61.SRID), .d (eS1 x61.Flat), .d (eS2 x61.Ends), .d (eS3 x61.Endss), .d (eS0 x61.Kids)], .dead, .fix 49 [.d (di .i64 x61.Kind), .d (di .i64 x61.Layout), .d (di .i64 x61.SRID), .d (eS1 x61.Flat), .d (eS2 x61.Ends), .d (eS3 x61.Endss), .d (eS0 x61.Kids)], .fix 92 [.d (di .i64 y72.geom2.geom1.geom0.layout), .d (di .i64 y72.geom2.geom1.geom0.stride), .d (eS1 y72.geom2.geom1.geom0.flatCoords), .d (di .i64 x61.SRID), .d (eS2 y72.geom2.ends)], .dead]) (e' := [(4, .ptr 0 0), (5, .ptr 1 0), (6, .ptr 6 0), (12, .d (eS0 a1)), (13, .d (di .i64 ((a1.length : Nat) : Int))), (14, .d (di .i64 g57.1)), (18, .ptr 6 0)]) (r := .ifc 64 (.ptr 10 0)) rfl rfl rfl ?_
    change AO _ _ _ _ _
    refine AO.op rfl (AOp.assertYes rfl rfl (ltb rfl) rfl rfl pass64_64 rfl ?_)
    refine AO.op rfl (AOp.inl [4, 5, 6, 12, 13, 14] (by kernel_rfl) Tryz.func22 rfl Tryz.ntmps22 rfl rfl (ltb rfl) rfl (leb rfl) rfl ?_)
    intro fr75
    refine AC.seq ?_
    refine AC.region ?_
    refine AO.op rfl (AOp.move rfl rfl (ltb rfl) rfl ?_)
    refine AO.op rfl (AOp.move rfl rfl (ltb rfl) rfl ?_)
    refine AO.op rfl (AOp.nilCheck rfl rfl (ltb rfl) rfl rfl ?_)
    refine AO.op rfl (AOp.fieldAddr rfl rfl (ltb rfl) rfl fo92_0 ?_)
    refine AO.op rfl (AOp.fieldAddr rfl rfl (ltb rfl) rfl fo90_0 ?_)
    refine AO.op rfl (AOp.inl [0, 1, 5] (by kernel_rfl) Tryz.func38 rfl Tryz.ntmps38 rfl rfl (ltb rfl) rfl (leb rfl) rfl ?_)
    intro fr76
    refine AC.seq ?_
    refine AC.region ?_
    refine AO.op rfl (AOp.assign rfl rfl (ltb rfl) rfl ?_)
    refine AO.objs (obs' := [.fix 40 [.d (.v (.slice none 0 0))], .fix 4 [.d (dbool false)], .dead, .fix 54 (List.map (fun z => SV.d (keS1 z)) g57.2.1), .fix 54 (List.map (fun z => SV.d (keS1 z)) g57.2.2.1), .fix 54 (List.map (fun z => SV.d (keS1 z)) g57.2.2.2.1), .fix 82 [.d (di .i64 a0), .d (di .i64 y2), .d (oN eS1 g57.2.2.2.2.1), .sl 4 1 0 ((y7).toNat) ((y7).toNat), .d (dfl g57.2.2.2.2.2.1), .sl 5 1 0 ((y10).toNat) ((y10).toNat), .sl 3 1 0 ((y4).toNat) ((y4).toNat), .d (dfl g57.2.2.2.2.2.2)], .fix 49 [.d (di .i64 x61.Kind), .d (di .i64 x61.Layout), .d (di .i64 x61.SRID), .d (eS1 x61.Flat), .d (eS2 x61.Ends), .d (eS3 x61.Endss), .d (eS0 x61.Kids)], .dead, .fix 49 [.d (di .i64 x61.Kind), .d (di .i64 x61.Layout), .d (di .i64 x61.SRID), .d (eS1 x61.Flat), .d (eS2 x61.Ends), .d (eS3 x61.Endss), .d (eS0 x61.Kids)], .fix 92 [.d (di .i64 y72.geom2.geom1.geom0.layout), .d (di .i64 y72.geom2.geom1.geom0.stride), .d (eS1 y72.geom2.geom1.geom0.flatCoords), .d (di .i64 x61.SRID), .d (eS2 y72.geom2.ends)], .dead, .frame fr75 [(4, .ptr 0 0), (5, .ptr 1 0), (6, .ptr 6 0), (12, .d (eS0 a1)), (13, .d (di .i64 ((a1.length : Nat) : Int))), (14, .d (di .i64 g57.1))], .frame fr76 [(0, .ptr 6 0), (1, .ptr 10 0), (5, .ptr 6 0)]]) rfl ?_
    refine AO.nil ?_
    change AC _ _ _ _
    refine AC.seq ?_
    refine AC.draw 22 mixed (by kernel_rfl) ?_
    refine AD.op [0] rfl (by kernel_rfl) rfl rfl (fun _ _ h => AOp.move rfl rfl (ltb rfl) rfl h) ?_
    refine AD.op [5] rfl (by kernel_rfl) rfl rfl (fun _ _ h => AOp.nilCheck rfl rfl (ltb rfl) rfl rfl h) ?_
    refine AD.op [6] rfl (by kernel_rfl) rfl rfl (fun _ _ h => AOp.fieldAddr rfl rfl (ltb rfl) rfl fo88_0 h) ?_
    refine AD.op [7] rfl (by kernel_rfl) rfl rfl (fun _ _ h => AOp.fieldAddr rfl rfl (ltb rfl) rfl fo86_2 h) ?_
    refine AD.op [8] rfl (by kernel_rfl) rfl rfl (fun _ _ h => AOp.load1 rfl rfl (ltb rfl) rfl agg40 rfl rfl h) ?_
    refine AD.op [1] rfl (by kernel_rfl) rfl rfl (fun _ _ h => AOp.move rfl rfl (ltb rfl) rfl h) ?_
    refine AD.op [0] rfl (by kernel_rfl) rfl rfl (fun _ _ h => AOp.move rfl rfl (ltb rfl) rfl h) ?_
    refine AD.op [11] rfl (by kernel_rfl) rfl rfl (fun _ _ h => AOp.nilCheck rfl rfl (ltb rfl) rfl rfl h) ?_
    refine AD.op [12] rfl (by kernel_rfl) rfl rfl (fun _ _ h => AOp.fieldAddr rfl rfl (ltb rfl) rfl fo88_0 h) ?_
    refine AD.op [13] rfl (by kernel_rfl) rfl rfl (fun _ _ h => AOp.fieldAddr rfl rfl (ltb rfl) rfl fo86_1 h) ?_
    refine AD.op [14] rfl (by kernel_rfl) rfl rfl (fun _ _ h => AOp.load1 rfl rfl (ltb rfl) rfl agg3 rfl rfl h) ?_
    obtain ⟨q77, h1⟩ := need_elim h1
    refine AD.op [10, 15] rfl (by kernel_rfl) rfl rfl (fun _ _ h => AOp.imul rfl rfl (ltb rfl) rfl rfl rfl q77.1 q77.2 h) ?_
    refine AD.op [1] rfl (by kernel_rfl) rfl rfl (fun _ _ h => AOp.move rfl rfl (ltb rfl) rfl h) ?_
    obtain ⟨q78, h1⟩ := need_elim h1
    refine AD.op [17] rfl (by kernel_rfl) rfl rfl (fun _ _ h => AOp.iadd rfl rfl (ltb rfl) rfl rfl rfl q78.1 q78.2 h) ?_
    refine AD.op [0] rfl (by kernel_rfl) rfl rfl (fun _ _ h => AOp.move rfl rfl (ltb rfl) rfl h) ?_
    refine AD.op [19] rfl (by kernel_rfl) rfl rfl (fun _ _ h => AOp.nilCheck rfl rfl (ltb rfl) rfl rfl h) ?_
    refine AD.op [20] rfl (by kernel_rfl) rfl rfl (fun _ _ h => AOp.fieldAddr rfl rfl (ltb rfl) rfl fo88_0 h) ?_
    refine AD.op [21] rfl (by kernel_rfl) rfl rfl (fun _ _ h => AOp.fieldAddr rfl rfl (ltb rfl) rfl fo86_1 h) ?_
    refine AD.op [22] rfl (by kernel_rfl) rfl rfl (fun _ _ h => AOp.load1 rfl rfl (ltb rfl) rfl agg3 rfl rfl h) ?_
    obtain ⟨q79, h1⟩ := need_elim h1
    refine AD.op [18, 23] rfl (by kernel_rfl) rfl rfl (fun _ _ h => AOp.imul rfl rfl (ltb rfl) rfl rfl rfl q79.1 q79.2 h) ?_
    obtain ⟨q80, h1⟩ := need_elim h1
    refine AD.op [9, 16, 24] rfl (by kernel_rfl) rfl rfl (fun _ _ h => AOp.sliceD (cells := (List.map keS1 y72.geom2.geom1.geom0.flatCoords)) (n := y72.geom2.geom1.geom0.flatCoords.length) (l := (((0 : Int) * y72.geom2.geom1.geom0.stride)).toNat) (hh := ((((0 : Int) + (1 : Int)) * y72.geom2.geom1.geom0.stride)).toNat) rfl rfl (ltb rfl) rfl (.inr ⟨_, _, _, rfl, rfl, q80.1.1, rfl⟩) (.inr ⟨_, _, _, rfl, rfl, q80.1.2, rfl⟩) el40 (by decide) (len1 _ _) q80.2.1 q80.2.2 (sub1 _ _ _ _) h) ?_
    refine AD.op [25] rfl (by kernel_rfl) rfl rfl (fun _ _ h => AOp.assign rfl rfl (ltb rfl) rfl h) ?_
    refine AD.done ?_
    refine AO.nil ?_
    change AC _ _ _ _
    refine AC.ret ?_
    refine inlret (ob' := [.fix 40 [.d (.v (.slice none 0 0))], .fix 4 [.d (dbool false)], .dead, .fix 54 (List.map (fun z => SV.d (keS1 z)) g57.2.1), .fix 54 (List.map (fun z => SV.d (keS1 z)) g57.2.2.1), .fix 54 (List.map (fun z => SV.d (keS1 z)) g57.2.2.2.1), .fix 82 [.d (di .i64 a0), .d (di .i64 y2), .d (oN eS1 g57.2.2.2.2.1), .sl 4 1 0 ((y7).toNat) ((y7).toNat), .d (dfl g57.2.2.2.2.2.1), .sl 5 1 0 ((y10).toNat) ((y10).toNat), .sl 3 1 0 ((y4).toNat) ((y4).toNat), .d (dfl g57.2.2.2.2.2.2)], .fix 49 [.d (di .i64 x61.Kind), .d (di .i64 x61.Layout), .d (di .i64 x61.SRID), .d (eS1 x61.Flat), .d (eS2 x61.Ends), .d (eS3 x61.Endss), .d (eS0 x61.Kids)], .dead, .fix 49 [.d (di .i64 x61.Kind), .d (di .i64 x61.Layout), .d (di .i64 x61.SRID), .d (eS1 x61.Flat), .d (eS2 x61.Ends), .d (eS3 x61.Endss), .d (eS0 x61.Kids)], .fix 92 [.d (di .i64 y72.geom2.geom1.geom0.layout), .d (di .i64 y72.geom2.geom1.geom0.stride), .d (eS1 y72.geom2.geom1.geom0.flatCoords), .d (di .i64 x61.SRID), .d (eS2 y72.geom2.ends)], .dead, .frame fr75 [(4, .ptr 0 0), (5, .ptr 1 0), (6, .ptr 6 0), (12, .d (eS0 a1)), (13, .d (di .i64 ((a1.length : Nat) : Int))), (14, .d (di .i64 g57.1))], .dead]) (e' := [(0, .ptr 6 0), (1, .ptr 10 0), (5, .ptr 6 0)]) (r := .d (eS1 ((y72.geom2.geom1.geom0.flatCoords.drop (((0 : Int) * y72.geom2.geom1.geom0.stride)).toNat).take (((((0 : Int) + (1 : Int)) * y72.geom2.geom1.geom0.stride)).toNat - (((0 : Int) * y72.geom2.geom1.geom0.stride)).toNat)))) rfl rfl rfl ?_
    change AO _ _ _ _ _
    refine AO.op rfl (AOp.inl [0, 1] (by kernel_rfl) Tryz.func37 rfl Tryz.ntmps37 rfl rfl (ltb rfl) rfl (leb rfl) rfl ?_)
    intro fr81
    refine AC.seq ?_
    refine AC.region ?_
    refine AO.op rfl (AOp.move rfl rfl (ltb rfl) rfl ?_)
    refine AO.op rfl (AOp.nilCheck rfl rfl (ltb rfl) rfl rfl ?_)
    refine AO.op rfl (AOp.fieldAddr rfl rfl (ltb rfl) rfl fo82_2 ?_)
    refine AO.op rfl (AOp.load1 rfl rfl (ltb rfl) rfl agg69 rfl rfl ?_)
    obtain ⟨q82, h1⟩ := need_elim h1
    refine AO.op rfl (AOp.nilEql (f := eS1) (x0 := g57.2.2.2.2.1) Tryz.underlying69 rfl rfl (ltb rfl) rfl (neO_cons (fun _ _ => ⟨_, _, _, rfl⟩) q82) ?_)
    refine AO.objs (obs' := [.fix 40 [.d (.v (.slice none 0 0))], .fix 4 [.d (dbool false)], .dead, .fix 54 (List.map (fun z => SV.d (keS1 z)) g57.2.1), .fix 54 (List.map (fun z => SV.d (keS1 z)) g57.2.2.1), .fix 54 (List.map (fun z => SV.d (keS1 z)) g57.2.2.2.1), .fix 82 [.d (di .i64 a0), .d (di .i64 y2), .d (oN eS1 g57.2.2.2.2.1), .sl 4 1 0 ((y7).toNat) ((y7).toNat), .d (dfl g57.2.2.2.2.2.1), .sl 5 1 0 ((y10).toNat) ((y10).toNat), .sl 3 1 0 ((y4).toNat) ((y4).toNat), .d (dfl g57.2.2.2.2.2.2)], .fix 49 [.d (di .i64 x61.Kind), .d (di .i64 x61.Layout), .d (di .i64 x61.SRID), .d (eS1 x61.Flat), .d (eS2 x61.Ends), .d (eS3 x61.Endss), .d (eS0 x61.Kids)], .dead, .fix 49 [.d (di .i64 x61.Kind), .d (di .i64 x61.Layout), .d (di .i64 x61.SRID), .d (eS1 x61.Flat), .d (eS2 x61.Ends), .d (eS3 x61.Endss), .d (eS0 x61.Kids)], .fix 92 [.d (di .i64 y72.geom2.geom1.geom0.layout), .d (di .i64 y72.geom2.geom1.geom0.stride), .d (eS1 y72.geom2.geom1.geom0.flatCoords), .d (di .i64 x61.SRID), .d (eS2 y72.geom2.ends)], .dead, .frame fr75 [(4, .ptr 0 0), (5, .ptr 1 0), (6, .ptr 6 0), (12, .d (eS0 a1)), (13, .d (di .i64 ((a1.length : Nat) : Int))), (14, .d (di .i64 g57.1))], .dead, .frame fr81 [(0, .ptr 6 0), (1, .ptr 10 0)]]) rfl ?_
    refine AO.nil ?_
    change AC _ _ _ _
    refine AC.joinE (V := Option (List Nat)) [] [] 15 (fun g83 => []) (fun g83 => [.fix 40 [.d (.v (.slice none 0 0))], .fix 4 [.d (dbool false)], .dead, .fix 54 (List.map (fun z => SV.d (keS1 z)) g57.2.1), .fix 54 (List.map (fun z => SV.d (keS1 z)) g57.2.2.1), .fix 54 (List.map (fun z => SV.d (keS1 z)) g57.2.2.2.1), .fix 82 [.d (di .i64 a0), .d (di .i64 y2), .d (oN eS1 g83), .sl 4 1 0 ((y7).toNat) ((y7).toNat), .d (dfl g57.2.2.2.2.2.1), .sl 5 1 0 ((y10).toNat) ((y10).toNat), .sl 3 1 0 ((y4).toNat) ((y4).toNat), .d (dfl g57.2.2.2.2.2.2)], .fix 49 [.d (di .i64 x61.Kind), .d (di .i64 x61.Layout), .d (di .i64 x61.SRID), .d (eS1 x61.Flat), .d (eS2 x61.Ends), .d (eS3 x61.Endss), .d (eS0 x61.Kids)], .dead, .fix 49 [.d (di .i64 x61.Kind), .d (di .i64 x61.Layout), .d (di .i64 x61.SRID), .d (eS1 x61.Flat), .d (eS2 x61.Ends), .d (eS3 x61.Endss), .d (eS0 x61.Kids)], .fix 92 [.d (di .i64 y72.geom2.geom1.geom0.layout), .d (di .i64 y72.geom2.geom1.geom0.stride), .d (eS1 y72.geom2.geom1.geom0.flatCoords), .d (di .i64 x61.SRID), .d (eS2 y72.geom2.ends)], .dead, .frame fr75 [(4, .ptr 0 0), (5, .ptr 1 0), (6, .ptr 6 0), (12, .d (eS0 a1)), (13, .d (di .i64 ((a1.length : Nat) : Int))), (14, .d (di .i64 g57.1))], .dead, .frame fr81 [(0, .ptr 6 0), (1, .ptr 10 0)]]) (fun g83 => (p_PolygonsCentroid_k3 a0 F y2 y4 y7 y10 g57 (iter (p_PolygonsCentroid_l2 a0 a1 F y2 y4 y7 y10) n59) y72) g83 = some o13) rfl ?_ ?_
    ·refine AC.cond rfl (fun q496 => ?_) (fun q496 => ?_)
     ·replace h1 := cT h1 q496
      refine AC.region ?_
      refine AO.op rfl (AOp.move rfl rfl (ltb rfl) rfl ?_)
      refine AO.op rfl (AOp.move rfl rfl (ltb rfl) rfl ?_)
      refine AO.op rfl (AOp.nilCheck rfl rfl (ltb rfl) rfl rfl ?_)
      refine AO.op rfl (AOp.fieldAddr rfl rfl (ltb rfl) rfl fo82_2 ?_)
      refine AO.op rfl (AOp.store rfl rfl rfl rfl size69 rfl rfl rfl (leb rfl) ?_)
      refine AO.nil ?_
      exact ⟨(some ((y72.geom2.geom1.geom0.flatCoords.drop (((0 : Int) * y72.geom2.geom1.geom0.stride)).toNat).take (((((0 : Int) + (1 : Int)) * y72.geom2.geom1.geom0.stride)).toNat - (((0 : Int) * y72.geom2.geom1.geom0.stride)).toNat))), _, rfl, (LeL.refl _), rfl, (okU_mk rfl (okU_cons rfl (okU_cons rfl (okU_cons rfl (okU_cons (okU_fixl (fun _ => rfl)) (okU_cons (okU_fixl (fun _ => rfl)) (okU_cons (okU_fixl (fun _ => rfl)) (okU_cons rfl (okU_cons rfl (okU_cons rfl (okU_cons rfl (okU_cons rfl (okU_cons rfl (okU_cons rfl (okU_cons rfl (okU_cons rfl okU_nil)))))))))))))))), h1⟩
     replace h1 := cF h1 q496
     refine AC.skip ?_
     exact ⟨g57.2.2.2.2.1, _, rfl, (LeL.refl _), rfl, (okU_mk rfl (okU_cons rfl (okU_cons rfl (okU_cons rfl (okU_cons (okU_fixl (fun _ => rfl)) (okU_cons (okU_fixl (fun _ => rfl)) (okU_cons (okU_fixl (fun _ => rfl)) (okU_cons rfl (okU_cons rfl (okU_cons rfl (okU_cons rfl (okU_cons rfl (okU_cons rfl (okU_cons rfl (okU_cons rfl (okU_cons rfl okU_nil)))))))))))))))), h1⟩
    intro g83 h1
    unfold p_PolygonsCentroid_k3 at h1
    refine inlend (ob' := [.fix 40 [.d (.v (.slice none 0 0))], .fix 4 [.d (dbool false)], .dead, .fix 54 (List.map (fun z => SV.d (keS1 z)) g57.2.1), .fix 54 (List.map (fun z => SV.d (keS1 z)) g57.2.2.1), .fix 54 (List.map (fun z => SV.d (keS1 z)) g57.2.2.2.1), .fix 82 [.d (di .i64 a0), .d (di .i64 y2), .d (oN eS1 g83), .sl 4 1 0 ((y7).toNat) ((y7).toNat), .d (dfl g57.2.2.2.2.2.1), .sl 5 1 0 ((y10).toNat) ((y10).toNat), .sl 3 1 0 ((y4).toNat) ((y4).toNat), .d (dfl g57.2.2.2.2.2.2)], .fix 49 [.d (di .i64 x61.Kind), .d (di .i64 x61.Layout), .d (di .i64 x61.SRID), .d (eS1 x61.Flat), .d (eS2 x61.Ends), .d (eS3 x61.Endss), .d (eS0 x61.Kids)], .dead, .fix 49 [.d (di .i64 x61.Kind), .d (di .i64 x61.Layout), .d (di .i64 x61.SRID), .d (eS1 x61.Flat), .d (eS2 x61.Ends), .d (eS3 x61.Endss), .d (eS0 x61.Kids)], .fix 92 [.d (di .i64 y72.geom2.geom1.geom0.layout), .d (di .i64 y72.geom2.geom1.geom0.stride), .d (eS1 y72.geom2.geom1.geom0.flatCoords), .d (di .i64 x61.SRID), .d (eS2 y72.geom2.ends)], .dead, .frame fr75 [(4, .ptr 0 0), (5, .ptr 1 0), (6, .ptr 6 0), (12, .d (eS0 a1)), (13, .d (di .i64 ((a1.length : Nat) : Int))), (14, .d (di .i64 g57.1))], .dead, .dead]) (e' := [(0, .ptr 6 0), (1, .ptr 10 0)]) (r := .tu []) rfl rfl rfl ?_
    change AO _ _ _ _ _
    refine AO.objs (obs' := [.fix 40 [.d (.v (.slice none 0 0))], .fix 4 [.d (dbool false)], .dead, .fix 54 (List.map (fun z => SV.d (keS1 z)) g57.2.1), .fix 54 (List.map (fun z => SV.d (keS1 z)) g57.2.2.1), .fix 54 (List.map (fun z => SV.d (keS1 z)) g57.2.2.2.1), .fix 82 [.d (di .i64 a0), .d (di .i64 y2), .d (oN eS1 g83), .sl 4 1 0 ((y7).toNat) ((y7).toNat), .d (dfl g57.2.2.2.2.2.1), .sl 5 1 0 ((y10).toNat) ((y10).toNat), .sl 3 1 0 ((y4).toNat) ((y4).toNat), .d (dfl g57.2.2.2.2.2.2)], .fix 49 [.d (di .i64 x61.Kind), .d (di .i64 x61.Layout), .d (di .i64 x61.SRID), .d (eS1 x61.Flat), .d (eS2 x61.Ends), .d (eS3 x61.Endss), .d (eS0 x61.Kids)], .dead, .fix 49 [.d (di .i64 x61.Kind), .d (di .i64 x61.Layout), .d (di .i64 x61.SRID), .d (eS1 x61.Flat), .d (eS2 x61.Ends), .d (eS3 x61.Endss), .d (eS0 x61.Kids)], .fix 92 [.d (di .i64 y72.geom2.geom1.geom0.layout), .d (di .i64 y72.geom2.geom1.geom0.stride), .d (eS1 y72.geom2.geom1.geom0.flatCoords), .d (di .i64 x61.SRID), .d (eS2 y72.geom2.ends)], .dead, .frame fr75 [(4, .ptr 0 0), (5, .ptr 1 0), (6, .ptr 6 0), (12, .d (eS0 a1)), (13, .d (di .i64 ((a1.length : Nat) : Int))), (14, .d (di .i64 g57.1))], .dead, .dead]) rfl ?_
    refine AO.nil ?_
    change AC _ _ _ _
    refine AC.seq ?_
    refine AC.region ?_
    refine AO.op rfl (AOp.move rfl rfl (ltb rfl) rfl ?_)
    refine AO.op rfl (AOp.move rfl rfl (ltb rfl) rfl ?_)
    refine AO.op rfl (AOp.inl [0, 1, 12] (by kernel_rfl) Tryz.func40 rfl Tryz.ntmps40 rfl rfl (ltb rfl) rfl (leb rfl) rfl ?_)
    intro fr84
    refine AC.seq ?_
    refine AC.region ?_
    refine AO.op rfl (AOp.assign rfl rfl (ltb rfl) rfl ?_)
    refine AO.objs (obs' := [.fix 40 [.d (.v (.slice none 0 0))], .fix 4 [.d (dbool false)], .dead, .fix 54 (List.map (fun z => SV.d (keS1 z)) g57.2.1), .fix 54 (List.map (fun z => SV.d (keS1 z)) g57.2.2.1), .fix 54 (List.map (fun z => SV.d (keS1 z)) g57.2.2.2.1), .fix 82 [.d (di .i64 a0), .d (di .i64 y2), .d (oN eS1 g83), .sl 4 1 0 ((y7).toNat) ((y7).toNat), .d (dfl g57.2.2.2.2.2.1), .sl 5 1 0 ((y10).toNat) ((y10).toNat), .sl 3 1 0 ((y4).toNat) ((y4).toNat), .d (dfl g57.2.2.2.2.2.2)], .fix 49 [.d (di .i64 x61.Kind), .d (di .i64 x61.Layout), .d (di .i64 x61.SRID), .d (eS1 x61.Flat), .d (eS2 x61.Ends), .d (eS3 x61.Endss), .d (eS0 x61.Kids)], .dead, .fix 49 [.d (di .i64 x61.Kind), .d (di .i64 x61.Layout), .d (di .i64 x61.SRID), .d (eS1 x61.Flat), .d (eS2 x61.Ends), .d (eS3 x61.Endss), .d (eS0 x61.Kids)], .fix 92 [.d (di .i64 y72.geom2.geom1.geom0.layout), .d (di .i64 y72.geom2.geom1.geom0.stride), .d (eS1 y72.geom2.geom1.geom0.flatCoords), .d (di .i64 x61.SRID), .d (eS2 y72.geom2.ends)], .dead, .frame fr75 [(4, .ptr 0 0), (5, .ptr 1 0), (6, .ptr 6 0), (12, .d (eS0 a1)), (13, .d (di .i64 ((a1.length : Nat) : Int))), (14, .d (di .i64 g57.1))], .dead, .dead, .frame fr84 [(0, .ptr 6 0), (1, .ptr 10 0), (12, .ptr 6 0)]]) rfl ?_
    refine AO.nil ?_
    change AC _ _ _ _
    refine AC.seq ?_
    refine AC.region ?_
    refine AO.op rfl (AOp.assign rfl rfl (ltb rfl) rfl ?_)
    refine AO.nil ?_
    change AC _ _ _ _
    refine AC.joinP (V := Int) [0, 1] [5] 16 (fun g85 => [(5, .d (di .i64 g85))]) (fun g85 => [.fix 40 [.d (.v (.slice none 0 0))], .fix 4 [.d (dbool false)], .dead, .fix 54 (List.map (fun z => SV.d (keS1 z)) g57.2.1), .fix 54 (List.map (fun z => SV.d (keS1 z)) g57.2.2.1), .fix 54 (List.map (fun z => SV.d (keS1 z)) g57.2.2.2.1), .fix 82 [.d (di .i64 a0), .d (di .i64 y2), .d (oN eS1 g83), .sl 4 1 0 ((y7).toNat) ((y7).toNat), .d (dfl g57.2.2.2.2.2.1), .sl 5 1 0 ((y10).toNat) ((y10).toNat), .sl 3 1 0 ((y4).toNat) ((y4).toNat), .d (dfl g57.2.2.2.2.2.2)], .fix 49 [.d (di .i64 x61.Kind), .d (di .i64 x61.Layout), .d (di .i64 x61.SRID), .d (eS1 x61.Flat), .d (eS2 x61.Ends), .d (eS3 x61.Endss), .d (eS0 x61.Kids)], .dead, .fix 49 [.d (di .i64 x61.Kind), .d (di .i64 x61.Layout), .d (di .i64 x61.SRID), .d (eS1 x61.Flat), .d (eS2 x61.Ends), .d (eS3 x61.Endss), .d (eS0 x61.Kids)], .fix 92 [.d (di .i64 y72.geom2.geom1.geom0.layout), .d (di .i64 y72.geom2.geom1.geom0.stride), .d (eS1 y72.geom2.geom1.geom0.flatCoords), .d (di .i64 x61.SRID), .d (eS2 y72.geom2.ends)], .dead, .frame fr75 [(4, .ptr 0 0), (5, .ptr 1 0), (6, .ptr 6 0), (12, .d (eS0 a1)), (13, .d (di .i64 ((a1.length : Nat) : Int))), (14, .d (di .i64 g57.1))], .dead, .dead, .frame fr84 [(0, .ptr 6 0), (1, .ptr 10 0), (12, .ptr 6 0)]]) (fun g85 => (p_PolygonsCentroid_k4 a0 F y2 y4 y7 y10 g57 (iter (p_PolygonsCentroid_l2 a0 a1 F y2 y4 y7 y10) n59) y72 g83) g85 = some o13) rfl ?_ ?_
    ·refine AC.seq ?_
     refine AC.region ?_
     refine AO.op rfl (AOp.move rfl rfl (ltb rfl) rfl ?_)
     refine AO.op rfl (AOp.igtr rfl rfl (ltb rfl) rfl rfl ?_)
     refine AO.nil ?_
     change AC _ _ _ _
     refine AC.cond rfl (fun q492 => ?_) (fun q492 => ?_)
     ·replace h1 := cT h1 q492
      refine AC.region ?_
      refine AO.op rfl (AOp.move rfl rfl (ltb rfl) rfl ?_)
      refine AO.op rfl (AOp.nilCheck rfl rfl (ltb rfl) rfl rfl ?_)
      refine AO.op rfl (AOp.fieldAddr rfl rfl (ltb rfl) rfl fo92_0 ?_)
      refine AO.op rfl (AOp.fieldAddr rfl rfl (ltb rfl) rfl fo90_1 ?_)
      refine AO.op rfl (AOp.load1 rfl rfl (ltb rfl) rfl agg46 rfl rfl ?_)
      refine AO.op rfl (AOp.move rfl rfl (ltb rfl) rfl ?_)
      obtain ⟨q493, h1⟩ := need_elim h1
      refine AO.op rfl (AOp.isub rfl rfl (ltb rfl) rfl rfl rfl q493.1 q493.2 ?_)
      obtain ⟨x494, q495, h1⟩ := idx_elim h1
      refine AO.op rfl (AOp.indexDs (cells := (List.map keS2 y72.geom2.ends)) rfl rfl (ltb rfl) rfl rfl el46 (by decide) q495.1 (lt1 q495.2) ?_)
      refine AO.op rfl (AOp.loadEp rfl rfl (ltb rfl) rfl agg3 (at1 q495.2) ?_)
      refine AO.op rfl (AOp.assign rfl rfl (ltb rfl) rfl ?_)
      refine AO.nil ?_
      exact ⟨x494, _, rfl, (LeL.refl _), rfl, (okU_mk rfl (okU_cons rfl (okU_cons rfl (okU_cons rfl (okU_cons (okU_fixl (fun _ => rfl)) (okU_cons (okU_fixl (fun _ => rfl)) (okU_cons (okU_fixl (fun _ => rfl)) (okU_cons rfl (okU_cons rfl (okU_cons rfl (okU_cons rfl (okU_cons rfl (okU_cons rfl (okU_cons rfl (okU_cons rfl (okU_cons rfl (okU_cons rfl okU_nil))))))))))))))))), h1⟩
     replace h1 := cF h1 q492
     refine AC.skip ?_
     exact ⟨(0 : Int), _, rfl, (LeL.refl _), rfl, (okU_mk rfl (okU_cons rfl (okU_cons rfl (okU_cons rfl (okU_cons (okU_fixl (fun _ => rfl)) (okU_cons (okU_fixl (fun _ => rfl)) (okU_cons (okU_fixl (fun _ => rfl)) (okU_cons rfl (okU_cons rfl (okU_cons rfl (okU_cons rfl (okU_cons rfl (okU_cons rfl (okU_cons rfl (okU_cons rfl (okU_cons rfl (okU_cons rfl okU_nil))))))))))))))))), h1⟩
    intro g85 h1
    unfold p_PolygonsCentroid_k4 at h1
    refine AC.seq ?_
    obtain ⟨x86, q87, h1⟩ := idx_elim h1
    obtain ⟨q88, h1⟩ := need_elim h1
    refine AC.drawS [0, 1, 2, 3, 4, 5, 6, 7, 8, 9, 10, 11, 12, 13, 14, 15, 16, 17, 18, 19, 20, 21, 22, 23] [] [24, 25] (fun L => [.fix 40 [.d (.v (.slice none 0 0))], .fix 4 [.d (dbool false)], .dead, .fix 54 (List.map (fun z => SV.d (keS1 z)) g57.2.1), .fix 54 (List.map (fun z => SV.d (keS1 z)) g57.2.2.1), .fix 54 (List.map (fun z => SV.d (keS1 z)) g57.2.2.2.1), .fix 82 [.d (di .i64 a0), .d (di .i64 y2), .d (oN eS1 g83), .sl 4 1 0 ((y7).toNat) ((y7).toNat), .d (dfl g57.2.2.2.2.2.1), .sl 5 1 0 ((y10).toNat) ((y10).toNat), .sl 3 1 0 ((y4).toNat) ((y4).toNat), .d (dfl g57.2.2.2.2.2.2)], .fix 49 [.d (di .i64 x61.Kind), .d (di .i64 x61.Layout), .d (di .i64 x61.SRID), .d (eS1 x61.Flat), .d (eS2 x61.Ends), .d (eS3 x61.Endss), .d (eS0 x61.Kids)], .dead, .fix 49 [.d (di .i64 x61.Kind), .d (di .i64 x61.Layout), .d (di .i64 x61.SRID), .d (eS1 x61.Flat), .d (eS2 x61.Ends), .d (eS3 x61.Endss), .d (eS0 x61.Kids)], .fix 92 [.d (di .i64 y72.geom2.geom1.geom0.layout), .d (di .i64 y72.geom2.geom1.geom0.stride), .d (eS1 y72.geom2.geom1.geom0.flatCoords), .d (di .i64 x61.SRID), .d (eS2 y72.geom2.ends)], .dead, .frame fr75 [(4, .ptr 0 0), (5, .ptr 1 0), (6, .ptr 6 0), (12, .d (eS0 a1)), (13, .d (di .i64 ((a1.length : Nat) : Int))), (14, .d (di .i64 g57.1))], .dead, .dead, .frame fr84 [(0, .ptr 6 0), (1, .ptr 10 0), (12, .ptr 6 0)]]) [] mixed (by kernel_rfl) (fun _ _ _ => rfl) rfl ?_
    refine AS.op [0] [] [] [] rfl rfl rfl (by kernel_rfl) (by kernel_rfl) rfl rfl (fun _ _ _ h => AOp.move rfl rfl (ltb rfl) rfl h) (by kernel_rfl) ?_
    refine AS.op [17] [] [] [] rfl rfl rfl (by kernel_rfl) (by kernel_rfl) rfl rfl (fun _ _ _ h => AOp.nilCheck rfl rfl (ltb rfl) rfl rfl h) (by kernel_rfl) ?_
    refine AS.op [18] [] [] [] rfl rfl rfl (by kernel_rfl) (by kernel_rfl) rfl rfl (fun _ _ _ h => AOp.fieldAddr rfl rfl (ltb rfl) rfl fo92_0 h) (by kernel_rfl) ?_
    refine AS.op [19] [] [] [] rfl rfl rfl (by kernel_rfl) (by kernel_rfl) rfl rfl (fun _ _ _ h => AOp.fieldAddr rfl rfl (ltb rfl) rfl fo90_0 h) (by kernel_rfl) ?_
    refine AS.op [20] [] [] [] rfl rfl rfl (by kernel_rfl) (by kernel_rfl) rfl rfl (fun _ _ _ h => AOp.fieldAddr rfl rfl (ltb rfl) rfl fo88_0 h) (by kernel_rfl) ?_
    refine AS.op [21] [] [] [] rfl rfl rfl (by kernel_rfl) (by kernel_rfl) rfl rfl (fun _ _ _ h => AOp.fieldAddr rfl rfl (ltb rfl) rfl fo86_0 h) (by kernel_rfl) ?_
    refine AS.op [22] [] [] [] rfl rfl rfl (by kernel_rfl) (by kernel_rfl) rfl rfl (fun _ _ _ h => AOp.load1 rfl rfl (ltb rfl) rfl agg62 rfl rfl h) (by kernel_rfl) ?_
    refine AS.op [0] [] [] [] rfl rfl rfl (by kernel_rfl) (by kernel_rfl) rfl rfl (fun _ _ _ h => AOp.move rfl rfl (ltb rfl) rfl h) (by kernel_rfl) ?_
    refine AS.op [24] [] [] [] rfl rfl rfl (by kernel_rfl) (by kernel_rfl) rfl rfl (fun _ _ _ h => AOp.nilCheck rfl rfl (ltb rfl) rfl rfl h) (by kernel_rfl) ?_
    refine AS.op [25] [] [] [] rfl rfl rfl (by kernel_rfl) (by kernel_rfl) rfl rfl (fun _ _ _ h => AOp.fieldAddr rfl rfl (ltb rfl) rfl fo92_0 h) (by kernel_rfl) ?_
    refine AS.op [26] [] [] [] rfl rfl rfl (by kernel_rfl) (by kernel_rfl) rfl rfl (fun _ _ _ h => AOp.fieldAddr rfl rfl (ltb rfl) rfl fo90_0 h) (by kernel_rfl) ?_
    refine AS.op [27] [] [] [] rfl rfl rfl (by kernel_rfl) (by kernel_rfl) rfl rfl (fun _ _ _ h => AOp.fieldAddr rfl rfl (ltb rfl) rfl fo88_0 h) (by kernel_rfl) ?_
    refine AS.op [28] [] [] [] rfl rfl rfl (by kernel_rfl) (by kernel_rfl) rfl rfl (fun _ _ _ h => AOp.fieldAddr rfl rfl (ltb rfl) rfl fo86_2 h) (by kernel_rfl) ?_
    refine AS.op [29] [] [] [] rfl rfl rfl (by kernel_rfl) (by kernel_rfl) rfl rfl (fun _ _ _ h => AOp.load1 rfl rfl (ltb rfl) rfl agg40 rfl rfl h) (by kernel_rfl) ?_
    refine AS.op [5] [] [] [] rfl rfl rfl (by kernel_rfl) (by kernel_rfl) rfl rfl (fun _ _ _ h => AOp.move rfl rfl (ltb rfl) rfl h) (by kernel_rfl) ?_
    refine AS.op [0] [] [] [] rfl rfl rfl (by kernel_rfl) (by kernel_rfl) rfl rfl (fun _ _ _ h => AOp.move rfl rfl (ltb rfl) rfl h) (by kernel_rfl) ?_
    refine AS.op [32] [] [] [] rfl rfl rfl (by kernel_rfl) (by kernel_rfl) rfl rfl (fun _ _ _ h => AOp.nilCheck rfl rfl (ltb rfl) rfl rfl h) (by kernel_rfl) ?_
    refine AS.op [33] [] [] [] rfl rfl rfl (by kernel_rfl) (by kernel_rfl) rfl rfl (fun _ _ _ h => AOp.fieldAddr rfl rfl (ltb rfl) rfl fo92_0 h) (by kernel_rfl) ?_
    refine AS.op [34] [] [] [] rfl rfl rfl (by kernel_rfl) (by kernel_rfl) rfl rfl (fun _ _ _ h => AOp.fieldAddr rfl rfl (ltb rfl) rfl fo90_1 h) (by kernel_rfl) ?_
    refine AS.op [35] [] [] [] rfl rfl rfl (by kernel_rfl) (by kernel_rfl) rfl rfl (fun _ _ _ h => AOp.load1 rfl rfl (ltb rfl) rfl agg46 rfl rfl h) (by kernel_rfl) ?_
    refine AS.op [1] [] [] [] rfl rfl rfl (by kernel_rfl) (by kernel_rfl) rfl rfl (fun _ _ _ h => AOp.move rfl rfl (ltb rfl) rfl h) (by kernel_rfl) ?_
    refine AS.op [36, 37] [] [] [] rfl rfl rfl (by kernel_rfl) (by kernel_rfl) rfl rfl (fun _ _ _ h => AOp.indexDs (cells := (List.map keS2 y72.geom2.ends)) rfl rfl (ltb rfl) rfl rfl el46 (by decide) q87.1 (lt1 q87.2) h) (by kernel_rfl) ?_
    refine AS.op [38] [] [] [] rfl rfl rfl (by kernel_rfl) (by kernel_rfl) rfl rfl (fun _ _ _ h => AOp.loadEp rfl rfl (ltb rfl) rfl agg3 (at1 q87.2) h) (by kernel_rfl) ?_
    refine AS.op [30, 31, 39] [] [] [] rfl rfl rfl (by kernel_rfl) (by kernel_rfl) rfl rfl (fun _ _ _ h => AOp.sliceD (cells := (List.map keS1 y72.geom2.geom1.geom0.flatCoords)) (n := y72.geom2.geom1.geom0.flatCoords.length) (l := (g85).toNat) (hh := (x86).toNat) rfl rfl (ltb rfl) rfl (.inr ⟨_, _, _, rfl, rfl, q88.1.1, rfl⟩) (.inr ⟨_, _, _, rfl, rfl, q88.1.2, rfl⟩) el40 (by decide) (len1 _ _) q88.2.1 q88.2.2 (sub1 _ _ _ _) h) (by kernel_rfl) ?_
    refine AS.done ?_
    refine AO.objs (obs' := [.fix 40 [.d (.v (.slice none 0 0))], .fix 4 [.d (dbool false)], .dead, .fix 54 (List.map (fun z => SV.d (keS1 z)) g57.2.1), .fix 54 (List.map (fun z => SV.d (keS1 z)) g57.2.2.1), .fix 54 (List.map (fun z => SV.d (keS1 z)) g57.2.2.2.1), .fix 82 [.d (di .i64 a0), .d (di .i64 y2), .d (oN eS1 g83), .sl 4 1 0 ((y7).toNat) ((y7).toNat), .d (dfl g57.2.2.2.2.2.1), .sl 5 1 0 ((y10).toNat) ((y10).toNat), .sl 3 1 0 ((y4).toNat) ((y4).toNat), .d (dfl g57.2.2.2.2.2.2)], .fix 49 [.d (di .i64 x61.Kind), .d (di .i64 x61.Layout), .d (di .i64 x61.SRID), .d (eS1 x61.Flat), .d (eS2 x61.Ends), .d (eS3 x61.Endss), .d (eS0 x61.Kids)], .dead, .fix 49 [.d (di .i64 x61.Kind), .d (di .i64 x61.Layout), .d (di .i64 x61.SRID), .d (eS1 x61.Flat), .d (eS2 x61.Ends), .d (eS3 x61.Endss), .d (eS0 x61.Kids)], .fix 92 [.d (di .i64 y72.geom2.geom1.geom0.layout), .d (di .i64 y72.geom2.geom1.geom0.stride), .d (eS1 y72.geom2.geom1.geom0.flatCoords), .d (di .i64 x61.SRID), .d (eS2 y72.geom2.ends)], .dead, .frame fr75 [(4, .ptr 0 0), (5, .ptr 1 0), (6, .ptr 6 0), (12, .d (eS0 a1)), (13, .d (di .i64 ((a1.length : Nat) : Int))), (14, .d (di .i64 g57.1))], .dead, .dead, .frame fr84 [(0, .ptr 6 0), (1, .ptr 10 0), (12, .ptr 6 0)]]) rfl ?_
    obtain ⟨y89, q90, h1⟩ := bind_elim h1
    refine AO.op rfl (AOp.callA rfl rfl (ltb rfl) rfl rfl (wa_NewLinearRingFlat y72.geom2.geom1.geom0.layout ((y72.geom2.geom1.geom0.flatCoords.drop (g85).toNat).take ((x86).toNat - (g85).toNat)) y89 q90) ?_)
    refine AO.op rfl (AOp.assign rfl rfl (ltb rfl) rfl ?_)
    refine AO.nil ?_
    change AC _ _ _ _
    refine AC.ret ?_
    refine inlret (ob' := [.fix 40 [.d (.v (.slice none 0 0))], .fix 4 [.d (dbool false)], .dead, .fix 54 (List.map (fun z => SV.d (keS1 z)) g57.2.1), .fix 54 (List.map (fun z => SV.d (keS1 z)) g57.2.2.1), .fix 54 (List.map (fun z => SV.d (keS1 z)) g57.2.2.2.1), .fix 82 [.d (di .i64 a0), .d (di .i64 y2), .d (oN eS1 g83), .sl 4 1 0 ((y7).toNat) ((y7).toNat), .d (dfl g57.2.2.2.2.2.1), .sl 5 1 0 ((y10).toNat) ((y10).toNat), .sl 3 1 0 ((y4).toNat) ((y4).toNat), .d (dfl g57.2.2.2.2.2.2)], .fix 49 [.d (di .i64 x61.Kind), .d (di .i64 x61.Layout), .d (di .i64 x61.SRID), .d (eS1 x61.Flat), .d (eS2 x61.Ends), .d (eS3 x61.Endss), .d (eS0 x61.Kids)], .dead, .fix 49 [.d (di .i64 x61.Kind), .d (di .i64 x61.Layout), .d (di .i64 x61.SRID), .d (eS1 x61.Flat), .d (eS2 x61.Ends), .d (eS3 x61.Endss), .d (eS0 x61.Kids)], .fix 92 [.d (di .i64 y72.geom2.geom1.geom0.layout), .d (di .i64 y72.geom2.geom1.geom0.stride), .d (eS1 y72.geom2.geom1.geom0.flatCoords), .d (di .i64 x61.SRID), .d (eS2 y72.geom2.ends)], .dead, .frame fr75 [(4, .ptr 0 0), (5, .ptr 1 0), (6, .ptr 6 0), (12, .d (eS0 a1)), (13, .d (di .i64 ((a1.length : Nat) : Int))), (14, .d (di .i64 g57.1))], .dead, .dead, .dead, .fix 98 [.d (di .i64 y89.geom1.geom0.layout), .d (di .i64 y89.geom1.geom0.stride), .d (eS1 y89.geom1.geom0.flatCoords), .d (di .i64 y89.geom1.geom0.srid)]]) (e' := [(0, .ptr 6 0), (1, .ptr 10 0), (12, .ptr 6 0)]) (r := .ptr 16 0) rfl rfl rfl ?_
    change AO _ _ _ _ _
    refine AO.op rfl (AOp.nilCheck rfl rfl (ltb rfl) rfl rfl ?_)
    refine AO.op rfl (AOp.fieldAddr rfl rfl (ltb rfl) rfl fo98_0 ?_)
    refine AO.op rfl (AOp.fieldAddr rfl rfl (ltb rfl) rfl fo88_0 ?_)
    refine AO.op rfl (AOp.inl [0, 1, 12] (by kernel_rfl) Tryz.func41 rfl Tryz.ntmps41 rfl rfl (ltb rfl) rfl (leb rfl) rfl ?_)
    intro fr91
    refine AC.seq ?_
    refine AC.region ?_
    refine AO.op rfl (AOp.assign rfl rfl (ltb rfl) rfl ?_)
    refine AO.objs (obs' := [.fix 40 [.d (.v (.slice none 0 0))], .fix 4 [.d (dbool false)], .dead, .fix 54 (List.map (fun z => SV.d (keS1 z)) g57.2.1), .fix 54 (List.map (fun z => SV.d (keS1 z)) g57.2.2.1), .fix 54 (List.map (fun z => SV.d (keS1 z)) g57.2.2.2.1), .fix 82 [.d (di .i64 a0), .d (di .i64 y2), .d (oN eS1 g83), .sl 4 1 0 ((y7).toNat) ((y7).toNat), .d (dfl g57.2.2.2.2.2.1), .sl 5 1 0 ((y10).toNat) ((y10).toNat), .sl 3 1 0 ((y4).toNat) ((y4).toNat), .d (dfl g57.2.2.2.2.2.2)], .fix 49 [.d (di .i64 x61.Kind), .d (di .i64 x61.Layout), .d (di .i64 x61.SRID), .d (eS1 x61.Flat), .d (eS2 x61.Ends), .d (eS3 x61.Endss), .d (eS0 x61.Kids)], .dead, .fix 49 [.d (di .i64 x61.Kind), .d (di .i64 x61.Layout), .d (di .i64 x61.SRID), .d (eS1 x61.Flat), .d (eS2 x61.Ends), .d (eS3 x61.Endss), .d (eS0 x61.Kids)], .fix 92 [.d (di .i64 y72.geom2.geom1.geom0.layout), .d (di .i64 y72.geom2.geom1.geom0.stride), .d (eS1 y72.geom2.geom1.geom0.flatCoords), .d (di .i64 x61.SRID), .d (eS2 y72.geom2.ends)], .dead, .frame fr75 [(4, .ptr 0 0), (5, .ptr 1 0), (6, .ptr 6 0), (12, .d (eS0 a1)), (13, .d (di .i64 ((a1.length : Nat) : Int))), (14, .d (di .i64 g57.1))], .dead, .dead, .dead, .fix 98 [.d (di .i64 y89.geom1.geom0.layout), .d (di .i64 y89.geom1.geom0.stride), .d (eS1 y89.geom1.geom0.flatCoords), .d (di .i64 y89.geom1.geom0.srid)], .frame fr91 [(0, .ptr 6 0), (1, .ptr 10 0), (12, .ptr 6 0)]]) rfl ?_
    refine AO.nil ?_
    change AC _ _ _ _
    refine AC.seq ?_
    refine AC.region ?_
    refine AO.op rfl (AOp.move rfl rfl (ltb rfl) rfl ?_)
    refine AO.op rfl (AOp.nilCheck rfl rfl (ltb rfl) rfl rfl ?_)
    refine AO.op rfl (AOp.fieldAddr rfl rfl (ltb rfl) rfl fo86_2 ?_)
    refine AO.op rfl (AOp.load1 rfl rfl (ltb rfl) rfl agg40 rfl rfl ?_)
    refine AO.op rfl (AOp.assign rfl rfl (ltb rfl) rfl ?_)
    refine AO.nil ?_
    change AC _ _ _ _
    refine AC.ret ?_
    refine inlret (ob' := [.fix 40 [.d (.v (.slice none 0 0))], .fix 4 [.d (dbool false)], .dead, .fix 54 (List.map (fun z => SV.d (keS1 z)) g57.2.1), .fix 54 (List.map (fun z => SV.d (keS1 z)) g57.2.2.1), .fix 54 (List.map (fun z => SV.d (keS1 z)) g57.2.2.2.1), .fix 82 [.d (di .i64 a0), .d (di .i64 y2), .d (oN eS1 g83), .sl 4 1 0 ((y7).toNat) ((y7).toNat), .d (dfl g57.2.2.2.2.2.1), .sl 5 1 0 ((y10).toNat) ((y10).toNat), .sl 3 1 0 ((y4).toNat) ((y4).toNat), .d (dfl g57.2.2.2.2.2.2)], .fix 49 [.d (di .i64 x61.Kind), .d (di .i64 x61.Layout), .d (di .i64 x61.SRID), .d (eS1 x61.Flat), .d (eS2 x61.Ends), .d (eS3 x61.Endss), .d (eS0 x61.Kids)], .dead, .fix 49 [.d (di .i64 x61.Kind), .d (di .i64 x61.Layout), .d (di .i64 x61.SRID), .d (eS1 x61.Flat), .d (eS2 x61.Ends), .d (eS3 x61.Endss), .d (eS0 x61.Kids)], .fix 92 [.d (di .i64 y72.geom2.geom1.geom0.layout), .d (di .i64 y72.geom2.geom1.geom0.stride), .d (eS1 y72.geom2.geom1.geom0.flatCoords), .d (di .i64 x61.SRID), .d (eS2 y72.geom2.ends)], .dead, .frame fr75 [(4, .ptr 0 0), (5, .ptr 1 0), (6, .ptr 6 0), (12, .d (eS0 a1)), (13, .d (di .i64 ((a1.length : Nat) : Int))), (14, .d (di .i64 g57.1))], .dead, .dead, .dead, .fix 98 [.d (di .i64 y89.geom1.geom0.layout), .d (di .i64 y89.geom1.geom0.stride), .d (eS1 y89.geom1.geom0.flatCoords), .d (di .i64 y89.geom1.geom0.srid)], .dead]) (e' := [(0, .ptr 6 0), (1, .ptr 10 0), (12, .ptr 6 0)]) (r := .d (eS1 y89.geom1.geom0.flatCoords)) rfl rfl rfl ?_
    change AO _ _ _ _ _
    refine AO.op rfl (AOp.inl [0, 1] (by kernel_rfl) Tryz.func39 rfl Tryz.ntmps39 rfl rfl (ltb rfl) rfl (leb rfl) rfl ?_)
    intro fr92
    refine AC.seq ?_
    refine AC.region ?_
    refine AO.op rfl (AOp.move rfl rfl (ltb rfl) rfl ?_)
    refine AO.op rfl (AOp.nilCheck rfl rfl (ltb rfl) rfl rfl ?_)
    refine AO.op rfl (AOp.fieldAddr rfl rfl (ltb rfl) rfl fo82_1 ?_)
    refine AO.op rfl (AOp.load1 rfl rfl (ltb rfl) rfl agg3 rfl rfl ?_)
    refine AO.op rfl (AOp.assign rfl rfl (ltb rfl) rfl ?_)
    refine AO.objs (obs' := [.fix 40 [.d (.v (.slice none 0 0))], .fix 4 [.d (dbool false)], .dead, .fix 54 (List.map (fun z => SV.d (keS1 z)) g57.2.1), .fix 54 (List.map (fun z => SV.d (keS1 z)) g57.2.2.1), .fix 54 (List.map (fun z => SV.d (keS1 z)) g57.2.2.2.1), .fix 82 [.d (di .i64 a0), .d (di .i64 y2), .d (oN eS1 g83), .sl 4 1 0 ((y7).toNat) ((y7).toNat), .d (dfl g57.2.2.2.2.2.1), .sl 5 1 0 ((y10).toNat) ((y10).toNat), .sl 3 1 0 ((y4).toNat) ((y4).toNat), .d (dfl g57.2.2.2.2.2.2)], .fix 49 [.d (di .i64 x61.Kind), .d (di .i64 x61.Layout), .d (di .i64 x61.SRID), .d (eS1 x61.Flat), .d (eS2 x61.Ends), .d (eS3 x61.Endss), .d (eS0 x61.Kids)], .dead, .fix 49 [.d (di .i64 x61.Kind), .d (di .i64 x61.Layout), .d (di .i64 x61.SRID), .d (eS1 x61.Flat), .d (eS2 x61.Ends), .d (eS3 x61.Endss), .d (eS0 x61.Kids)], .fix 92 [.d (di .i64 y72.geom2.geom1.geom0.layout), .d (di .i64 y72.geom2.geom1.geom0.stride), .d (eS1 y72.geom2.geom1.geom0.flatCoords), .d (di .i64 x61.SRID), .d (eS2 y72.geom2.ends)], .dead, .frame fr75 [(4, .ptr 0 0), (5, .ptr 1 0), (6, .ptr 6 0), (12, .d (eS0 a1)), (13, .d (di .i64 ((a1.length : Nat) : Int))), (14, .d (di .i64 g57.1))], .dead, .dead, .dead, .fix 98 [.d (di .i64 y89.geom1.geom0.layout), .d (di .i64 y89.geom1.geom0.stride), .d (eS1 y89.geom1.geom0.flatCoords), .d (di .i64 y89.geom1.geom0.srid)], .dead, .frame fr92 [(0, .ptr 6 0), (1, .ptr 10 0)]]) rfl ?_
    refine AO.nil ?_
    change AC _ _ _ _
    refine AC.seq ?_
    refine AC.region ?_
    refine AO.op rfl (AOp.move rfl rfl (ltb rfl) rfl ?_)
    refine AO.op rfl (AOp.nilCheck rfl rfl (ltb rfl) rfl rfl ?_)
    refine AO.op rfl (AOp.fieldAddr rfl rfl (ltb rfl) rfl fo82_0 ?_)
    refine AO.op rfl (AOp.load1 rfl rfl (ltb rfl) rfl agg62 rfl rfl ?_)
    refine AO.op rfl (AOp.move rfl rfl (ltb rfl) rfl ?_)
    obtain ⟨y93, q94, h1⟩ := bind_elim h1
    refine AO.op rfl (AOp.callD rfl rfl (ltb rfl) rfl rfl (w_IsRingCounterClockwise F a0 y89.geom1.geom0.flatCoords y93 q94) ?_)
    rintro _ rfl
    refine AO.op rfl (AOp.bnot rfl rfl (ltb rfl) rfl ?_)
    refine AO.op rfl (AOp.assign rfl rfl (ltb rfl) rfl ?_)
    refine AO.nil ?_
    change AC _ _ _ _
    refine AC.seq ?_
    refine AC.region ?_
    refine AO.op rfl (AOp.buildOwn rfl rfl (ltb rfl) el69 zero54 rfl (leb rfl) rfl rfl rfl rfl ?_)
    refine AO.op rfl (AOp.assign rfl rfl (ltb rfl) rfl ?_)
    refine AO.nil ?_
    change AC _ _ _ _
    refine AC.seq ?_
    refine AC.region ?_
    refine AO.op rfl (AOp.buildOwn rfl rfl (ltb rfl) el69 zero54 rfl (leb rfl) rfl rfl rfl rfl ?_)
    refine AO.op rfl (AOp.assign rfl rfl (ltb rfl) rfl ?_)
    refine AO.nil ?_
    change AC _ _ _ _
    refine AC.seq ?_
    refine AC.seq ?_
    refine AC.region ?_
    refine AO.op rfl (AOp.assign rfl rfl (ltb rfl) rfl ?_)
    refine AO.nil ?_
    change AC _ _ _ _
    obtain ⟨o95, l96, h1⟩ := bind_elim h1
    refine AC.joinE (V := ((List Nat) × (List Nat) × Nat × (List Nat) × (List Nat))) [0, 1] [] 21 (fun g97 => []) (fun g97 => [.fix 40 [.d (.v (.slice none 0 0))], .fix 4 [.d (dbool false)], .dead, .fix 54 (List.map (fun z => SV.d (keS1 z)) g57.2.1), .fix 54 (List.map (fun z => SV.d (keS1 z)) g97.1), .fix 54 (List.map (fun z => SV.d (keS1 z)) g97.2.1), .fix 82 [.d (di .i64 a0), .d (di .i64 y2), .d (oN eS1 g83), .sl 4 1 0 ((y7).toNat) ((y7).toNat), .d (dfl g97.2.2.1), .sl 5 1 0 ((y10).toNat) ((y10).toNat), .sl 3 1 0 ((y4).toNat) ((y4).toNat), .d (dfl g57.2.2.2.2.2.2)], .fix 49 [.d (di .i64 x61.Kind), .d (di .i64 x61.Layout), .d (di .i64 x61.SRID), .d (eS1 x61.Flat), .d (eS2 x61.Ends), .d (eS3 x61.Endss), .d (eS0 x61.Kids)], .dead, .fix 49 [.d (di .i64 x61.Kind), .d (di .i64 x61.Layout), .d (di .i64 x61.SRID), .d (eS1 x61.Flat), .d (eS2 x61.Ends), .d (eS3 x61.Endss), .d (eS0 x61.Kids)], .fix 92 [.d (di .i64 y72.geom2.geom1.geom0.layout), .d (di .i64 y72.geom2.geom1.geom0.stride), .d (eS1 y72.geom2.geom1.geom0.flatCoords), .d (di .i64 x61.SRID), .d (eS2 y72.geom2.ends)], .dead, .frame fr75 [(4, .ptr 0 0), (5, .ptr 1 0), (6, .ptr 6 0), (12, .d (eS0 a1)), (13, .d (di .i64 ((a1.length : Nat) : Int))), (14, .d (di .i64 g57.1))], .dead, .dead, .dead, .fix 98 [.d (di .i64 y89.geom1.geom0.layout), .d (di .i64 y89.geom1.geom0.stride), .d (eS1 y89.geom1.geom0.flatCoords), .d (di .i64 y89.geom1.geom0.srid)], .dead, .frame fr92 [(0, .ptr 6 0), (1, .ptr 10 0)], .grow 54 1 (List.map keS1 g97.2.2.2.1), .grow 54 1 (List.map keS1 g97.2.2.2.2)]) (fun g97 => (p_PolygonsCentroid_k5 a0 F y2 y4 y7 y10 g57 (iter (p_PolygonsCentroid_l2 a0 a1 F y2 y4 y7 y10) n59) y72 g83 y89) g97 = some o13) rfl ?_ ?_
    ·refine AC.block ?_
     refine AC.loopP (V := (Int × (List Nat) × (List Nat) × (List Nat) × Nat × (List Nat))) (p_PolygonsCentroid_l16 y2 y7 y10 g83 y89 y93) o95 [0, 1, 4, 5, 6, 7] [8] 21 (fun g367 => [(8, .d (di .i64 g367.1))]) (fun g367 => [.fix 40 [.d (.v (.slice none 0 0))], .fix 4 [.d (dbool false)], .dead, .fix 54 (List.map (fun z => SV.d (keS1 z)) g57.2.1), .fix 54 (List.map (fun z => SV.d (keS1 z)) g367.2.2.1), .fix 54 (List.map (fun z => SV.d (keS1 z)) g367.2.2.2.1), .fix 82 [.d (di .i64 a0), .d (di .i64 y2), .d (oN eS1 g83), .sl 4 1 0 ((y7).toNat) ((y7).toNat), .d (dfl g367.2.2.2.2.1), .sl 5 1 0 ((y10).toNat) ((y10).toNat), .sl 3 1 0 ((y4).toNat) ((y4).toNat), .d (dfl g57.2.2.2.2.2.2)], .fix 49 [.d (di .i64 x61.Kind), .d (di .i64 x61.Layout), .d (di .i64 x61.SRID), .d (eS1 x61.Flat), .d (eS2 x61.Ends), .d (eS3 x61.Endss), .d (eS0 x61.Kids)], .dead, .fix 49 [.d (di .i64 x61.Kind), .d (di .i64 x61.Layout), .d (di .i64 x61.SRID), .d (eS1 x61.Flat), .d (eS2 x61.Ends), .d (eS3 x61.Endss), .d (eS0 x61.Kids)], .fix 92 [.d (di .i64 y72.geom2.geom1.geom0.layout), .d (di .i64 y72.geom2.geom1.geom0.stride), .d (eS1 y72.geom2.geom1.geom0.flatCoords), .d (di .i64 x61.SRID), .d (eS2 y72.geom2.ends)], .dead, .frame fr75 [(4, .ptr 0 0), (5, .ptr 1 0), (6, .ptr 6 0), (12, .d (eS0 a1)), (13, .d (di .i64 ((a1.length : Nat) : Int))), (14, .d (di .i64 g57.1))], .dead, .dead, .dead, .fix 98 [.d (di .i64 y89.geom1.geom0.layout), .d (di .i64 y89.geom1.geom0.stride), .d (eS1 y89.geom1.geom0.flatCoords), .d (di .i64 y89.geom1.geom0.srid)], .dead, .frame fr92 [(0, .ptr 6 0), (1, .ptr 10 0)], .grow 54 1 (List.map keS1 g367.2.1), .grow 54 1 (List.map keS1 g367.2.2.2.2.2)]) F ((0 : Int), [(0 : Nat), (0 : Nat)], g57.2.2.1, g57.2.2.2.1, g57.2.2.2.2.2.1, [(0 : Nat), (0 : Nat)]) l96 rfl rfl (LeL.refl _) rfl (okU_mk rfl (okU_cons rfl (okU_cons rfl (okU_cons rfl (okU_cons (okU_fixl (fun _ => rfl)) (okU_cons (okU_fixl (fun _ => rfl)) (okU_cons (okU_fixl (fun _ => rfl)) (okU_cons rfl (okU_cons rfl (okU_cons rfl (okU_cons rfl (okU_cons rfl (okU_cons rfl (okU_cons rfl (okU_cons rfl (okU_cons rfl (okU_cons rfl (okU_cons rfl (okU_cons rfl (okU_cons rfl (okU_cons rfl (okU_cons rfl okU_nil)))))))))))))))))))))) ?_
     intro n369 g367 h2
     unfold p_PolygonsCentroid_l16 at h2
     refine AC.seq ?_
     refine AC.seq ?_
     refine AC.region ?_
     refine AO.op rfl (AOp.move rfl rfl (ltb rfl) rfl ?_)
     refine AO.op rfl (AOp.move rfl rfl (ltb rfl) rfl ?_)
     refine AO.op rfl (AOp.lenDs (n := y89.geom1.geom0.flatCoords.length) (cells := (List.map keS1 y89.geom1.geom0.flatCoords)) rfl rfl (ltb rfl) rfl el40 (by decide) (len1 _ _) ?_)
     refine AO.op rfl (AOp.move rfl rfl (ltb rfl) rfl ?_)
     obtain ⟨q370, h2⟩ := need_elim h2
     refine AO.op rfl (AOp.isub rfl rfl (ltb rfl) rfl rfl rfl q370.1 q370.2 ?_)
     refine AO.op rfl (AOp.ilss rfl rfl (ltb rfl) rfl rfl ?_)
     refine AO.nil ?_
     change AC _ _ _ _
     refine AC.cond rfl (fun q371 => ?_) (fun q371 => ?_)
     ·replace h2 := cT h2 q371
      refine AC.skip ?_
      change AC _ _ _ _
      refine AC.seq ?_
      refine AC.block ?_
      refine AC.seq ?_
      refine AC.region ?_
      refine AO.op rfl (AOp.move rfl rfl (ltb rfl) rfl ?_)
      refine AO.op rfl (AOp.move rfl rfl (ltb rfl) rfl ?_)
      refine AO.op rfl (AOp.move rfl rfl (ltb rfl) rfl ?_)
      obtain ⟨x372, q373, h2⟩ := idx_elim h2
      refine AO.op rfl (AOp.indexDs (cells := (List.map keS1 y89.geom1.geom0.flatCoords)) rfl rfl (ltb rfl) rfl rfl el40 (by decide) q373.1 (lt1 q373.2) ?_)
      refine AO.op rfl (AOp.loadEp rfl rfl (ltb rfl) rfl agg54 (at1 q373.2) ?_)
      obtain ⟨q374, h2⟩ := need_elim h2
      refine AO.op rfl (AOp.indexOwn (cells := (List.map keS1 g367.2.1)) (n := g367.2.1.length) rfl rfl (ltb rfl) rfl rfl el69 rfl (by decide) (len1 _ _) q374.1 q374.2 ?_)
      obtain ⟨q375, h2⟩ := need_elim h2
      refine AO.op rfl (AOp.storeOL (f := keS1) (l := g367.2.1) (i := ((0 : Int)).toNat) (v := x372) rfl rfl rfl rfl size54 rfl rfl rfl q375 ?_)
      refine AO.nil ?_
      change AC _ _ _ _
      refine AC.seq ?_
      refine AC.region ?_
      refine AO.op rfl (AOp.move rfl rfl (ltb rfl) rfl ?_)
      refine AO.op rfl (AOp.move rfl rfl (ltb rfl) rfl ?_)
      refine AO.op rfl (AOp.move rfl rfl (ltb rfl) rfl ?_)
      obtain ⟨q376, h2⟩ := need_elim h2
      refine AO.op rfl (AOp.iadd rfl rfl (ltb rfl) rfl rfl rfl q376.1 q376.2 ?_)
      obtain ⟨x377, q378, h2⟩ := idx_elim h2
      refine AO.op rfl (AOp.indexDs (cells := (List.map keS1 y89.geom1.geom0.flatCoords)) rfl rfl (ltb rfl) rfl rfl el40 (by decide) q378.1 (lt1 q378.2) ?_)
      refine AO.op rfl (AOp.loadEp rfl rfl (ltb rfl) rfl agg54 (at1 q378.2) ?_)
      obtain ⟨q379, h2⟩ := need_elim h2
      refine AO.op rfl (AOp.indexOwn (cells := (List.map keS1 (g367.2.1.set ((0 : Int)).toNat x372))) (n := (g367.2.1.set ((0 : Int)).toNat x372).length) rfl rfl (ltb rfl) rfl rfl el69 rfl (by decide) (len1 _ _) q379.1 q379.2 ?_)
      obtain ⟨q380, h2⟩ := need_elim h2
      refine AO.op rfl (AOp.storeOL (f := keS1) (l := (g367.2.1.set ((0 : Int)).toNat x372)) (i := ((1 : Int)).toNat) (v := x377) rfl rfl rfl rfl size54 rfl rfl rfl q380 ?_)
      refine AO.nil ?_
      change AC _ _ _ _
      refine AC.seq ?_
      refine AC.region ?_
      refine AO.op rfl (AOp.move rfl rfl (ltb rfl) rfl ?_)
      refine AO.op rfl (AOp.move rfl rfl (ltb rfl) rfl ?_)
      refine AO.op rfl (AOp.move rfl rfl (ltb rfl) rfl ?_)
      refine AO.op rfl (AOp.move rfl rfl (ltb rfl) rfl ?_)
      obtain ⟨q381, h2⟩ := need_elim h2
      refine AO.op rfl (AOp.iadd rfl rfl (ltb rfl) rfl rfl rfl q381.1 q381.2 ?_)
      obtain ⟨x382, q383, h2⟩ := idx_elim h2
      refine AO.op rfl (AOp.indexDs (cells := (List.map keS1 y89.geom1.geom0.flatCoords)) rfl rfl (ltb rfl) rfl rfl el40 (by decide) q383.1 (lt1 q383.2) ?_)
      refine AO.op rfl (AOp.loadEp rfl rfl (ltb rfl) rfl agg54 (at1 q383.2) ?_)
      obtain ⟨q384, h2⟩ := need_elim h2
      refine AO.op rfl (AOp.indexOwn (cells := (List.map keS1 g367.2.2.2.2.2)) (n := g367.2.2.2.2.2.length) rfl rfl (ltb rfl) rfl rfl el69 rfl (by decide) (len1 _ _) q384.1 q384.2 ?_)
      obtain ⟨q385, h2⟩ := need_elim h2
      refine AO.op rfl (AOp.storeOL (f := keS1) (l := g367.2.2.2.2.2) (i := ((0 : Int)).toNat) (v := x382) rfl rfl rfl rfl size54 rfl rfl rfl q385 ?_)
      refine AO.nil ?_
      change AC _ _ _ _
      refine AC.seq ?_
      refine AC.region ?_
      refine AO.op rfl (AOp.move rfl rfl (ltb rfl) rfl ?_)
      refine AO.op rfl (AOp.move rfl rfl (ltb rfl) rfl ?_)
      refine AO.op rfl (AOp.move rfl rfl (ltb rfl) rfl ?_)
      refine AO.op rfl (AOp.move rfl rfl (ltb rfl) rfl ?_)
      obtain ⟨q386, h2⟩ := need_elim h2
      refine AO.op rfl (AOp.iadd rfl rfl (ltb rfl) rfl rfl rfl q386.1 q386.2 ?_)
      obtain ⟨q387, h2⟩ := need_elim h2
      refine AO.op rfl (AOp.iadd rfl rfl (ltb rfl) rfl rfl rfl q387.1 q387.2 ?_)
      obtain ⟨x388, q389, h2⟩ := idx_elim h2
      refine AO.op rfl (AOp.indexDs (cells := (List.map keS1 y89.geom1.geom0.flatCoords)) rfl rfl (ltb rfl) rfl rfl el40 (by decide) q389.1 (lt1 q389.2) ?_)
      refine AO.op rfl (AOp.loadEp rfl rfl (ltb rfl) rfl agg54 (at1 q389.2) ?_)
      obtain ⟨q390, h2⟩ := need_elim h2
      refine AO.op rfl (AOp.indexOwn (cells := (List.map keS1 (g367.2.2.2.2.2.set ((0 : Int)).toNat x382))) (n := (g367.2.2.2.2.2.set ((0 : Int)).toNat x382).length) rfl rfl (ltb rfl) rfl rfl el69 rfl (by decide) (len1 _ _) q390.1 q390.2 ?_)
      obtain ⟨q391, h2⟩ := need_elim h2
      refine AO.op rfl (AOp.storeOL (f := keS1) (l := (g367.2.2.2.2.2.set ((0 : Int)).toNat x382)) (i := ((1 : Int)).toNat) (v := x388) rfl rfl rfl rfl size54 rfl rfl rfl q391 ?_)
      refine AO.nil ?_
      change AC _ _ _ _
      refine AC.region ?_
      refine AO.op rfl (AOp.move rfl rfl (ltb rfl) rfl ?_)
      refine AO.op rfl (AOp.move rfl rfl (ltb rfl) rfl ?_)
      refine AO.op rfl (AOp.nilCheck rfl rfl (ltb rfl) rfl rfl ?_)
      refine AO.op rfl (AOp.fieldAddr rfl rfl (ltb rfl) rfl fo82_2 ?_)
      refine AO.op rfl (AOp.load1 rfl rfl (ltb rfl) rfl agg69 rfl rfl ?_)
      refine AO.sub 65 rfl (SVLe.oN (f := eS1) rfl g83) ?_
      refine AO.op rfl (AOp.move rfl rfl (ltb rfl) rfl ?_)
      refine AO.op rfl (AOp.move rfl rfl (ltb rfl) rfl ?_)
      refine AO.op rfl (AOp.move rfl rfl (ltb rfl) rfl ?_)
      refine AO.op rfl (AOp.inl [0, 1, 4, 5, 6, 7, 8] (by kernel_rfl) Tryz.func77 rfl Tryz.ntmps77 rfl rfl (ltb rfl) rfl (leb rfl) rfl ?_)
      intro fr392
      refine AC.seq ?_
      refine AC.region ?_
      refine AO.op rfl (AOp.assign rfl rfl (ltb rfl) rfl ?_)
      refine AO.objs (obs' := [.fix 40 [.d (.v (.slice none 0 0))], .fix 4 [.d (dbool false)], .dead, .fix 54 (List.map (fun z => SV.d (keS1 z)) g57.2.1), .fix 54 (List.map (fun z => SV.d (keS1 z)) g367.2.2.1), .fix 54 (List.map (fun z => SV.d (keS1 z)) g367.2.2.2.1), .fix 82 [.d (di .i64 a0), .d (di .i64 y2), .d (oN eS1 g83), .sl 4 1 0 ((y7).toNat) ((y7).toNat), .d (dfl g367.2.2.2.2.1), .sl 5 1 0 ((y10).toNat) ((y10).toNat), .sl 3 1 0 ((y4).toNat) ((y4).toNat), .d (dfl g57.2.2.2.2.2.2)], .fix 49 [.d (di .i64 x61.Kind), .d (di .i64 x61.Layout), .d (di .i64 x61.SRID), .d (eS1 x61.Flat), .d (eS2 x61.Ends), .d (eS3 x61.Endss), .d (eS0 x61.Kids)], .dead, .fix 49 [.d (di .i64 x61.Kind), .d (di .i64 x61.Layout), .d (di .i64 x61.SRID), .d (eS1 x61.Flat), .d (eS2 x61.Ends), .d (eS3 x61.Endss), .d (eS0 x61.Kids)], .fix 92 [.d (di .i64 y72.geom2.geom1.geom0.layout), .d (di .i64 y72.geom2.geom1.geom0.stride), .d (eS1 y72.geom2.geom1.geom0.flatCoords), .d (di .i64 x61.SRID), .d (eS2 y72.geom2.ends)], .dead, .frame fr75 [(4, .ptr 0 0), (5, .ptr 1 0), (6, .ptr 6 0), (12, .d (eS0 a1)), (13, .d (di .i64 ((a1.length : Nat) : Int))), (14, .d (di .i64 g57.1))], .dead, .dead, .dead, .fix 98 [.d (di .i64 y89.geom1.geom0.layout), .d (di .i64 y89.geom1.geom0.stride), .d (eS1 y89.geom1.geom0.flatCoords), .d (di .i64 y89.geom1.geom0.srid)], .dead, .frame fr92 [(0, .ptr 6 0), (1, .ptr 10 0)], .grow 54 1 (List.map keS1 ((g367.2.1.set ((0 : Int)).toNat x372).set ((1 : Int)).toNat x377)), .grow 54 1 (List.map keS1 ((g367.2.2.2.2.2.set ((0 : Int)).toNat x382).set ((1 : Int)).toNat x388)), .frame fr392 [(0, .ptr 6 0), (1, .d (eS1 y89.geom1.geom0.flatCoords)), (4, .d (di .i64 y2)), (5, .d (dbool (!y93))), (6, .own 19), (7, .own 20), (8, .d (di .i64 g367.1))]]) rfl ?_
      refine AO.nil ?_
      change AC _ _ _ _
      refine AC.joinP (V := Nat) [0, 1, 2, 3] [10] 22 (fun g393 => [(10, .d (dfl g393))]) (fun g393 => [.fix 40 [.d (.v (.slice none 0 0))], .fix 4 [.d (dbool false)], .dead, .fix 54 (List.map (fun z => SV.d (keS1 z)) g57.2.1), .fix 54 (List.map (fun z => SV.d (keS1 z)) g367.2.2.1), .fix 54 (List.map (fun z => SV.d (keS1 z)) g367.2.2.2.1), .fix 82 [.d (di .i64 a0), .d (di .i64 y2), .d (oN eS1 g83), .sl 4 1 0 ((y7).toNat) ((y7).toNat), .d (dfl g367.2.2.2.2.1), .sl 5 1 0 ((y10).toNat) ((y10).toNat), .sl 3 1 0 ((y4).toNat) ((y4).toNat), .d (dfl g57.2.2.2.2.2.2)], .fix 49 [.d (di .i64 x61.Kind), .d (di .i64 x61.Layout), .d (di .i64 x61.SRID), .d (eS1 x61.Flat), .d (eS2 x61.Ends), .d (eS3 x61.Endss), .d (eS0 x61.Kids)], .dead, .fix 49 [.d (di .i64 x61.Kind), .d (di .i64 x61.Layout), .d (di .i64 x61.SRID), .d (eS1 x61.Flat), .d (eS2 x61.Ends), .d (eS3 x61.Endss), .d (eS0 x61.Kids)], .fix 92 [.d (di .i64 y72.geom2.geom1.geom0.layout), .d (di .i64 y72.geom2.geom1.geom0.stride), .d (eS1 y72.geom2.geom1.geom0.flatCoords), .d (di .i64 x61.SRID), .d (eS2 y72.geom2.ends)], .dead, .frame fr75 [(4, .ptr 0 0), (5, .ptr 1 0), (6, .ptr 6 0), (12, .d (eS0 a1)), (13, .d (di .i64 ((a1.length : Nat) : Int))), (14, .d (di .i64 g57.1))], .dead, .dead, .dead, .fix 98 [.d (di .i64 y89.geom1.geom0.layout), .d (di .i64 y89.geom1.geom0.stride), .d (eS1 y89.geom1.geom0.flatCoords), .d (di .i64 y89.geom1.geom0.srid)], .dead, .frame fr92 [(0, .ptr 6 0), (1, .ptr 10 0)], .grow 54 1 (List.map keS1 ((g367.2.1.set ((0 : Int)).toNat x372).set ((1 : Int)).toNat x377)), .grow 54 1 (List.map keS1 ((g367.2.2.2.2.2.set ((0 : Int)).toNat x382).set ((1 : Int)).toNat x388)), .frame fr392 [(0, .ptr 6 0), (1, .d (eS1 y89.geom1.geom0.flatCoords)), (4, .d (di .i64 y2)), (5, .d (dbool (!y93))), (6, .own 19), (7, .own 20), (8, .d (di .i64 g367.1))]]) (fun g393 => (p_PolygonsCentroid_k17 y2 y7 y10 g83 g367 (iter (p_PolygonsCentroid_l16 y2 y7 y10 g83 y89 y93) n369) x372 x377 x382 x388) g393 = some o95) rfl ?_ ?_
      ·refine AC.seq ?_
       refine AC.region ?_
       refine AO.op rfl (AOp.move rfl rfl (ltb rfl) rfl ?_)
       refine AO.nil ?_
       change AC _ _ _ _
       refine AC.cond rfl (fun q491 => ?_) (fun q491 => ?_)
       ·replace h2 := cT h2 q491
        refine AC.region ?_
        refine AO.op rfl (AOp.assign rfl rfl (ltb rfl) rfl ?_)
        refine AO.nil ?_
        exact ⟨(13830554455654793216 : Nat), _, rfl, (LeL.refl _), rfl, (okU_mk rfl (okU_cons rfl (okU_cons rfl (okU_cons rfl (okU_cons (okU_fixl (fun _ => rfl)) (okU_cons (okU_fixl (fun _ => rfl)) (okU_cons (okU_fixl (fun _ => rfl)) (okU_cons rfl (okU_cons rfl (okU_cons rfl (okU_cons rfl (okU_cons rfl (okU_cons rfl (okU_cons rfl (okU_cons rfl (okU_cons rfl (okU_cons rfl (okU_cons rfl (okU_cons rfl (okU_cons rfl (okU_cons rfl (okU_cons rfl (okU_cons rfl okU_nil))))))))))))))))))))))), h2⟩
       replace h2 := cF h2 q491
       refine AC.skip ?_
       exact ⟨(4607182418800017408 : Nat), _, rfl, (LeL.refl _), rfl, (okU_mk rfl (okU_cons rfl (okU_cons rfl (okU_cons rfl (okU_cons (okU_fixl (fun _ => rfl)) (okU_cons (okU_fixl (fun _ => rfl)) (okU_cons (okU_fixl (fun _ => rfl)) (okU_cons rfl (okU_cons rfl (okU_cons rfl (okU_cons rfl (okU_cons rfl (okU_cons rfl (okU_cons rfl (okU_cons rfl (okU_cons rfl (okU_cons rfl (okU_cons rfl (okU_cons rfl (okU_cons rfl (okU_cons rfl (okU_cons rfl (okU_cons rfl okU_nil))))))))))))))))))))))), h2⟩
      intro g393 h2
      unfold p_PolygonsCentroid_k17 at h2
      refine AC.seq ?_
      refine AC.region ?_
      refine AO.op rfl (AOp.move rfl rfl (ltb rfl) rfl ?_)
      refine AO.op rfl (AOp.move rfl rfl (ltb rfl) rfl ?_)
      refine AO.op rfl (AOp.move rfl rfl (ltb rfl) rfl ?_)
      refine AO.op rfl (AOp.move rfl rfl (ltb rfl) rfl ?_)
      refine AO.op rfl (AOp.nilCheck rfl rfl (ltb rfl) rfl rfl ?_)
      refine AO.op rfl (AOp.fieldAddr rfl rfl (ltb rfl) rfl fo82_3 ?_)
      refine AO.op rfl (AOp.load1 rfl rfl (ltb rfl) rfl agg69 rfl rfl ?_)
      refine AO.op rfl (AOp.inl [0, 1, 2, 3, 10] (by kernel_rfl) Tryz.func88 rfl Tryz.ntmps88 rfl rfl (ltb rfl) rfl (leb rfl) rfl ?_)
      intro fr394
      refine AC.seq ?_
      refine AC.draw 13 mixed (by kernel_rfl) ?_
      refine AD.op [3] rfl (by kernel_rfl) rfl rfl (fun _ _ h => AOp.move rfl rfl (ltb rfl) rfl h) ?_
      refine AD.op [0] rfl (by kernel_rfl) rfl rfl (fun _ _ h => AOp.move rfl rfl (ltb rfl) rfl h) ?_
      obtain ⟨x395, q396, h2⟩ := idx_elim h2
      refine AD.op [9] rfl (by kernel_rfl) rfl rfl (fun _ _ h => AOp.indexDs (cells := (List.map keS1 (g83.getD []))) rfl rfl (ltb rfl) rfl rfl el69 (by decide) q396.1 (lt1 q396.2) h) ?_
      refine AD.op [10] rfl (by kernel_rfl) rfl rfl (fun _ _ h => AOp.loadEp rfl rfl (ltb rfl) rfl agg54 (at1 q396.2) h) ?_
      refine AD.op [1] rfl (by kernel_rfl) rfl rfl (fun _ _ h => AOp.move rfl rfl (ltb rfl) rfl h) ?_
      obtain ⟨q397, h2⟩ := need_elim h2
      refine AD.op [12] rfl (by kernel_rfl) rfl rfl (fun _ _ h => AOp.indexOwn (cells := (List.map keS1 ((g367.2.1.set ((0 : Int)).toNat x372).set ((1 : Int)).toNat x377))) (n := ((g367.2.1.set ((0 : Int)).toNat x372).set ((1 : Int)).toNat x377).length) rfl rfl (ltb rfl) rfl rfl el69 rfl (by decide) (len1 _ _) q397.1 q397.2 h) ?_
      obtain ⟨x398, q399, h2⟩ := idx_elim h2
      refine AD.op [13] rfl (by kernel_rfl) rfl rfl (fun _ _ h => AOp.loadO1 rfl rfl (ltb rfl) rfl agg54 rfl (at1 q399.2) h) ?_
      obtain ⟨z400, q401, h2⟩ := bind_elim h2
      refine AD.op [11, 14] rfl (by kernel_rfl) rfl rfl (fun _ _ h => AOp.farith rfl rfl (ltb rfl) rfl rfl q401 h) ?_
      refine AD.op [2] rfl (by kernel_rfl) rfl rfl (fun _ _ h => AOp.move rfl rfl (ltb rfl) rfl h) ?_
      obtain ⟨q402, h2⟩ := need_elim h2
      refine AD.op [16] rfl (by kernel_rfl) rfl rfl (fun _ _ h => AOp.indexOwn (cells := (List.map keS1 ((g367.2.2.2.2.2.set ((0 : Int)).toNat x382).set ((1 : Int)).toNat x388))) (n := ((g367.2.2.2.2.2.set ((0 : Int)).toNat x382).set ((1 : Int)).toNat x388).length) rfl rfl (ltb rfl) rfl rfl el69 rfl (by decide) (len1 _ _) q402.1 q402.2 h) ?_
      obtain ⟨x403, q404, h2⟩ := idx_elim h2
      refine AD.op [17] rfl (by kernel_rfl) rfl rfl (fun _ _ h => AOp.loadO1 rfl rfl (ltb rfl) rfl agg54 rfl (at1 q404.2) h) ?_
      obtain ⟨z405, q406, h2⟩ := bind_elim h2
      refine AD.op [15, 18] rfl (by kernel_rfl) rfl rfl (fun _ _ h => AOp.farith rfl rfl (ltb rfl) rfl rfl q406 h) ?_
      obtain ⟨q407, h2⟩ := need_elim h2
      refine AD.op [8] rfl (by kernel_rfl) rfl rfl (fun _ _ h => AOp.indexSl rfl rfl (ltb rfl) rfl rfl el69 q407.1 q407.2 h) ?_
      refine AD.done ?_
      obtain ⟨q408, h2⟩ := need_elim h2
      refine AO.op rfl (AOp.storeL (f := fun z => SV.d (keS1 z)) (l := g367.2.2.1) (i := ((0 : Int)).toNat) (v := z405) rfl rfl rfl rfl size54 rfl rfl rfl q408 ?_)
      refine AO.objs (obs' := [.fix 40 [.d (.v (.slice none 0 0))], .fix 4 [.d (dbool false)], .dead, .fix 54 (List.map (fun z => SV.d (keS1 z)) g57.2.1), .fix 54 (List.map (fun z => SV.d (keS1 z)) (g367.2.2.1.set ((0 : Int)).toNat z405)), .fix 54 (List.map (fun z => SV.d (keS1 z)) g367.2.2.2.1), .fix 82 [.d (di .i64 a0), .d (di .i64 y2), .d (oN eS1 g83), .sl 4 1 0 ((y7).toNat) ((y7).toNat), .d (dfl g367.2.2.2.2.1), .sl 5 1 0 ((y10).toNat) ((y10).toNat), .sl 3 1 0 ((y4).toNat) ((y4).toNat), .d (dfl g57.2.2.2.2.2.2)], .fix 49 [.d (di .i64 x61.Kind), .d (di .i64 x61.Layout), .d (di .i64 x61.SRID), .d (eS1 x61.Flat), .d (eS2 x61.Ends), .d (eS3 x61.Endss), .d (eS0 x61.Kids)], .dead, .fix 49 [.d (di .i64 x61.Kind), .d (di .i64 x61.Layout), .d (di .i64 x61.SRID), .d (eS1 x61.Flat), .d (eS2 x61.Ends), .d (eS3 x61.Endss), .d (eS0 x61.Kids)], .fix 92 [.d (di .i64 y72.geom2.geom1.geom0.layout), .d (di .i64 y72.geom2.geom1.geom0.stride), .d (eS1 y72.geom2.geom1.geom0.flatCoords), .d (di .i64 x61.SRID), .d (eS2 y72.geom2.ends)], .dead, .frame fr75 [(4, .ptr 0 0), (5, .ptr 1 0), (6, .ptr 6 0), (12, .d (eS0 a1)), (13, .d (di .i64 ((a1.length : Nat) : Int))), (14, .d (di .i64 g57.1))], .dead, .dead, .dead, .fix 98 [.d (di .i64 y89.geom1.geom0.layout), .d (di .i64 y89.geom1.geom0.stride), .d (eS1 y89.geom1.geom0.flatCoords), .d (di .i64 y89.geom1.geom0.srid)], .dead, .frame fr92 [(0, .ptr 6 0), (1, .ptr 10 0)], .grow 54 1 (List.map keS1 ((g367.2.1.set ((0 : Int)).toNat x372).set ((1 : Int)).toNat x377)), .grow 54 1 (List.map keS1 ((g367.2.2.2.2.2.set ((0 : Int)).toNat x382).set ((1 : Int)).toNat x388)), .frame fr392 [(0, .ptr 6 0), (1, .d (eS1 y89.geom1.geom0.flatCoords)), (4, .d (di .i64 y2)), (5, .d (dbool (!y93))), (6, .own 19), (7, .own 20), (8, .d (di .i64 g367.1))], .frame fr394 [(0, .ptr 6 0), (1, .d (eS1 (g83.getD []))), (2, .own 19), (3, .own 20), (10, .d (dfl g393))]]) rfl ?_
      refine AO.nil ?_
      change AC _ _ _ _
      refine AC.draw 13 mixed (by kernel_rfl) ?_
      refine AD.op [3] rfl (by kernel_rfl) rfl rfl (fun _ _ h => AOp.move rfl rfl (ltb rfl) rfl h) ?_
      refine AD.op [0] rfl (by kernel_rfl) rfl rfl (fun _ _ h => AOp.move rfl rfl (ltb rfl) rfl h) ?_
      obtain ⟨x409, q410, h2⟩ := idx_elim h2
      refine AD.op [22] rfl (by kernel_rfl) rfl rfl (fun _ _ h => AOp.indexDs (cells := (List.map keS1 (g83.getD []))) rfl rfl (ltb rfl) rfl rfl el69 (by decide) q410.1 (lt1 q410.2) h) ?_
      refine AD.op [23] rfl (by kernel_rfl) rfl rfl (fun _ _ h => AOp.loadEp rfl rfl (ltb rfl) rfl agg54 (at1 q410.2) h) ?_
      refine AD.op [1] rfl (by kernel_rfl) rfl rfl (fun _ _ h => AOp.move rfl rfl (ltb rfl) rfl h) ?_
      obtain ⟨q411, h2⟩ := need_elim h2
      refine AD.op [25] rfl (by kernel_rfl) rfl rfl (fun _ _ h => AOp.indexOwn (cells := (List.map keS1 ((g367.2.1.set ((0 : Int)).toNat x372).set ((1 : Int)).toNat x377))) (n := ((g367.2.1.set ((0 : Int)).toNat x372).set ((1 : Int)).toNat x377).length) rfl rfl (ltb rfl) rfl rfl el69 rfl (by decide) (len1 _ _) q411.1 q411.2 h) ?_
      obtain ⟨x412, q413, h2⟩ := idx_elim h2
      refine AD.op [26] rfl (by kernel_rfl) rfl rfl (fun _ _ h => AOp.loadO1 rfl rfl (ltb rfl) rfl agg54 rfl (at1 q413.2) h) ?_
      obtain ⟨z414, q415, h2⟩ := bind_elim h2
      refine AD.op [24, 27] rfl (by kernel_rfl) rfl rfl (fun _ _ h => AOp.farith rfl rfl (ltb rfl) rfl rfl q415 h) ?_
      refine AD.op [2] rfl (by kernel_rfl) rfl rfl (fun _ _ h => AOp.move rfl rfl (ltb rfl) rfl h) ?_
      obtain ⟨q416, h2⟩ := need_elim h2
      refine AD.op [29] rfl (by kernel_rfl) rfl rfl (fun _ _ h => AOp.indexOwn (cells := (List.map keS1 ((g367.2.2.2.2.2.set ((0 : Int)).toNat x382).set ((1 : Int)).toNat x388))) (n := ((g367.2.2.2.2.2.set ((0 : Int)).toNat x382).set ((1 : Int)).toNat x388).length) rfl rfl (ltb rfl) rfl rfl el69 rfl (by decide) (len1 _ _) q416.1 q416.2 h) ?_
      obtain ⟨x417, q418, h2⟩ := idx_elim h2
      refine AD.op [30] rfl (by kernel_rfl) rfl rfl (fun _ _ h => AOp.loadO1 rfl rfl (ltb rfl) rfl agg54 rfl (at1 q418.2) h) ?_
      obtain ⟨z419, q420, h2⟩ := bind_elim h2
      refine AD.op [28, 31] rfl (by kernel_rfl) rfl rfl (fun _ _ h => AOp.farith rfl rfl (ltb rfl) rfl rfl q420 h) ?_
      obtain ⟨q421, h2⟩ := need_elim h2
      refine AD.op [21] rfl (by kernel_rfl) rfl rfl (fun _ _ h => AOp.indexSl rfl rfl (ltb rfl) rfl rfl el69 q421.1 q421.2 h) ?_
      refine AD.done ?_
      obtain ⟨q422, h2⟩ := need_elim h2
      refine AO.op rfl (AOp.storeL (f := fun z => SV.d (keS1 z)) (l := (g367.2.2.1.set ((0 : Int)).toNat z405)) (i := ((1 : Int)).toNat) (v := z419) rfl rfl rfl rfl size54 rfl rfl rfl q422 ?_)
      refine AO.nil ?_
      refine inlend (ob' := [.fix 40 [.d (.v (.slice none 0 0))], .fix 4 [.d (dbool false)], .dead, .fix 54 (List.map (fun z => SV.d (keS1 z)) g57.2.1), .fix 54 (List.map (fun z => SV.d (keS1 z)) ((g367.2.2.1.set ((0 : Int)).toNat z405).set ((1 : Int)).toNat z419)), .fix 54 (List.map (fun z => SV.d (keS1 z)) g367.2.2.2.1), .fix 82 [.d (di .i64 a0), .d (di .i64 y2), .d (oN eS1 g83), .sl 4 1 0 ((y7).toNat) ((y7).toNat), .d (dfl g367.2.2.2.2.1), .sl 5 1 0 ((y10).toNat) ((y10).toNat), .sl 3 1 0 ((y4).toNat) ((y4).toNat), .d (dfl g57.2.2.2.2.2.2)], .fix 49 [.d (di .i64 x61.Kind), .d (di .i64 x61.Layout), .d (di .i64 x61.SRID), .d (eS1 x61.Flat), .d (eS2 x61.Ends), .d (eS3 x61.Endss), .d (eS0 x61.Kids)], .dead, .fix 49 [.d (di .i64 x61.Kind), .d (di .i64 x61.Layout), .d (di .i64 x61.SRID), .d (eS1 x61.Flat), .d (eS2 x61.Ends), .d (eS3 x61.Endss), .d (eS0 x61.Kids)], .fix 92 [.d (di .i64 y72.geom2.geom1.geom0.layout), .d (di .i64 y72.geom2.geom1.geom0.stride), .d (eS1 y72.geom2.geom1.geom0.flatCoords), .d (di .i64 x61.SRID), .d (eS2 y72.geom2.ends)], .dead, .frame fr75 [(4, .ptr 0 0), (5, .ptr 1 0), (6, .ptr 6 0), (12, .d (eS0 a1)), (13, .d (di .i64 ((a1.length : Nat) : Int))), (14, .d (di .i64 g57.1))], .dead, .dead, .dead, .fix 98 [.d (di .i64 y89.geom1.geom0.layout), .d (di .i64 y89.geom1.geom0.stride), .d (eS1 y89.geom1.geom0.flatCoords), .d (di .i64 y89.geom1.geom0.srid)], .dead, .frame fr92 [(0, .ptr 6 0), (1, .ptr 10 0)], .grow 54 1 (List.map keS1 ((g367.2.1.set ((0 : Int)).toNat x372).set ((1 : Int)).toNat x377)), .grow 54 1 (List.map keS1 ((g367.2.2.2.2.2.set ((0 : Int)).toNat x382).set ((1 : Int)).toNat x388)), .frame fr392 [(0, .ptr 6 0), (1, .d (eS1 y89.geom1.geom0.flatCoords)), (4, .d (di .i64 y2)), (5, .d (dbool (!y93))), (6, .own 19), (7, .own 20), (8, .d (di .i64 g367.1))], .dead]) (e' := [(0, .ptr 6 0), (1, .d (eS1 (g83.getD []))), (2, .own 19), (3, .own 20), (10, .d (dfl g393))]) (r := .tu []) rfl rfl rfl ?_
      change AO _ _ _ _ _
      refine AO.objs (obs' := [.fix 40 [.d (.v (.slice none 0 0))], .fix 4 [.d (dbool false)], .dead, .fix 54 (List.map (fun z => SV.d (keS1 z)) g57.2.1), .fix 54 (List.map (fun z => SV.d (keS1 z)) ((g367.2.2.1.set ((0 : Int)).toNat z405).set ((1 : Int)).toNat z419)), .fix 54 (List.map (fun z => SV.d (keS1 z)) g367.2.2.2.1), .fix 82 [.d (di .i64 a0), .d (di .i64 y2), .d (oN eS1 g83), .sl 4 1 0 ((y7).toNat) ((y7).toNat), .d (dfl g367.2.2.2.2.1), .sl 5 1 0 ((y10).toNat) ((y10).toNat), .sl 3 1 0 ((y4).toNat) ((y4).toNat), .d (dfl g57.2.2.2.2.2.2)], .fix 49 [.d (di .i64 x61.Kind), .d (di .i64 x61.Layout), .d (di .i64 x61.SRID), .d (eS1 x61.Flat), .d (eS2 x61.Ends), .d (eS3 x61.Endss), .d (eS0 x61.Kids)], .dead, .fix 49 [.d (di .i64 x61.Kind), .d (di .i64 x61.Layout), .d (di .i64 x61.SRID), .d (eS1 x61.Flat), .d (eS2 x61.Ends), .d (eS3 x61.Endss), .d (eS0 x61.Kids)], .fix 92 [.d (di .i64 y72.geom2.geom1.geom0.layout), .d (di .i64 y72.geom2.geom1.geom0.stride), .d (eS1 y72.geom2.geom1.geom0.flatCoords), .d (di .i64 x61.SRID), .d (eS2 y72.geom2.ends)], .dead, .frame fr75 [(4, .ptr 0 0), (5, .ptr 1 0), (6, .ptr 6 0), (12, .d (eS0 a1)), (13, .d (di .i64 ((a1.length : Nat) : Int))), (14, .d (di .i64 g57.1))], .dead, .dead, .dead, .fix 98 [.d (di .i64 y89.geom1.geom0.layout), .d (di .i64 y89.geom1.geom0.stride), .d (eS1 y89.geom1.geom0.flatCoords), .d (di .i64 y89.geom1.geom0.srid)], .dead, .frame fr92 [(0, .ptr 6 0), (1, .ptr 10 0)], .grow 54 1 (List.map keS1 ((g367.2.1.set ((0 : Int)).toNat x372).set ((1 : Int)).toNat x377)), .grow 54 1 (List.map keS1 ((g367.2.2.2.2.2.set ((0 : Int)).toNat x382).set ((1 : Int)).toNat x388)), .frame fr392 [(0, .ptr 6 0), (1, .d (eS1 y89.geom1.geom0.flatCoords)), (4, .d (di .i64 y2)), (5, .d (dbool (!y93))), (6, .own 19), (7, .own 20), (8, .d (di .i64 g367.1))], .dead]) rfl ?_
      refine AO.nil ?_
      change AC _ _ _ _
      refine AC.seq ?_
      refine AC.region ?_
      refine AO.op rfl (AOp.move rfl rfl (ltb rfl) rfl ?_)
      refine AO.op rfl (AOp.move rfl rfl (ltb rfl) rfl ?_)
      refine AO.op rfl (AOp.move rfl rfl (ltb rfl) rfl ?_)
      refine AO.op rfl (AOp.inl [0, 10] (by kernel_rfl) Tryz.func89 rfl Tryz.ntmps89 rfl rfl (ltb rfl) rfl (leb rfl) rfl ?_)
      intro fr423
      refine AC.seq ?_
      refine AC.region ?_
      refine AO.op rfl (AOp.assign rfl rfl (ltb rfl) rfl ?_)
      refine AO.objs (obs' := [.fix 40 [.d (.v (.slice none 0 0))], .fix 4 [.d (dbool false)], .dead, .fix 54 (List.map (fun z => SV.d (keS1 z)) g57.2.1), .fix 54 (List.map (fun z => SV.d (keS1 z)) ((g367.2.2.1.set ((0 : Int)).toNat z405).set ((1 : Int)).toNat z419)), .fix 54 (List.map (fun z => SV.d (keS1 z)) g367.2.2.2.1), .fix 82 [.d (di .i64 a0), .d (di .i64 y2), .d (oN eS1 g83), .sl 4 1 0 ((y7).toNat) ((y7).toNat), .d (dfl g367.2.2.2.2.1), .sl 5 1 0 ((y10).toNat) ((y10).toNat), .sl 3 1 0 ((y4).toNat) ((y4).toNat), .d (dfl g57.2.2.2.2.2.2)], .fix 49 [.d (di .i64 x61.Kind), .d (di .i64 x61.Layout), .d (di .i64 x61.SRID), .d (eS1 x61.Flat), .d (eS2 x61.Ends), .d (eS3 x61.Endss), .d (eS0 x61.Kids)], .dead, .fix 49 [.d (di .i64 x61.Kind), .d (di .i64 x61.Layout), .d (di .i64 x61.SRID), .d (eS1 x61.Flat), .d (eS2 x61.Ends), .d (eS3 x61.Endss), .d (eS0 x61.Kids)], .fix 92 [.d (di .i64 y72.geom2.geom1.geom0.layout), .d (di .i64 y72.geom2.geom1.geom0.stride), .d (eS1 y72.geom2.geom1.geom0.flatCoords), .d (di .i64 x61.SRID), .d (eS2 y72.geom2.ends)], .dead, .frame fr75 [(4, .ptr 0 0), (5, .ptr 1 0), (6, .ptr 6 0), (12, .d (eS0 a1)), (13, .d (di .i64 ((a1.length : Nat) : Int))), (14, .d (di .i64 g57.1))], .dead, .dead, .dead, .fix 98 [.d (di .i64 y89.geom1.geom0.layout), .d (di .i64 y89.geom1.geom0.stride), .d (eS1 y89.geom1.geom0.flatCoords), .d (di .i64 y89.geom1.geom0.srid)], .dead, .frame fr92 [(0, .ptr 6 0), (1, .ptr 10 0)], .grow 54 1 (List.map keS1 ((g367.2.1.set ((0 : Int)).toNat x372).set ((1 : Int)).toNat x377)), .grow 54 1 (List.map keS1 ((g367.2.2.2.2.2.set ((0 : Int)).toNat x382).set ((1 : Int)).toNat x388)), .frame fr392 [(0, .ptr 6 0), (1, .d (eS1 y89.geom1.geom0.flatCoords)), (4, .d (di .i64 y2)), (5, .d (dbool (!y93))), (6, .own 19), (7, .own 20), (8, .d (di .i64 g367.1))], .dead, .frame fr423 [(0, .ptr 6 0), (10, .d (dfl g393))]]) rfl ?_
      refine AO.nil ?_
      change AC _ _ _ _
      refine AC.seq ?_
      refine AC.draw 32 mixed (by kernel_rfl) ?_
      refine AD.op [1] rfl (by kernel_rfl) rfl rfl (fun _ _ h => AOp.move rfl rfl (ltb rfl) rfl h) ?_
      obtain ⟨q424, h2⟩ := need_elim h2
      refine AD.op [7] rfl (by kernel_rfl) rfl rfl (fun _ _ h => AOp.indexOwn (cells := (List.map keS1 ((g367.2.1.set ((0 : Int)).toNat x372).set ((1 : Int)).toNat x377))) (n := ((g367.2.1.set ((0 : Int)).toNat x372).set ((1 : Int)).toNat x377).length) rfl rfl (ltb rfl) rfl rfl el69 rfl (by decide) (len1 _ _) q424.1 q424.2 h) ?_
      obtain ⟨x425, q426, h2⟩ := idx_elim h2
      refine AD.op [8] rfl (by kernel_rfl) rfl rfl (fun _ _ h => AOp.loadO1 rfl rfl (ltb rfl) rfl agg54 rfl (at1 q426.2) h) ?_
      refine AD.op [0] rfl (by kernel_rfl) rfl rfl (fun _ _ h => AOp.move rfl rfl (ltb rfl) rfl h) ?_
      obtain ⟨x427, q428, h2⟩ := idx_elim h2
      refine AD.op [10] rfl (by kernel_rfl) rfl rfl (fun _ _ h => AOp.indexDs (cells := (List.map keS1 (g83.getD []))) rfl rfl (ltb rfl) rfl rfl el69 (by decide) q428.1 (lt1 q428.2) h) ?_
      refine AD.op [11] rfl (by kernel_rfl) rfl rfl (fun _ _ h => AOp.loadEp rfl rfl (ltb rfl) rfl agg54 (at1 q428.2) h) ?_
      obtain ⟨z429, q430, h2⟩ := bind_elim h2
      refine AD.op [9, 12] rfl (by kernel_rfl) rfl rfl (fun _ _ h => AOp.farith rfl rfl (ltb rfl) rfl rfl q430 h) ?_
      refine AD.op [2] rfl (by kernel_rfl) rfl rfl (fun _ _ h => AOp.move rfl rfl (ltb rfl) rfl h) ?_
      obtain ⟨q431, h2⟩ := need_elim h2
      refine AD.op [14] rfl (by kernel_rfl) rfl rfl (fun _ _ h => AOp.indexOwn (cells := (List.map keS1 ((g367.2.2.2.2.2.set ((0 : Int)).toNat x382).set ((1 : Int)).toNat x388))) (n := ((g367.2.2.2.2.2.set ((0 : Int)).toNat x382).set ((1 : Int)).toNat x388).length) rfl rfl (ltb rfl) rfl rfl el69 rfl (by decide) (len1 _ _) q431.1 q431.2 h) ?_
      obtain ⟨x432, q433, h2⟩ := idx_elim h2
      refine AD.op [15] rfl (by kernel_rfl) rfl rfl (fun _ _ h => AOp.loadO1 rfl rfl (ltb rfl) rfl agg54 rfl (at1 q433.2) h) ?_
      refine AD.op [0] rfl (by kernel_rfl) rfl rfl (fun _ _ h => AOp.move rfl rfl (ltb rfl) rfl h) ?_
      obtain ⟨x434, q435, h2⟩ := idx_elim h2
      refine AD.op [17] rfl (by kernel_rfl) rfl rfl (fun _ _ h => AOp.indexDs (cells := (List.map keS1 (g83.getD []))) rfl rfl (ltb rfl) rfl rfl el69 (by decide) q435.1 (lt1 q435.2) h) ?_
      refine AD.op [18] rfl (by kernel_rfl) rfl rfl (fun _ _ h => AOp.loadEp rfl rfl (ltb rfl) rfl agg54 (at1 q435.2) h) ?_
      obtain ⟨z436, q437, h2⟩ := bind_elim h2
      refine AD.op [16, 19] rfl (by kernel_rfl) rfl rfl (fun _ _ h => AOp.farith rfl rfl (ltb rfl) rfl rfl q437 h) ?_
      obtain ⟨z438, q439, h2⟩ := bind_elim h2
      refine AD.op [13, 20] rfl (by kernel_rfl) rfl rfl (fun _ _ h => AOp.farith rfl rfl (ltb rfl) rfl rfl q439 h) ?_
      refine AD.op [2] rfl (by kernel_rfl) rfl rfl (fun _ _ h => AOp.move rfl rfl (ltb rfl) rfl h) ?_
      obtain ⟨q440, h2⟩ := need_elim h2
      refine AD.op [22] rfl (by kernel_rfl) rfl rfl (fun _ _ h => AOp.indexOwn (cells := (List.map keS1 ((g367.2.2.2.2.2.set ((0 : Int)).toNat x382).set ((1 : Int)).toNat x388))) (n := ((g367.2.2.2.2.2.set ((0 : Int)).toNat x382).set ((1 : Int)).toNat x388).length) rfl rfl (ltb rfl) rfl rfl el69 rfl (by decide) (len1 _ _) q440.1 q440.2 h) ?_
      obtain ⟨x441, q442, h2⟩ := idx_elim h2
      refine AD.op [23] rfl (by kernel_rfl) rfl rfl (fun _ _ h => AOp.loadO1 rfl rfl (ltb rfl) rfl agg54 rfl (at1 q442.2) h) ?_
      refine AD.op [0] rfl (by kernel_rfl) rfl rfl (fun _ _ h => AOp.move rfl rfl (ltb rfl) rfl h) ?_
      obtain ⟨x443, q444, h2⟩ := idx_elim h2
      refine AD.op [25] rfl (by kernel_rfl) rfl rfl (fun _ _ h => AOp.indexDs (cells := (List.map keS1 (g83.getD []))) rfl rfl (ltb rfl) rfl rfl el69 (by decide) q444.1 (lt1 q444.2) h) ?_
      refine AD.op [26] rfl (by kernel_rfl) rfl rfl (fun _ _ h => AOp.loadEp rfl rfl (ltb rfl) rfl agg54 (at1 q444.2) h) ?_
      obtain ⟨z445, q446, h2⟩ := bind_elim h2
      refine AD.op [24, 27] rfl (by kernel_rfl) rfl rfl (fun _ _ h => AOp.farith rfl rfl (ltb rfl) rfl rfl q446 h) ?_
      refine AD.op [1] rfl (by kernel_rfl) rfl rfl (fun _ _ h => AOp.move rfl rfl (ltb rfl) rfl h) ?_
      obtain ⟨q447, h2⟩ := need_elim h2
      refine AD.op [29] rfl (by kernel_rfl) rfl rfl (fun _ _ h => AOp.indexOwn (cells := (List.map keS1 ((g367.2.1.set ((0 : Int)).toNat x372).set ((1 : Int)).toNat x377))) (n := ((g367.2.1.set ((0 : Int)).toNat x372).set ((1 : Int)).toNat x377).length) rfl rfl (ltb rfl) rfl rfl el69 rfl (by decide) (len1 _ _) q447.1 q447.2 h) ?_
      obtain ⟨x448, q449, h2⟩ := idx_elim h2
      refine AD.op [30] rfl (by kernel_rfl) rfl rfl (fun _ _ h => AOp.loadO1 rfl rfl (ltb rfl) rfl agg54 rfl (at1 q449.2) h) ?_
      refine AD.op [0] rfl (by kernel_rfl) rfl rfl (fun _ _ h => AOp.move rfl rfl (ltb rfl) rfl h) ?_
      obtain ⟨x450, q451, h2⟩ := idx_elim h2
      refine AD.op [32] rfl (by kernel_rfl) rfl rfl (fun _ _ h => AOp.indexDs (cells := (List.map keS1 (g83.getD []))) rfl rfl (ltb rfl) rfl rfl el69 (by decide) q451.1 (lt1 q451.2) h) ?_
      refine AD.op [33] rfl (by kernel_rfl) rfl rfl (fun _ _ h => AOp.loadEp rfl rfl (ltb rfl) rfl agg54 (at1 q451.2) h) ?_
      obtain ⟨z452, q453, h2⟩ := bind_elim h2
      refine AD.op [31, 34] rfl (by kernel_rfl) rfl rfl (fun _ _ h => AOp.farith rfl rfl (ltb rfl) rfl rfl q453 h) ?_
      obtain ⟨z454, q455, h2⟩ := bind_elim h2
      refine AD.op [28, 35] rfl (by kernel_rfl) rfl rfl (fun _ _ h => AOp.farith rfl rfl (ltb rfl) rfl rfl q455 h) ?_
      obtain ⟨z456, q457, h2⟩ := bind_elim h2
      refine AD.op [21, 36] rfl (by kernel_rfl) rfl rfl (fun _ _ h => AOp.farith rfl rfl (ltb rfl) rfl rfl q457 h) ?_
      refine AD.op [37] rfl (by kernel_rfl) rfl rfl (fun _ _ h => AOp.assign rfl rfl (ltb rfl) rfl h) ?_
      refine AD.done ?_
      refine AO.nil ?_
      change AC _ _ _ _
      refine AC.ret ?_
      refine inlret (ob' := [.fix 40 [.d (.v (.slice none 0 0))], .fix 4 [.d (dbool false)], .dead, .fix 54 (List.map (fun z => SV.d (keS1 z)) g57.2.1), .fix 54 (List.map (fun z => SV.d (keS1 z)) ((g367.2.2.1.set ((0 : Int)).toNat z405).set ((1 : Int)).toNat z419)), .fix 54 (List.map (fun z => SV.d (keS1 z)) g367.2.2.2.1), .fix 82 [.d (di .i64 a0), .d (di .i64 y2), .d (oN eS1 g83), .sl 4 1 0 ((y7).toNat) ((y7).toNat), .d (dfl g367.2.2.2.2.1), .sl 5 1 0 ((y10).toNat) ((y10).toNat), .sl 3 1 0 ((y4).toNat) ((y4).toNat), .d (dfl g57.2.2.2.2.2.2)], .fix 49 [.d (di .i64 x61.Kind), .d (di .i64 x61.Layout), .d (di .i64 x61.SRID), .d (eS1 x61.Flat), .d (eS2 x61.Ends), .d (eS3 x61.Endss), .d (eS0 x61.Kids)], .dead, .fix 49 [.d (di .i64 x61.Kind), .d (di .i64 x61.Layout), .d (di .i64 x61.SRID), .d (eS1 x61.Flat), .d (eS2 x61.Ends), .d (eS3 x61.Endss), .d (eS0 x61.Kids)], .fix 92 [.d (di .i64 y72.geom2.geom1.geom0.layout), .d (di .i64 y72.geom2.geom1.geom0.stride), .d (eS1 y72.geom2.geom1.geom0.flatCoords), .d (di .i64 x61.SRID), .d (eS2 y72.geom2.ends)], .dead, .frame fr75 [(4, .ptr 0 0), (5, .ptr 1 0), (6, .ptr 6 0), (12, .d (eS0 a1)), (13, .d (di .i64 ((a1.length : Nat) : Int))), (14, .d (di .i64 g57.1))], .dead, .dead, .dead, .fix 98 [.d (di .i64 y89.geom1.geom0.layout), .d (di .i64 y89.geom1.geom0.stride), .d (eS1 y89.geom1.geom0.flatCoords), .d (di .i64 y89.geom1.geom0.srid)], .dead, .frame fr92 [(0, .ptr 6 0), (1, .ptr 10 0)], .grow 54 1 (List.map keS1 ((g367.2.1.set ((0 : Int)).toNat x372).set ((1 : Int)).toNat x377)), .grow 54 1 (List.map keS1 ((g367.2.2.2.2.2.set ((0 : Int)).toNat x382).set ((1 : Int)).toNat x388)), .frame fr392 [(0, .ptr 6 0), (1, .d (eS1 y89.geom1.geom0.flatCoords)), (4, .d (di .i64 y2)), (5, .d (dbool (!y93))), (6, .own 19), (7, .own 20), (8, .d (di .i64 g367.1))], .dead, .dead]) (e' := [(0, .ptr 6 0), (10, .d (dfl g393))]) (r := .d (dfl z456)) rfl rfl rfl ?_
      change AO _ _ _ _ _
      refine AO.op rfl (AOp.assign rfl rfl (ltb rfl) rfl ?_)
      refine AO.objs (obs' := [.fix 40 [.d (.v (.slice none 0 0))], .fix 4 [.d (dbool false)], .dead, .fix 54 (List.map (fun z => SV.d (keS1 z)) g57.2.1), .fix 54 (List.map (fun z => SV.d (keS1 z)) ((g367.2.2.1.set ((0 : Int)).toNat z405).set ((1 : Int)).toNat z419)), .fix 54 (List.map (fun z => SV.d (keS1 z)) g367.2.2.2.1), .fix 82 [.d (di .i64 a0), .d (di .i64 y2), .d (oN eS1 g83), .sl 4 1 0 ((y7).toNat) ((y7).toNat), .d (dfl g367.2.2.2.2.1), .sl 5 1 0 ((y10).toNat) ((y10).toNat), .sl 3 1 0 ((y4).toNat) ((y4).toNat), .d (dfl g57.2.2.2.2.2.2)], .fix 49 [.d (di .i64 x61.Kind), .d (di .i64 x61.Layout), .d (di .i64 x61.SRID), .d (eS1 x61.Flat), .d (eS2 x61.Ends), .d (eS3 x61.Endss), .d (eS0 x61.Kids)], .dead, .fix 49 [.d (di .i64 x61.Kind), .d (di .i64 x61.Layout), .d (di .i64 x61.SRID), .d (eS1 x61.Flat), .d (eS2 x61.Ends), .d (eS3 x61.Endss), .d (eS0 x61.Kids)], .fix 92 [.d (di .i64 y72.geom2.geom1.geom0.layout), .d (di .i64 y72.geom2.geom1.geom0.stride), .d (eS1 y72.geom2.geom1.geom0.flatCoords), .d (di .i64 x61.SRID), .d (eS2 y72.geom2.ends)], .dead, .frame fr75 [(4, .ptr 0 0), (5, .ptr 1 0), (6, .ptr 6 0), (12, .d (eS0 a1)), (13, .d (di .i64 ((a1.length : Nat) : Int))), (14, .d (di .i64 g57.1))], .dead, .dead, .dead, .fix 98 [.d (di .i64 y89.geom1.geom0.layout), .d (di .i64 y89.geom1.geom0.stride), .d (eS1 y89.geom1.geom0.flatCoords), .d (di .i64 y89.geom1.geom0.srid)], .dead, .frame fr92 [(0, .ptr 6 0), (1, .ptr 10 0)], .grow 54 1 (List.map keS1 ((g367.2.1.set ((0 : Int)).toNat x372).set ((1 : Int)).toNat x377)), .grow 54 1 (List.map keS1 ((g367.2.2.2.2.2.set ((0 : Int)).toNat x382).set ((1 : Int)).toNat x388)), .frame fr392 [(0, .ptr 6 0), (1, .d (eS1 y89.geom1.geom0.flatCoords)), (4, .d (di .i64 y2)), (5, .d (dbool (!y93))), (6, .own 19), (7, .own 20), (8, .d (di .i64 g367.1))], .dead, .dead]) rfl ?_
      refine AO.nil ?_
      change AC _ _ _ _
      refine AC.seq ?_
      refine AC.draw 18 mixed (by kernel_rfl) ?_
      refine AD.op [0] rfl (by kernel_rfl) rfl rfl (fun _ _ h => AOp.move rfl rfl (ltb rfl) rfl h) ?_
      refine AD.op [25] rfl (by kernel_rfl) rfl rfl (fun _ _ h => AOp.nilCheck rfl rfl (ltb rfl) rfl rfl h) ?_
      refine AD.op [26] rfl (by kernel_rfl) rfl rfl (fun _ _ h => AOp.fieldAddr rfl rfl (ltb rfl) rfl fo82_5 h) ?_
      refine AD.op [27] rfl (by kernel_rfl) rfl rfl (fun _ _ h => AOp.load1 rfl rfl (ltb rfl) rfl agg69 rfl rfl h) ?_
      obtain ⟨q458, h2⟩ := need_elim h2
      refine AD.op [28] rfl (by kernel_rfl) rfl rfl (fun _ _ h => AOp.indexSl rfl rfl (ltb rfl) rfl rfl el69 q458.1 q458.2 h) ?_
      obtain ⟨x459, q460, h2⟩ := idx_elim h2
      refine AD.op [29] rfl (by kernel_rfl) rfl rfl (fun _ _ h => AOp.load1 rfl rfl (ltb rfl) rfl agg54 rfl (atO q460.2) h) ?_
      refine AD.op [10] rfl (by kernel_rfl) rfl rfl (fun _ _ h => AOp.move rfl rfl (ltb rfl) rfl h) ?_
      refine AD.op [11] rfl (by kernel_rfl) rfl rfl (fun _ _ h => AOp.move rfl rfl (ltb rfl) rfl h) ?_
      obtain ⟨z461, q462, h2⟩ := bind_elim h2
      refine AD.op [31, 32] rfl (by kernel_rfl) rfl rfl (fun _ _ h => AOp.farith rfl rfl (ltb rfl) rfl rfl q462 h) ?_
      refine AD.op [0] rfl (by kernel_rfl) rfl rfl (fun _ _ h => AOp.move rfl rfl (ltb rfl) rfl h) ?_
      refine AD.op [34] rfl (by kernel_rfl) rfl rfl (fun _ _ h => AOp.nilCheck rfl rfl (ltb rfl) rfl rfl h) ?_
      refine AD.op [35] rfl (by kernel_rfl) rfl rfl (fun _ _ h => AOp.fieldAddr rfl rfl (ltb rfl) rfl fo82_3 h) ?_
      refine AD.op [36] rfl (by kernel_rfl) rfl rfl (fun _ _ h => AOp.load1 rfl rfl (ltb rfl) rfl agg69 rfl rfl h) ?_
      obtain ⟨q463, h2⟩ := need_elim h2
      refine AD.op [37] rfl (by kernel_rfl) rfl rfl (fun _ _ h => AOp.indexSl rfl rfl (ltb rfl) rfl rfl el69 q463.1 q463.2 h) ?_
      obtain ⟨x464, q465, h2⟩ := idx_elim h2
      refine AD.op [38] rfl (by kernel_rfl) rfl rfl (fun _ _ h => AOp.load1 rfl rfl (ltb rfl) rfl agg54 rfl (atO q465.2) h) ?_
      obtain ⟨z466, q467, h2⟩ := bind_elim h2
      refine AD.op [33, 39] rfl (by kernel_rfl) rfl rfl (fun _ _ h => AOp.farith rfl rfl (ltb rfl) rfl rfl q467 h) ?_
      obtain ⟨z468, q469, h2⟩ := bind_elim h2
      refine AD.op [30, 40] rfl (by kernel_rfl) rfl rfl (fun _ _ h => AOp.farith rfl rfl (ltb rfl) rfl rfl q469 h) ?_
      obtain ⟨q470, h2⟩ := need_elim h2
      refine AD.op [28] rfl (by kernel_rfl) rfl rfl (fun _ _ h => AOp.indexSl rfl rfl (ltb rfl) rfl rfl el69 q470.1 q470.2 h) ?_
      refine AD.done ?_
      obtain ⟨q471, h2⟩ := need_elim h2
      refine AO.op rfl (AOp.storeL (f := fun z => SV.d (keS1 z)) (l := g367.2.2.2.1) (i := ((0 : Int)).toNat) (v := z468) rfl rfl rfl rfl size54 rfl rfl rfl q471 ?_)
      refine AO.nil ?_
      change AC _ _ _ _
      refine AC.seq ?_
      refine AC.draw 18 mixed (by kernel_rfl) ?_
      refine AD.op [0] rfl (by kernel_rfl) rfl rfl (fun _ _ h => AOp.move rfl rfl (ltb rfl) rfl h) ?_
      refine AD.op [43] rfl (by kernel_rfl) rfl rfl (fun _ _ h => AOp.nilCheck rfl rfl (ltb rfl) rfl rfl h) ?_
      refine AD.op [44] rfl (by kernel_rfl) rfl rfl (fun _ _ h => AOp.fieldAddr rfl rfl (ltb rfl) rfl fo82_5 h) ?_
      refine AD.op [45] rfl (by kernel_rfl) rfl rfl (fun _ _ h => AOp.load1 rfl rfl (ltb rfl) rfl agg69 rfl rfl h) ?_
      obtain ⟨q472, h2⟩ := need_elim h2
      refine AD.op [46] rfl (by kernel_rfl) rfl rfl (fun _ _ h => AOp.indexSl rfl rfl (ltb rfl) rfl rfl el69 q472.1 q472.2 h) ?_
      obtain ⟨x473, q474, h2⟩ := idx_elim h2
      refine AD.op [47] rfl (by kernel_rfl) rfl rfl (fun _ _ h => AOp.load1 rfl rfl (ltb rfl) rfl agg54 rfl (atO q474.2) h) ?_
      refine AD.op [10] rfl (by kernel_rfl) rfl rfl (fun _ _ h => AOp.move rfl rfl (ltb rfl) rfl h) ?_
      refine AD.op [11] rfl (by kernel_rfl) rfl rfl (fun _ _ h => AOp.move rfl rfl (ltb rfl) rfl h) ?_
      obtain ⟨z475, q476, h2⟩ := bind_elim h2
      refine AD.op [49, 50] rfl (by kernel_rfl) rfl rfl (fun _ _ h => AOp.farith rfl rfl (ltb rfl) rfl rfl q476 h) ?_
      refine AD.op [0] rfl (by kernel_rfl) rfl rfl (fun _ _ h => AOp.move rfl rfl (ltb rfl) rfl h) ?_
      refine AD.op [52] rfl (by kernel_rfl) rfl rfl (fun _ _ h => AOp.nilCheck rfl rfl (ltb rfl) rfl rfl h) ?_
      refine AD.op [53] rfl (by kernel_rfl) rfl rfl (fun _ _ h => AOp.fieldAddr rfl rfl (ltb rfl) rfl fo82_3 h) ?_
      refine AD.op [54] rfl (by kernel_rfl) rfl rfl (fun _ _ h => AOp.load1 rfl rfl (ltb rfl) rfl agg69 rfl rfl h) ?_
      obtain ⟨q477, h2⟩ := need_elim h2
      refine AD.op [55] rfl (by kernel_rfl) rfl rfl (fun _ _ h => AOp.indexSl rfl rfl (ltb rfl) rfl rfl el69 q477.1 q477.2 h) ?_
      obtain ⟨x478, q479, h2⟩ := idx_elim h2
      refine AD.op [56] rfl (by kernel_rfl) rfl rfl (fun _ _ h => AOp.load1 rfl rfl (ltb rfl) rfl agg54 rfl (atO q479.2) h) ?_
      obtain ⟨z480, q481, h2⟩ := bind_elim h2
      refine AD.op [51, 57] rfl (by kernel_rfl) rfl rfl (fun _ _ h => AOp.farith rfl rfl (ltb rfl) rfl rfl q481 h) ?_
      obtain ⟨z482, q483, h2⟩ := bind_elim h2
      refine AD.op [48, 58] rfl (by kernel_rfl) rfl rfl (fun _ _ h => AOp.farith rfl rfl (ltb rfl) rfl rfl q483 h) ?_
      obtain ⟨q484, h2⟩ := need_elim h2
      refine AD.op [46] rfl (by kernel_rfl) rfl rfl (fun _ _ h => AOp.indexSl rfl rfl (ltb rfl) rfl rfl el69 q484.1 q484.2 h) ?_
      refine AD.done ?_
      obtain ⟨q485, h2⟩ := need_elim h2
      refine AO.op rfl (AOp.storeL (f := fun z => SV.d (keS1 z)) (l := (g367.2.2.2.1.set ((0 : Int)).toNat z468)) (i := ((1 : Int)).toNat) (v := z482) rfl rfl rfl rfl size54 rfl rfl rfl q485 ?_)
      refine AO.nil ?_
      change AC _ _ _ _
      refine AC.region ?_
      refine AO.op rfl (AOp.move rfl rfl (ltb rfl) rfl ?_)
      refine AO.op rfl (AOp.nilCheck rfl rfl (ltb rfl) rfl rfl ?_)
      refine AO.op rfl (AOp.fieldAddr rfl rfl (ltb rfl) rfl fo82_4 ?_)
      refine AO.op rfl (AOp.load1 rfl rfl (ltb rfl) rfl agg54 rfl rfl ?_)
      refine AO.op rfl (AOp.move rfl rfl (ltb rfl) rfl ?_)
      refine AO.op rfl (AOp.move rfl rfl (ltb rfl) rfl ?_)
      obtain ⟨z486, q487, h2⟩ := bind_elim h2
      refine AO.op rfl (AOp.farith rfl rfl (ltb rfl) rfl rfl q487 ?_)
      obtain ⟨z488, q489, h2⟩ := bind_elim h2
      refine AO.op rfl (AOp.farith rfl rfl (ltb rfl) rfl rfl q489 ?_)
      refine AO.op rfl (AOp.nilCheck rfl rfl (ltb rfl) rfl rfl ?_)
      refine AO.op rfl (AOp.fieldAddr rfl rfl (ltb rfl) rfl fo82_4 ?_)
      refine AO.op rfl (AOp.store rfl rfl rfl rfl size54 rfl rfl rfl (leb rfl) ?_)
      refine AO.nil ?_
      refine inlend (ob' := [.fix 40 [.d (.v (.slice none 0 0))], .fix 4 [.d (dbool false)], .dead, .fix 54 (List.map (fun z => SV.d (keS1 z)) g57.2.1), .fix 54 (List.map (fun z => SV.d (keS1 z)) ((g367.2.2.1.set ((0 : Int)).toNat z405).set ((1 : Int)).toNat z419)), .fix 54 (List.map (fun z => SV.d (keS1 z)) ((g367.2.2.2.1.set ((0 : Int)).toNat z468).set ((1 : Int)).toNat z482)), .fix 82 [.d (di .i64 a0), .d (di .i64 y2), .d (oN eS1 g83), .sl 4 1 0 ((y7).toNat) ((y7).toNat), .d (dfl z488), .sl 5 1 0 ((y10).toNat) ((y10).toNat), .sl 3 1 0 ((y4).toNat) ((y4).toNat), .d (dfl g57.2.2.2.2.2.2)], .fix 49 [.d (di .i64 x61.Kind), .d (di .i64 x61.Layout), .d (di .i64 x61.SRID), .d (eS1 x61.Flat), .d (eS2 x61.Ends), .d (eS3 x61.Endss), .d (eS0 x61.Kids)], .dead, .fix 49 [.d (di .i64 x61.Kind), .d (di .i64 x61.Layout), .d (di .i64 x61.SRID), .d (eS1 x61.Flat), .d (eS2 x61.Ends), .d (eS3 x61.Endss), .d (eS0 x61.Kids)], .fix 92 [.d (di .i64 y72.geom2.geom1.geom0.layout), .d (di .i64 y72.geom2.geom1.geom0.stride), .d (eS1 y72.geom2.geom1.geom0.flatCoords), .d (di .i64 x61.SRID), .d (eS2 y72.geom2.ends)], .dead, .frame fr75 [(4, .ptr 0 0), (5, .ptr 1 0), (6, .ptr 6 0), (12, .d (eS0 a1)), (13, .d (di .i64 ((a1.length : Nat) : Int))), (14, .d (di .i64 g57.1))], .dead, .dead, .dead, .fix 98 [.d (di .i64 y89.geom1.geom0.layout), .d (di .i64 y89.geom1.geom0.stride), .d (eS1 y89.geom1.geom0.flatCoords), .d (di .i64 y89.geom1.geom0.srid)], .dead, .frame fr92 [(0, .ptr 6 0), (1, .ptr 10 0)], .grow 54 1 (List.map keS1 ((g367.2.1.set ((0 : Int)).toNat x372).set ((1 : Int)).toNat x377)), .grow 54 1 (List.map keS1 ((g367.2.2.2.2.2.set ((0 : Int)).toNat x382).set ((1 : Int)).toNat x388)), .dead, .dead, .dead]) (e' := [(0, .ptr 6 0), (1, .d (eS1 y89.geom1.geom0.flatCoords)), (4, .d (di .i64 y2)), (5, .d (dbool (!y93))), (6, .own 19), (7, .own 20), (8, .d (di .i64 g367.1))]) (r := .tu []) rfl rfl rfl ?_
      change AO _ _ _ _ _
      refine AO.objs (obs' := [.fix 40 [.d (.v (.slice none 0 0))], .fix 4 [.d (dbool false)], .dead, .fix 54 (List.map (fun z => SV.d (keS1 z)) g57.2.1), .fix 54 (List.map (fun z => SV.d (keS1 z)) ((g367.2.2.1.set ((0 : Int)).toNat z405).set ((1 : Int)).toNat z419)), .fix 54 (List.map (fun z => SV.d (keS1 z)) ((g367.2.2.2.1.set ((0 : Int)).toNat z468).set ((1 : Int)).toNat z482)), .fix 82 [.d (di .i64 a0), .d (di .i64 y2), .d (oN eS1 g83), .sl 4 1 0 ((y7).toNat) ((y7).toNat), .d (dfl z488), .sl 5 1 0 ((y10).toNat) ((y10).toNat), .sl 3 1 0 ((y4).toNat) ((y4).toNat), .d (dfl g57.2.2.2.2.2.2)], .fix 49 [.d (di .i64 x61.Kind), .d (di .i64 x61.Layout), .d (di .i64 x61.SRID), .d (eS1 x61.Flat), .d (eS2 x61.Ends), .d (eS3 x61.Endss), .d (eS0 x61.Kids)], .dead, .fix 49 [.d (di .i64 x61.Kind), .d (di .i64 x61.Layout), .d (di .i64 x61.SRID), .d (eS1 x61.Flat), .d (eS2 x61.Ends), .d (eS3 x61.Endss), .d (eS0 x61.Kids)], .fix 92 [.d (di .i64 y72.geom2.geom1.geom0.layout), .d (di .i64 y72.geom2.geom1.geom0.stride), .d (eS1 y72.geom2.geom1.geom0.flatCoords), .d (di .i64 x61.SRID), .d (eS2 y72.geom2.ends)], .dead, .frame fr75 [(4, .ptr 0 0), (5, .ptr 1 0), (6, .ptr 6 0), (12, .d (eS0 a1)), (13, .d (di .i64 ((a1.length : Nat) : Int))), (14, .d (di .i64 g57.1))], .dead, .dead, .dead, .fix 98 [.d (di .i64 y89.geom1.geom0.layout), .d (di .i64 y89.geom1.geom0.stride), .d (eS1 y89.geom1.geom0.flatCoords), .d (di .i64 y89.geom1.geom0.srid)], .dead, .frame fr92 [(0, .ptr 6 0), (1, .ptr 10 0)], .grow 54 1 (List.map keS1 ((g367.2.1.set ((0 : Int)).toNat x372).set ((1 : Int)).toNat x377)), .grow 54 1 (List.map keS1 ((g367.2.2.2.2.2.set ((0 : Int)).toNat x382).set ((1 : Int)).toNat x388)), .dead, .dead, .dead]) rfl ?_
      refine AO.nil ?_
      change AC _ _ _ _
      refine AC.region ?_
      refine AO.op rfl (AOp.move rfl rfl (ltb rfl) rfl ?_)
      refine AO.op rfl (AOp.move rfl rfl (ltb rfl) rfl ?_)
      obtain ⟨q490, h2⟩ := need_elim h2
      refine AO.op rfl (AOp.iadd rfl rfl (ltb rfl) rfl rfl rfl q490.1 q490.2 ?_)
      refine AO.op rfl (AOp.assign rfl rfl (ltb rfl) rfl ?_)
      refine AO.nil ?_
      exact ⟨((g367.1 + y2), ((g367.2.1.set ((0 : Int)).toNat x372).set ((1 : Int)).toNat x377), ((g367.2.2.1.set ((0 : Int)).toNat z405).set ((1 : Int)).toNat z419), ((g367.2.2.2.1.set ((0 : Int)).toNat z468).set ((1 : Int)).toNat z482), z488, ((g367.2.2.2.2.2.set ((0 : Int)).toNat x382).set ((1 : Int)).toNat x388)), _, rfl, (LeL.refl _), rfl, (okU_mk rfl (okU_cons rfl (okU_cons rfl (okU_cons rfl (okU_cons (okU_fixl (fun _ => rfl)) (okU_cons (okU_fixl (fun _ => rfl)) (okU_cons (okU_fixl (fun _ => rfl)) (okU_cons rfl (okU_cons rfl (okU_cons rfl (okU_cons rfl (okU_cons rfl (okU_cons rfl (okU_cons rfl (okU_cons rfl (okU_cons rfl (okU_cons rfl (okU_cons rfl (okU_cons rfl (okU_cons rfl (okU_cons rfl (okU_cons rfl okU_nil)))))))))))))))))))))), h2⟩
     replace h2 := cF h2 q371
     refine AC.exit ?_
     obtain rfl := Option.some.inj h2
     exact ⟨(g367.2.2.1, g367.2.2.2.1, g367.2.2.2.2.1, g367.2.1, g367.2.2.2.2.2), _, rfl, (LeL.refl _), rfl, (okU_mk rfl (okU_cons rfl (okU_cons rfl (okU_cons rfl (okU_cons (okU_fixl (fun _ => rfl)) (okU_cons (okU_fixl (fun _ => rfl)) (okU_cons (okU_fixl (fun _ => rfl)) (okU_cons rfl (okU_cons rfl (okU_cons rfl (okU_cons rfl (okU_cons rfl (okU_cons rfl (okU_cons rfl (okU_cons rfl (okU_cons rfl (okU_cons rfl (okU_cons rfl (okU_cons rfl (okU_cons rfl (okU_cons rfl (okU_cons rfl okU_nil)))))))))))))))))))))), aftL h1⟩
    intro g97 h1
    unfold p_PolygonsCentroid_k5 at h1
    change AC _ _ _ _
    refine AC.region ?_
    refine AO.op rfl (AOp.move rfl rfl (ltb rfl) rfl ?_)
    refine AO.op rfl (AOp.move rfl rfl (ltb rfl) rfl ?_)
    refine AO.op rfl (AOp.inl [] (by kernel_rfl) Tryz.func78 rfl Tryz.ntmps78 rfl rfl (ltb rfl) rfl (leb rfl) rfl ?_)
    intro fr98
    refine AC.seq ?_
    refine AC.region ?_
    refine AO.op rfl (AOp.move rfl rfl (ltb rfl) rfl ?_)
    refine AO.op rfl (AOp.nilCheck rfl rfl (ltb rfl) rfl rfl ?_)
    refine AO.op rfl (AOp.fieldAddr rfl rfl (ltb rfl) rfl fo82_1 ?_)
    refine AO.op rfl (AOp.load1 rfl rfl (ltb rfl) rfl agg3 rfl rfl ?_)
    refine AO.op rfl (AOp.assign rfl rfl (ltb rfl) rfl ?_)
    refine AO.objs (obs' := [.fix 40 [.d (.v (.slice none 0 0))], .fix 4 [.d (dbool false)], .dead, .fix 54 (List.map (fun z => SV.d (keS1 z)) g57.2.1), .fix 54 (List.map (fun z => SV.d (keS1 z)) g97.1), .fix 54 (List.map (fun z => SV.d (keS1 z)) g97.2.1), .fix 82 [.d (di .i64 a0), .d (di .i64 y2), .d (oN eS1 g83), .sl 4 1 0 ((y7).toNat) ((y7).toNat), .d (dfl g97.2.2.1), .sl 5 1 0 ((y10).toNat) ((y10).toNat), .sl 3 1 0 ((y4).toNat) ((y4).toNat), .d (dfl g57.2.2.2.2.2.2)], .fix 49 [.d (di .i64 x61.Kind), .d (di .i64 x61.Layout), .d (di .i64 x61.SRID), .d (eS1 x61.Flat), .d (eS2 x61.Ends), .d (eS3 x61.Endss), .d (eS0 x61.Kids)], .dead, .fix 49 [.d (di .i64 x61.Kind), .d (di .i64 x61.Layout), .d (di .i64 x61.SRID), .d (eS1 x61.Flat), .d (eS2 x61.Ends), .d (eS3 x61.Endss), .d (eS0 x61.Kids)], .fix 92 [.d (di .i64 y72.geom2.geom1.geom0.layout), .d (di .i64 y72.geom2.geom1.geom0.stride), .d (eS1 y72.geom2.geom1.geom0.flatCoords), .d (di .i64 x61.SRID), .d (eS2 y72.geom2.ends)], .dead, .frame fr75 [(4, .ptr 0 0), (5, .ptr 1 0), (6, .ptr 6 0), (12, .d (eS0 a1)), (13, .d (di .i64 ((a1.length : Nat) : Int))), (14, .d (di .i64 g57.1))], .dead, .dead, .dead, .fix 98 [.d (di .i64 y89.geom1.geom0.layout), .d (di .i64 y89.geom1.geom0.stride), .d (eS1 y89.geom1.geom0.flatCoords), .d (di .i64 y89.geom1.geom0.srid)], .dead, .frame fr92 [(0, .ptr 6 0), (1, .ptr 10 0)], .grow 54 1 (List.map keS1 g97.2.2.2.1), .grow 54 1 (List.map keS1 g97.2.2.2.2), .frame fr98 []]) rfl ?_
    refine AO.nil ?_
    change AC _ _ _ _
    refine AC.seq ?_
    refine AC.region ?_
    refine AO.op rfl (AOp.assign rfl rfl (ltb rfl) rfl ?_)
    refine AO.nil ?_
    change AC _ _ _ _
    obtain ⟨o99, l100, h1⟩ := bind_elim h1
    refine AC.joinE (V := ((List Nat) × Nat)) [] [] 22 (fun g101 => []) (fun g101 => [.fix 40 [.d (.v (.slice none 0 0))], .fix 4 [.d (dbool false)], .dead, .fix 54 (List.map (fun z => SV.d (keS1 z)) g101.1), .fix 54 (List.map (fun z => SV.d (keS1 z)) g97.1), .fix 54 (List.map (fun z => SV.d (keS1 z)) g97.2.1), .fix 82 [.d (di .i64 a0), .d (di .i64 y2), .d (oN eS1 g83), .sl 4 1 0 ((y7).toNat) ((y7).toNat), .d (dfl g97.2.2.1), .sl 5 1 0 ((y10).toNat) ((y10).toNat), .sl 3 1 0 ((y4).toNat) ((y4).toNat), .d (dfl g101.2)], .fix 49 [.d (di .i64 x61.Kind), .d (di .i64 x61.Layout), .d (di .i64 x61.SRID), .d (eS1 x61.Flat), .d (eS2 x61.Ends), .d (eS3 x61.Endss), .d (eS0 x61.Kids)], .dead, .fix 49 [.d (di .i64 x61.Kind), .d (di .i64 x61.Layout), .d (di .i64 x61.SRID), .d (eS1 x61.Flat), .d (eS2 x61.Ends), .d (eS3 x61.Endss), .d (eS0 x61.Kids)], .fix 92 [.d (di .i64 y72.geom2.geom1.geom0.layout), .d (di .i64 y72.geom2.geom1.geom0.stride), .d (eS1 y72.geom2.geom1.geom0.flatCoords), .d (di .i64 x61.SRID), .d (eS2 y72.geom2.ends)], .dead, .frame fr75 [(4, .ptr 0 0), (5, .ptr 1 0), (6, .ptr 6 0), (12, .d (eS0 a1)), (13, .d (di .i64 ((a1.length : Nat) : Int))), (14, .d (di .i64 g57.1))], .dead, .dead, .dead, .fix 98 [.d (di .i64 y89.geom1.geom0.layout), .d (di .i64 y89.geom1.geom0.stride), .d (eS1 y89.geom1.geom0.flatCoords), .d (di .i64 y89.geom1.geom0.srid)], .dead, .frame fr92 [(0, .ptr 6 0), (1, .ptr 10 0)], .grow 54 1 (List.map keS1 g97.2.2.2.1), .grow 54 1 (List.map keS1 g97.2.2.2.2), .frame fr98 []]) (fun g101 => (p_PolygonsCentroid_k6 a0 F y2 y4 y7 y10 g57 (iter (p_PolygonsCentroid_l2 a0 a1 F y2 y4 y7 y10) n59) y72 g83 g97) g101 = some o13) rfl ?_ ?_
    ·refine AC.block ?_
     refine AC.loopP (V := (Int × (List Nat) × Nat)) (p_PolygonsCentroid_l15 y2 y4 y89) o99 [0, 1, 4] [5] 22 (fun g313 => [(5, .d (di .i64 g313.1))]) (fun g313 => [.fix 40 [.d (.v (.slice none 0 0))], .fix 4 [.d (dbool false)], .dead, .fix 54 (List.map (fun z => SV.d (keS1 z)) g313.2.1), .fix 54 (List.map (fun z => SV.d (keS1 z)) g97.1), .fix 54 (List.map (fun z => SV.d (keS1 z)) g97.2.1), .fix 82 [.d (di .i64 a0), .d (di .i64 y2), .d (oN eS1 g83), .sl 4 1 0 ((y7).toNat) ((y7).toNat), .d (dfl g97.2.2.1), .sl 5 1 0 ((y10).toNat) ((y10).toNat), .sl 3 1 0 ((y4).toNat) ((y4).toNat), .d (dfl g313.2.2)], .fix 49 [.d (di .i64 x61.Kind), .d (di .i64 x61.Layout), .d (di .i64 x61.SRID), .d (eS1 x61.Flat), .d (eS2 x61.Ends), .d (eS3 x61.Endss), .d (eS0 x61.Kids)], .dead, .fix 49 [.d (di .i64 x61.Kind), .d (di .i64 x61.Layout), .d (di .i64 x61.SRID), .d (eS1 x61.Flat), .d (eS2 x61.Ends), .d (eS3 x61.Endss), .d (eS0 x61.Kids)], .fix 92 [.d (di .i64 y72.geom2.geom1.geom0.layout), .d (di .i64 y72.geom2.geom1.geom0.stride), .d (eS1 y72.geom2.geom1.geom0.flatCoords), .d (di .i64 x61.SRID), .d (eS2 y72.geom2.ends)], .dead, .frame fr75 [(4, .ptr 0 0), (5, .ptr 1 0), (6, .ptr 6 0), (12, .d (eS0 a1)), (13, .d (di .i64 ((a1.length : Nat) : Int))), (14, .d (di .i64 g57.1))], .dead, .dead, .dead, .fix 98 [.d (di .i64 y89.geom1.geom0.layout), .d (di .i64 y89.geom1.geom0.stride), .d (eS1 y89.geom1.geom0.flatCoords), .d (di .i64 y89.geom1.geom0.srid)], .dead, .frame fr92 [(0, .ptr 6 0), (1, .ptr 10 0)], .grow 54 1 (List.map keS1 g97.2.2.2.1), .grow 54 1 (List.map keS1 g97.2.2.2.2), .frame fr98 []]) F ((0 : Int), g57.2.1, g57.2.2.2.2.2.2) l100 rfl rfl (LeL.refl _) rfl (okU_mk rfl (okU_cons rfl (okU_cons rfl (okU_cons rfl (okU_cons (okU_fixl (fun _ => rfl)) (okU_cons (okU_fixl (fun _ => rfl)) (okU_cons (okU_fixl (fun _ => rfl)) (okU_cons rfl (okU_cons rfl (okU_cons rfl (okU_cons rfl (okU_cons rfl (okU_cons rfl (okU_cons rfl (okU_cons rfl (okU_cons rfl (okU_cons rfl (okU_cons rfl (okU_cons rfl (okU_cons rfl (okU_cons rfl (okU_cons rfl (okU_cons rfl okU_nil))))))))))))))))))))))) ?_
     intro n315 g313 h2
     unfold p_PolygonsCentroid_l15 at h2
     refine AC.seq ?_
     refine AC.seq ?_
     refine AC.region ?_
     refine AO.op rfl (AOp.move rfl rfl (ltb rfl) rfl ?_)
     refine AO.op rfl (AOp.move rfl rfl (ltb rfl) rfl ?_)
     refine AO.op rfl (AOp.lenDs (n := y89.geom1.geom0.flatCoords.length) (cells := (List.map keS1 y89.geom1.geom0.flatCoords)) rfl rfl (ltb rfl) rfl el40 (by decide) (len1 _ _) ?_)
     refine AO.op rfl (AOp.move rfl rfl (ltb rfl) rfl ?_)
     obtain ⟨q316, h2⟩ := need_elim h2
     refine AO.op rfl (AOp.isub rfl rfl (ltb rfl) rfl rfl rfl q316.1 q316.2 ?_)
     refine AO.op rfl (AOp.ilss rfl rfl (ltb rfl) rfl rfl ?_)
     refine AO.nil ?_
     change AC _ _ _ _
     refine AC.cond rfl (fun q317 => ?_) (fun q317 => ?_)
     ·replace h2 := cT h2 q317
      refine AC.skip ?_
      change AC _ _ _ _
      refine AC.seq ?_
      refine AC.block ?_
      refine AC.seq ?_
      refine AC.draw 16 mixed (by kernel_rfl) ?_
      refine AD.op [1] rfl (by kernel_rfl) rfl rfl (fun _ _ h => AOp.move rfl rfl (ltb rfl) rfl h) ?_
      refine AD.op [5] rfl (by kernel_rfl) rfl rfl (fun _ _ h => AOp.move rfl rfl (ltb rfl) rfl h) ?_
      refine AD.op [5] rfl (by kernel_rfl) rfl rfl (fun _ _ h => AOp.move rfl rfl (ltb rfl) rfl h) ?_
      obtain ⟨q318, h2⟩ := need_elim h2
      refine AD.op [24] rfl (by kernel_rfl) rfl rfl (fun _ _ h => AOp.iadd rfl rfl (ltb rfl) rfl rfl rfl q318.1 q318.2 h) ?_
      obtain ⟨q319, h2⟩ := need_elim h2
      refine AD.op [22, 23, 25] rfl (by kernel_rfl) rfl rfl (fun _ _ h => AOp.sliceD (cells := (List.map keS1 y89.geom1.geom0.flatCoords)) (n := y89.geom1.geom0.flatCoords.length) (l := (g313.1).toNat) (hh := ((g313.1 + (2 : Int))).toNat) rfl rfl (ltb rfl) rfl (.inr ⟨_, _, _, rfl, rfl, q319.1.1, rfl⟩) (.inr ⟨_, _, _, rfl, rfl, q319.1.2, rfl⟩) el40 (by decide) (len1 _ _) q319.2.1 q319.2.2 (sub1 _ _ _ _) h) ?_
      refine AD.op [1] rfl (by kernel_rfl) rfl rfl (fun _ _ h => AOp.move rfl rfl (ltb rfl) rfl h) ?_
      refine AD.op [5] rfl (by kernel_rfl) rfl rfl (fun _ _ h => AOp.move rfl rfl (ltb rfl) rfl h) ?_
      refine AD.op [4] rfl (by kernel_rfl) rfl rfl (fun _ _ h => AOp.move rfl rfl (ltb rfl) rfl h) ?_
      obtain ⟨q320, h2⟩ := need_elim h2
      refine AD.op [28, 29] rfl (by kernel_rfl) rfl rfl (fun _ _ h => AOp.iadd rfl rfl (ltb rfl) rfl rfl rfl q320.1 q320.2 h) ?_
      refine AD.op [5] rfl (by kernel_rfl) rfl rfl (fun _ _ h => AOp.move rfl rfl (ltb rfl) rfl h) ?_
      refine AD.op [4] rfl (by kernel_rfl) rfl rfl (fun _ _ h => AOp.move rfl rfl (ltb rfl) rfl h) ?_
      obtain ⟨q321, h2⟩ := need_elim h2
      refine AD.op [31, 32] rfl (by kernel_rfl) rfl rfl (fun _ _ h => AOp.iadd rfl rfl (ltb rfl) rfl rfl rfl q321.1 q321.2 h) ?_
      obtain ⟨q322, h2⟩ := need_elim h2
      refine AD.op [33] rfl (by kernel_rfl) rfl rfl (fun _ _ h => AOp.iadd rfl rfl (ltb rfl) rfl rfl rfl q322.1 q322.2 h) ?_
      obtain ⟨q323, h2⟩ := need_elim h2
      refine AD.op [27, 30, 34] rfl (by kernel_rfl) rfl rfl (fun _ _ h => AOp.sliceD (cells := (List.map keS1 y89.geom1.geom0.flatCoords)) (n := y89.geom1.geom0.flatCoords.length) (l := ((g313.1 + y2)).toNat) (hh := (((g313.1 + y2) + (2 : Int))).toNat) rfl rfl (ltb rfl) rfl (.inr ⟨_, _, _, rfl, rfl, q323.1.1, rfl⟩) (.inr ⟨_, _, _, rfl, rfl, q323.1.2, rfl⟩) el40 (by decide) (len1 _ _) q323.2.1 q323.2.2 (sub1 _ _ _ _) h) ?_
      obtain ⟨y324, q325, h2⟩ := bind_elim h2
      refine AD.op [26, 35] rfl (by kernel_rfl) rfl rfl (fun _ _ h => AOp.callD rfl rfl (ltb rfl) rfl rfl (w_Distance2D ((y89.geom1.geom0.flatCoords.drop (g313.1).toNat).take (((g313.1 + (2 : Int))).toNat - (g313.1).toNat)) ((y89.geom1.geom0.flatCoords.drop ((g313.1 + y2)).toNat).take ((((g313.1 + y2) + (2 : Int))).toNat - ((g313.1 + y2)).toNat)) y324 q325) (by rintro _ rfl; exact h)) ?_
      refine AD.op [36] rfl (by kernel_rfl) rfl rfl (fun _ _ h => AOp.assign rfl rfl (ltb rfl) rfl h) ?_
      refine AD.done ?_
      refine AO.nil ?_
      change AC _ _ _ _
      refine AC.seq ?_
      refine AC.region ?_
      refine AO.op rfl (AOp.move rfl rfl (ltb rfl) rfl ?_)
      refine AO.op rfl (AOp.nilCheck rfl rfl (ltb rfl) rfl rfl ?_)
      refine AO.op rfl (AOp.fieldAddr rfl rfl (ltb rfl) rfl fo82_7 ?_)
      refine AO.op rfl (AOp.load1 rfl rfl (ltb rfl) rfl agg54 rfl rfl ?_)
      refine AO.op rfl (AOp.move rfl rfl (ltb rfl) rfl ?_)
      obtain ⟨z326, q327, h2⟩ := bind_elim h2
      refine AO.op rfl (AOp.farith rfl rfl (ltb rfl) rfl rfl q327 ?_)
      refine AO.op rfl (AOp.nilCheck rfl rfl (ltb rfl) rfl rfl ?_)
      refine AO.op rfl (AOp.fieldAddr rfl rfl (ltb rfl) rfl fo82_7 ?_)
      refine AO.op rfl (AOp.store rfl rfl rfl rfl size54 rfl rfl rfl (leb rfl) ?_)
      refine AO.nil ?_
      change AC _ _ _ _
      refine AC.seq ?_
      refine AC.draw 13 mixed (by kernel_rfl) ?_
      refine AD.op [1] rfl (by kernel_rfl) rfl rfl (fun _ _ h => AOp.move rfl rfl (ltb rfl) rfl h) ?_
      refine AD.op [5] rfl (by kernel_rfl) rfl rfl (fun _ _ h => AOp.move rfl rfl (ltb rfl) rfl h) ?_
      obtain ⟨x328, q329, h2⟩ := idx_elim h2
      refine AD.op [45, 46] rfl (by kernel_rfl) rfl rfl (fun _ _ h => AOp.indexDs (cells := (List.map keS1 y89.geom1.geom0.flatCoords)) rfl rfl (ltb rfl) rfl rfl el40 (by decide) q329.1 (lt1 q329.2) h) ?_
      refine AD.op [47] rfl (by kernel_rfl) rfl rfl (fun _ _ h => AOp.loadEp rfl rfl (ltb rfl) rfl agg54 (at1 q329.2) h) ?_
      refine AD.op [1] rfl (by kernel_rfl) rfl rfl (fun _ _ h => AOp.move rfl rfl (ltb rfl) rfl h) ?_
      refine AD.op [5] rfl (by kernel_rfl) rfl rfl (fun _ _ h => AOp.move rfl rfl (ltb rfl) rfl h) ?_
      refine AD.op [4] rfl (by kernel_rfl) rfl rfl (fun _ _ h => AOp.move rfl rfl (ltb rfl) rfl h) ?_
      obtain ⟨q330, h2⟩ := need_elim h2
      refine AD.op [50, 51] rfl (by kernel_rfl) rfl rfl (fun _ _ h => AOp.iadd rfl rfl (ltb rfl) rfl rfl rfl q330.1 q330.2 h) ?_
      obtain ⟨x331, q332, h2⟩ := idx_elim h2
      refine AD.op [49, 52] rfl (by kernel_rfl) rfl rfl (fun _ _ h => AOp.indexDs (cells := (List.map keS1 y89.geom1.geom0.flatCoords)) rfl rfl (ltb rfl) rfl rfl el40 (by decide) q332.1 (lt1 q332.2) h) ?_
      refine AD.op [53] rfl (by kernel_rfl) rfl rfl (fun _ _ h => AOp.loadEp rfl rfl (ltb rfl) rfl agg54 (at1 q332.2) h) ?_
      obtain ⟨z333, q334, h2⟩ := bind_elim h2
      refine AD.op [48, 54] rfl (by kernel_rfl) rfl rfl (fun _ _ h => AOp.farith rfl rfl (ltb rfl) rfl rfl q334 h) ?_
      obtain ⟨z335, q336, h2⟩ := bind_elim h2
      refine AD.op [55] rfl (by kernel_rfl) rfl rfl (fun _ _ h => AOp.farith rfl rfl (ltb rfl) rfl rfl q336 h) ?_
      refine AD.op [56] rfl (by kernel_rfl) rfl rfl (fun _ _ h => AOp.assign rfl rfl (ltb rfl) rfl h) ?_
      refine AD.done ?_
      refine AO.nil ?_
      change AC _ _ _ _
      refine AC.seq ?_
      refine AC.region ?_
      refine AO.op rfl (AOp.move rfl rfl (ltb rfl) rfl ?_)
      refine AO.op rfl (AOp.nilCheck rfl rfl (ltb rfl) rfl rfl ?_)
      refine AO.op rfl (AOp.fieldAddr rfl rfl (ltb rfl) rfl fo82_6 ?_)
      refine AO.op rfl (AOp.load1 rfl rfl (ltb rfl) rfl agg69 rfl rfl ?_)
      obtain ⟨q337, h2⟩ := need_elim h2
      refine AO.op rfl (AOp.indexSl rfl rfl (ltb rfl) rfl rfl el69 q337.1 q337.2 ?_)
      obtain ⟨x338, q339, h2⟩ := idx_elim h2
      refine AO.op rfl (AOp.load1 rfl rfl (ltb rfl) rfl agg54 rfl (atO q339.2) ?_)
      refine AO.op rfl (AOp.move rfl rfl (ltb rfl) rfl ?_)
      refine AO.op rfl (AOp.move rfl rfl (ltb rfl) rfl ?_)
      obtain ⟨z340, q341, h2⟩ := bind_elim h2
      refine AO.op rfl (AOp.farith rfl rfl (ltb rfl) rfl rfl q341 ?_)
      obtain ⟨z342, q343, h2⟩ := bind_elim h2
      refine AO.op rfl (AOp.farith rfl rfl (ltb rfl) rfl rfl q343 ?_)
      obtain ⟨q344, h2⟩ := need_elim h2
      refine AO.op rfl (AOp.indexSl rfl rfl (ltb rfl) rfl rfl el69 q344.1 q344.2 ?_)
      obtain ⟨q345, h2⟩ := need_elim h2
      refine AO.op rfl (AOp.storeL (f := fun z => SV.d (keS1 z)) (l := g313.2.1) (i := ((0 : Int)).toNat) (v := z342) rfl rfl rfl rfl size54 rfl rfl rfl q345 ?_)
      refine AO.nil ?_
      change AC _ _ _ _
      refine AC.seq ?_
      refine AC.draw 15 mixed (by kernel_rfl) ?_
      refine AD.op [1] rfl (by kernel_rfl) rfl rfl (fun _ _ h => AOp.move rfl rfl (ltb rfl) rfl h) ?_
      refine AD.op [5] rfl (by kernel_rfl) rfl rfl (fun _ _ h => AOp.move rfl rfl (ltb rfl) rfl h) ?_
      obtain ⟨q346, h2⟩ := need_elim h2
      refine AD.op [69] rfl (by kernel_rfl) rfl rfl (fun _ _ h => AOp.iadd rfl rfl (ltb rfl) rfl rfl rfl q346.1 q346.2 h) ?_
      obtain ⟨x347, q348, h2⟩ := idx_elim h2
      refine AD.op [68, 70] rfl (by kernel_rfl) rfl rfl (fun _ _ h => AOp.indexDs (cells := (List.map keS1 y89.geom1.geom0.flatCoords)) rfl rfl (ltb rfl) rfl rfl el40 (by decide) q348.1 (lt1 q348.2) h) ?_
      refine AD.op [71] rfl (by kernel_rfl) rfl rfl (fun _ _ h => AOp.loadEp rfl rfl (ltb rfl) rfl agg54 (at1 q348.2) h) ?_
      refine AD.op [1] rfl (by kernel_rfl) rfl rfl (fun _ _ h => AOp.move rfl rfl (ltb rfl) rfl h) ?_
      refine AD.op [5] rfl (by kernel_rfl) rfl rfl (fun _ _ h => AOp.move rfl rfl (ltb rfl) rfl h) ?_
      refine AD.op [4] rfl (by kernel_rfl) rfl rfl (fun _ _ h => AOp.move rfl rfl (ltb rfl) rfl h) ?_
      obtain ⟨q349, h2⟩ := need_elim h2
      refine AD.op [74, 75] rfl (by kernel_rfl) rfl rfl (fun _ _ h => AOp.iadd rfl rfl (ltb rfl) rfl rfl rfl q349.1 q349.2 h) ?_
      obtain ⟨q350, h2⟩ := need_elim h2
      refine AD.op [76] rfl (by kernel_rfl) rfl rfl (fun _ _ h => AOp.iadd rfl rfl (ltb rfl) rfl rfl rfl q350.1 q350.2 h) ?_
      obtain ⟨x351, q352, h2⟩ := idx_elim h2
      refine AD.op [73, 77] rfl (by kernel_rfl) rfl rfl (fun _ _ h => AOp.indexDs (cells := (List.map keS1 y89.geom1.geom0.flatCoords)) rfl rfl (ltb rfl) rfl rfl el40 (by decide) q352.1 (lt1 q352.2) h) ?_
      refine AD.op [78] rfl (by kernel_rfl) rfl rfl (fun _ _ h => AOp.loadEp rfl rfl (ltb rfl) rfl agg54 (at1 q352.2) h) ?_
      obtain ⟨z353, q354, h2⟩ := bind_elim h2
      refine AD.op [72, 79] rfl (by kernel_rfl) rfl rfl (fun _ _ h => AOp.farith rfl rfl (ltb rfl) rfl rfl q354 h) ?_
      obtain ⟨z355, q356, h2⟩ := bind_elim h2
      refine AD.op [80] rfl (by kernel_rfl) rfl rfl (fun _ _ h => AOp.farith rfl rfl (ltb rfl) rfl rfl q356 h) ?_
      refine AD.op [81] rfl (by kernel_rfl) rfl rfl (fun _ _ h => AOp.assign rfl rfl (ltb rfl) rfl h) ?_
      refine AD.done ?_
      refine AO.nil ?_
      change AC _ _ _ _
      refine AC.region ?_
      refine AO.op rfl (AOp.move rfl rfl (ltb rfl) rfl ?_)
      refine AO.op rfl (AOp.nilCheck rfl rfl (ltb rfl) rfl rfl ?_)
      refine AO.op rfl (AOp.fieldAddr rfl rfl (ltb rfl) rfl fo82_6 ?_)
      refine AO.op rfl (AOp.load1 rfl rfl (ltb rfl) rfl agg69 rfl rfl ?_)
      obtain ⟨q357, h2⟩ := need_elim h2
      refine AO.op rfl (AOp.indexSl rfl rfl (ltb rfl) rfl rfl el69 q357.1 q357.2 ?_)
      obtain ⟨x358, q359, h2⟩ := idx_elim h2
      refine AO.op rfl (AOp.load1 rfl rfl (ltb rfl) rfl agg54 rfl (atO q359.2) ?_)
      refine AO.op rfl (AOp.move rfl rfl (ltb rfl) rfl ?_)
      refine AO.op rfl (AOp.move rfl rfl (ltb rfl) rfl ?_)
      obtain ⟨z360, q361, h2⟩ := bind_elim h2
      refine AO.op rfl (AOp.farith rfl rfl (ltb rfl) rfl rfl q361 ?_)
      obtain ⟨z362, q363, h2⟩ := bind_elim h2
      refine AO.op rfl (AOp.farith rfl rfl (ltb rfl) rfl rfl q363 ?_)
      obtain ⟨q364, h2⟩ := need_elim h2
      refine AO.op rfl (AOp.indexSl rfl rfl (ltb rfl) rfl rfl el69 q364.1 q364.2 ?_)
      obtain ⟨q365, h2⟩ := need_elim h2
      refine AO.op rfl (AOp.storeL (f := fun z => SV.d (keS1 z)) (l := (g313.2.1.set ((0 : Int)).toNat z342)) (i := ((1 : Int)).toNat) (v := z362) rfl rfl rfl rfl size54 rfl rfl rfl q365 ?_)
      refine AO.nil ?_
      change AC _ _ _ _
      refine AC.region ?_
      refine AO.op rfl (AOp.move rfl rfl (ltb rfl) rfl ?_)
      refine AO.op rfl (AOp.move rfl rfl (ltb rfl) rfl ?_)
      obtain ⟨q366, h2⟩ := need_elim h2
      refine AO.op rfl (AOp.iadd rfl rfl (ltb rfl) rfl rfl rfl q366.1 q366.2 ?_)
      refine AO.op rfl (AOp.assign rfl rfl (ltb rfl) rfl ?_)
      refine AO.objs (obs' := [.fix 40 [.d (.v (.slice none 0 0))], .fix 4 [.d (dbool false)], .dead, .fix 54 (List.map (fun z => SV.d (keS1 z)) ((g313.2.1.set ((0 : Int)).toNat z342).set ((1 : Int)).toNat z362)), .fix 54 (List.map (fun z => SV.d (keS1 z)) g97.1), .fix 54 (List.map (fun z => SV.d (keS1 z)) g97.2.1), .fix 82 [.d (di .i64 a0), .d (di .i64 y2), .d (oN eS1 g83), .sl 4 1 0 ((y7).toNat) ((y7).toNat), .d (dfl g97.2.2.1), .sl 5 1 0 ((y10).toNat) ((y10).toNat), .sl 3 1 0 ((y4).toNat) ((y4).toNat), .d (dfl z326)], .fix 49 [.d (di .i64 x61.Kind), .d (di .i64 x61.Layout), .d (di .i64 x61.SRID), .d (eS1 x61.Flat), .d (eS2 x61.Ends), .d (eS3 x61.Endss), .d (eS0 x61.Kids)], .dead, .fix 49 [.d (di .i64 x61.Kind), .d (di .i64 x61.Layout), .d (di .i64 x61.SRID), .d (eS1 x61.Flat), .d (eS2 x61.Ends), .d (eS3 x61.Endss), .d (eS0 x61.Kids)], .fix 92 [.d (di .i64 y72.geom2.geom1.geom0.layout), .d (di .i64 y72.geom2.geom1.geom0.stride), .d (eS1 y72.geom2.geom1.geom0.flatCoords), .d (di .i64 x61.SRID), .d (eS2 y72.geom2.ends)], .dead, .frame fr75 [(4, .ptr 0 0), (5, .ptr 1 0), (6, .ptr 6 0), (12, .d (eS0 a1)), (13, .d (di .i64 ((a1.length : Nat) : Int))), (14, .d (di .i64 g57.1))], .dead, .dead, .dead, .fix 98 [.d (di .i64 y89.geom1.geom0.layout), .d (di .i64 y89.geom1.geom0.stride), .d (eS1 y89.geom1.geom0.flatCoords), .d (di .i64 y89.geom1.geom0.srid)], .dead, .frame fr92 [(0, .ptr 6 0), (1, .ptr 10 0)], .grow 54 1 (List.map keS1 g97.2.2.2.1), .grow 54 1 (List.map keS1 g97.2.2.2.2), .frame fr98 []]) rfl ?_
      refine AO.nil ?_
      exact ⟨((g313.1 + y2), ((g313.2.1.set ((0 : Int)).toNat z342).set ((1 : Int)).toNat z362), z326), _, rfl, (LeL.refl _), rfl, (okU_mk rfl (okU_cons rfl (okU_cons rfl (okU_cons rfl (okU_cons (okU_fixl (fun _ => rfl)) (okU_cons (okU_fixl (fun _ => rfl)) (okU_cons (okU_fixl (fun _ => rfl)) (okU_cons rfl (okU_cons rfl (okU_cons rfl (okU_cons rfl (okU_cons rfl (okU_cons rfl (okU_cons rfl (okU_cons rfl (okU_cons rfl (okU_cons rfl (okU_cons rfl (okU_cons rfl (okU_cons rfl (okU_cons rfl (okU_cons rfl (okU_cons rfl okU_nil))))))))))))))))))))))), h2⟩
     replace h2 := cF h2 q317
     refine AC.exit ?_
     obtain rfl := Option.some.inj h2
     exact ⟨(g313.2.1, g313.2.2), _, rfl, (LeL.refl _), rfl, (okU_mk rfl (okU_cons rfl (okU_cons rfl (okU_cons rfl (okU_cons (okU_fixl (fun _ => rfl)) (okU_cons (okU_fixl (fun _ => rfl)) (okU_cons (okU_fixl (fun _ => rfl)) (okU_cons rfl (okU_cons rfl (okU_cons rfl (okU_cons rfl (okU_cons rfl (okU_cons rfl (okU_cons rfl (okU_cons rfl (okU_cons rfl (okU_cons rfl (okU_cons rfl (okU_cons rfl (okU_cons rfl (okU_cons rfl (okU_cons rfl (okU_cons rfl okU_nil))))))))))))))))))))))), aftL h1⟩
    intro g101 h1
    unfold p_PolygonsCentroid_k6 at h1
    refine inlend (ob' := [.fix 40 [.d (.v (.slice none 0 0))], .fix 4 [.d (dbool false)], .dead, .fix 54 (List.map (fun z => SV.d (keS1 z)) g101.1), .fix 54 (List.map (fun z => SV.d (keS1 z)) g97.1), .fix 54 (List.map (fun z => SV.d (keS1 z)) g97.2.1), .fix 82 [.d (di .i64 a0), .d (di .i64 y2), .d (oN eS1 g83), .sl 4 1 0 ((y7).toNat) ((y7).toNat), .d (dfl g97.2.2.1), .sl 5 1 0 ((y10).toNat) ((y10).toNat), .sl 3 1 0 ((y4).toNat) ((y4).toNat), .d (dfl g101.2)], .fix 49 [.d (di .i64 x61.Kind), .d (di .i64 x61.Layout), .d (di .i64 x61.SRID), .d (eS1 x61.Flat), .d (eS2 x61.Ends), .d (eS3 x61.Endss), .d (eS0 x61.Kids)], .dead, .fix 49 [.d (di .i64 x61.Kind), .d (di .i64 x61.Layout), .d (di .i64 x61.SRID), .d (eS1 x61.Flat), .d (eS2 x61.Ends), .d (eS3 x61.Endss), .d (eS0 x61.Kids)], .fix 92 [.d (di .i64 y72.geom2.geom1.geom0.layout), .d (di .i64 y72.geom2.geom1.geom0.stride), .d (eS1 y72.geom2.geom1.geom0.flatCoords), .d (di .i64 x61.SRID), .d (eS2 y72.geom2.ends)], .dead, .frame fr75 [(4, .ptr 0 0), (5, .ptr 1 0), (6, .ptr 6 0), (12, .d (eS0 a1)), (13, .d (di .i64 ((a1.length : Nat) : Int))), (14, .d (di .i64 g57.1))], .dead, .dead, .dead, .fix 98 [.d (di .i64 y89.geom1.geom0.layout), .d (di .i64 y89.geom1.geom0.stride), .d (eS1 y89.geom1.geom0.flatCoords), .d (di .i64 y89.geom1.geom0.srid)], .dead, .frame fr92 [(0, .ptr 6 0), (1, .ptr 10 0)], .grow 54 1 (List.map keS1 g97.2.2.2.1), .grow 54 1 (List.map keS1 g97.2.2.2.2), .dead]) (e' := []) (r := .tu []) rfl rfl rfl ?_
    change AO _ _ _ _ _
    refine AO.objs (obs' := [.fix 40 [.d (.v (.slice none 0 0))], .fix 4 [.d (dbool false)], .dead, .fix 54 (List.map (fun z => SV.d (keS1 z)) g101.1), .fix 54 (List.map (fun z => SV.d (keS1 z)) g97.1), .fix 54 (List.map (fun z => SV.d (keS1 z)) g97.2.1), .fix 82 [.d (di .i64 a0), .d (di .i64 y2), .d (oN eS1 g83), .sl 4 1 0 ((y7).toNat) ((y7).toNat), .d (dfl g97.2.2.1), .sl 5 1 0 ((y10).toNat) ((y10).toNat), .sl 3 1 0 ((y4).toNat) ((y4).toNat), .d (dfl g101.2)], .fix 49 [.d (di .i64 x61.Kind), .d (di .i64 x61.Layout), .d (di .i64 x61.SRID), .d (eS1 x61.Flat), .d (eS2 x61.Ends), .d (eS3 x61.Endss), .d (eS0 x61.Kids)], .dead, .fix 49 [.d (di .i64 x61.Kind), .d (di .i64 x61.Layout), .d (di .i64 x61.SRID), .d (eS1 x61.Flat), .d (eS2 x61.Ends), .d (eS3 x61.Endss), .d (eS0 x61.Kids)], .fix 92 [.d (di .i64 y72.geom2.geom1.geom0.layout), .d (di .i64 y72.geom2.geom1.geom0.stride), .d (eS1 y72.geom2.geom1.geom0.flatCoords), .d (di .i64 x61.SRID), .d (eS2 y72.geom2.ends)], .dead, .frame fr75 [(4, .ptr 0 0), (5, .ptr 1 0), (6, .ptr 6 0), (12, .d (eS0 a1)), (13, .d (di .i64 ((a1.length : Nat) : Int))), (14, .d (di .i64 g57.1))], .dead, .dead, .dead, .fix 98 [.d (di .i64 y89.geom1.geom0.layout), .d (di .i64 y89.geom1.geom0.stride), .d (eS1 y89.geom1.geom0.flatCoords), .d (di .i64 y89.geom1.geom0.srid)], .dead, .frame fr92 [(0, .ptr 6 0), (1, .ptr 10 0)], .grow 54 1 (List.map keS1 g97.2.2.2.1), .grow 54 1 (List.map keS1 g97.2.2.2.2), .dead]) rfl ?_
    refine AO.nil ?_
    refine inlend (ob' := [.fix 40 [.d (.v (.slice none 0 0))], .fix 4 [.d (dbool false)], .dead, .fix 54 (List.map (fun z => SV.d (keS1 z)) g101.1), .fix 54 (List.map (fun z => SV.d (keS1 z)) g97.1), .fix 54 (List.map (fun z => SV.d (keS1 z)) g97.2.1), .fix 82 [.d (di .i64 a0), .d (di .i64 y2), .d (oN eS1 g83), .sl 4 1 0 ((y7).toNat) ((y7).toNat), .d (dfl g97.2.2.1), .sl 5 1 0 ((y10).toNat) ((y10).toNat), .sl 3 1 0 ((y4).toNat) ((y4).toNat), .d (dfl g101.2)], .fix 49 [.d (di .i64 x61.Kind), .d (di .i64 x61.Layout), .d (di .i64 x61.SRID), .d (eS1 x61.Flat), .d (eS2 x61.Ends), .d (eS3 x61.Endss), .d (eS0 x61.Kids)], .dead, .fix 49 [.d (di .i64 x61.Kind), .d (di .i64 x61.Layout), .d (di .i64 x61.SRID), .d (eS1 x61.Flat), .d (eS2 x61.Ends), .d (eS3 x61.Endss), .d (eS0 x61.Kids)], .fix 92 [.d (di .i64 y72.geom2.geom1.geom0.layout), .d (di .i64 y72.geom2.geom1.geom0.stride), .d (eS1 y72.geom2.geom1.geom0.flatCoords), .d (di .i64 x61.SRID), .d (eS2 y72.geom2.ends)], .dead, .frame fr75 [(4, .ptr 0 0), (5, .ptr 1 0), (6, .ptr 6 0), (12, .d (eS0 a1)), (13, .d (di .i64 ((a1.length : Nat) : Int))), (14, .d (di .i64 g57.1))], .dead, .dead, .dead, .fix 98 [.d (di .i64 y89.geom1.geom0.layout), .d (di .i64 y89.geom1.geom0.stride), .d (eS1 y89.geom1.geom0.flatCoords), .d (di .i64 y89.geom1.geom0.srid)], .dead, .dead, .grow 54 1 (List.map keS1 g97.2.2.2.1), .grow 54 1 (List.map keS1 g97.2.2.2.2), .dead]) (e' := [(0, .ptr 6 0), (1, .ptr 10 0)]) (r := .tu []) rfl rfl rfl ?_
    change AO _ _ _ _ _
    refine AO.objs (obs' := [.fix 40 [.d (.v (.slice none 0 0))], .fix 4 [.d (dbool false)], .dead, .fix 54 (List.map (fun z => SV.d (keS1 z)) g101.1), .fix 54 (List.map (fun z => SV.d (keS1 z)) g97.1), .fix 54 (List.map (fun z => SV.d (keS1 z)) g97.2.1), .fix 82 [.d (di .i64 a0), .d (di .i64 y2), .d (oN eS1 g83), .sl 4 1 0 ((y7).toNat) ((y7).toNat), .d (dfl g97.2.2.1), .sl 5 1 0 ((y10).toNat) ((y10).toNat), .sl 3 1 0 ((y4).toNat) ((y4).toNat), .d (dfl g101.2)], .fix 49 [.d (di .i64 x61.Kind), .d (di .i64 x61.Layout), .d (di .i64 x61.SRID), .d (eS1 x61.Flat), .d (eS2 x61.Ends), .d (eS3 x61.Endss), .d (eS0 x61.Kids)], .dead, .fix 49 [.d (di .i64 x61.Kind), .d (di .i64 x61.Layout), .d (di .i64 x61.SRID), .d (eS1 x61.Flat), .d (eS2 x61.Ends), .d (eS3 x61.Endss), .d (eS0 x61.Kids)], .fix 92 [.d (di .i64 y72.geom2.geom1.geom0.layout), .d (di .i64 y72.geom2.geom1.geom0.stride), .d (eS1 y72.geom2.geom1.geom0.flatCoords), .d (di .i64 x61.SRID), .d (eS2 y72.geom2.ends)], .dead, .frame fr75 [(4, .ptr 0 0), (5, .ptr 1 0), (6, .ptr 6 0), (12, .d (eS0 a1)), (13, .d (di .i64 ((a1.length : Nat) : Int))), (14, .d (di .i64 g57.1))], .dead, .dead, .dead, .fix 98 [.d (di .i64 y89.geom1.geom0.layout), .d (di .i64 y89.geom1.geom0.stride), .d (eS1 y89.geom1.geom0.flatCoords), .d (di .i64 y89.geom1.geom0.srid)], .dead, .dead, .grow 54 1 (List.map keS1 g97.2.2.2.1), .grow 54 1 (List.map keS1 g97.2.2.2.2), .dead]) rfl ?_
    refine AO.nil ?_
    change AC _ _ _ _
    refine AC.seq ?_
    refine AC.region ?_
    refine AO.op rfl (AOp.assign rfl rfl (ltb rfl) rfl ?_)
    refine AO.nil ?_
    change AC _ _ _ _
    obtain ⟨o102, l103, h1⟩ := bind_elim h1
    refine AC.joinE (V := ((List Nat) × (List Nat) × (List Nat) × Nat × Nat)) [] [] 22 (fun g104 => []) (fun g104 => [.fix 40 [.d (.v (.slice none 0 0))], .fix 4 [.d (dbool false)], .dead, .fix 54 (List.map (fun z => SV.d (keS1 z)) g104.1), .fix 54 (List.map (fun z => SV.d (keS1 z)) g104.2.1), .fix 54 (List.map (fun z => SV.d (keS1 z)) g104.2.2.1), .fix 82 [.d (di .i64 a0), .d (di .i64 y2), .d (oN eS1 g83), .sl 4 1 0 ((y7).toNat) ((y7).toNat), .d (dfl g104.2.2.2.1), .sl 5 1 0 ((y10).toNat) ((y10).toNat), .sl 3 1 0 ((y4).toNat) ((y4).toNat), .d (dfl g104.2.2.2.2)], .fix 49 [.d (di .i64 x61.Kind), .d (di .i64 x61.Layout), .d (di .i64 x61.SRID), .d (eS1 x61.Flat), .d (eS2 x61.Ends), .d (eS3 x61.Endss), .d (eS0 x61.Kids)], .dead, .fix 49 [.d (di .i64 x61.Kind), .d (di .i64 x61.Layout), .d (di .i64 x61.SRID), .d (eS1 x61.Flat), .d (eS2 x61.Ends), .d (eS3 x61.Endss), .d (eS0 x61.Kids)], .fix 92 [.d (di .i64 y72.geom2.geom1.geom0.layout), .d (di .i64 y72.geom2.geom1.geom0.stride), .d (eS1 y72.geom2.geom1.geom0.flatCoords), .d (di .i64 x61.SRID), .d (eS2 y72.geom2.ends)], .dead, .frame fr75 [(4, .ptr 0 0), (5, .ptr 1 0), (6, .ptr 6 0), (12, .d (eS0 a1)), (13, .d (di .i64 ((a1.length : Nat) : Int))), (14, .d (di .i64 g57.1))], .dead, .dead, .dead, .fix 98 [.d (di .i64 y89.geom1.geom0.layout), .d (di .i64 y89.geom1.geom0.stride), .d (eS1 y89.geom1.geom0.flatCoords), .d (di .i64 y89.geom1.geom0.srid)], .dead, .dead, .grow 54 1 (List.map keS1 g97.2.2.2.1), .grow 54 1 (List.map keS1 g97.2.2.2.2), .dead]) (fun g104 => (p_PolygonsCentroid_k7 g57 (iter (p_PolygonsCentroid_l2 a0 a1 F y2 y4 y7 y10) n59) g83) g104 = some o13) rfl ?_ ?_
    ·refine AC.block ?_
     refine AC.loopP (V := (Int × (List Nat) × (List Nat) × (List Nat) × Nat × Nat)) (p_PolygonsCentroid_l8 a0 F y2 y4 y7 y10 y72 g83) o102 [0, 1] [4] 22 (fun g106 => [(4, .d (di .i64 g106.1))]) (fun g106 => [.fix 40 [.d (.v (.slice none 0 0))], .fix 4 [.d (dbool false)], .dead, .fix 54 (List.map (fun z => SV.d (keS1 z)) g106.2.1), .fix 54 (List.map (fun z => SV.d (keS1 z)) g106.2.2.1), .fix 54 (List.map (fun z => SV.d (keS1 z)) g106.2.2.2.1), .fix 82 [.d (di .i64 a0), .d (di .i64 y2), .d (oN eS1 g83), .sl 4 1 0 ((y7).toNat) ((y7).toNat), .d (dfl g106.2.2.2.2.1), .sl 5 1 0 ((y10).toNat) ((y10).toNat), .sl 3 1 0 ((y4).toNat) ((y4).toNat), .d (dfl g106.2.2.2.2.2)], .fix 49 [.d (di .i64 x61.Kind), .d (di .i64 x61.Layout), .d (di .i64 x61.SRID), .d (eS1 x61.Flat), .d (eS2 x61.Ends), .d (eS3 x61.Endss), .d (eS0 x61.Kids)], .dead, .fix 49 [.d (di .i64 x61.Kind), .d (di .i64 x61.Layout), .d (di .i64 x61.SRID), .d (eS1 x61.Flat), .d (eS2 x61.Ends), .d (eS3 x61.Endss), .d (eS0 x61.Kids)], .fix 92 [.d (di .i64 y72.geom2.geom1.geom0.layout), .d (di .i64 y72.geom2.geom1.geom0.stride), .d (eS1 y72.geom2.geom1.geom0.flatCoords), .d (di .i64 x61.SRID), .d (eS2 y72.geom2.ends)], .dead, .frame fr75 [(4, .ptr 0 0), (5, .ptr 1 0), (6, .ptr 6 0), (12, .d (eS0 a1)), (13, .d (di .i64 ((a1.length : Nat) : Int))), (14, .d (di .i64 g57.1))], .dead, .dead, .dead, .fix 98 [.d (di .i64 y89.geom1.geom0.layout), .d (di .i64 y89.geom1.geom0.stride), .d (eS1 y89.geom1.geom0.flatCoords), .d (di .i64 y89.geom1.geom0.srid)], .dead, .dead, .grow 54 1 (List.map keS1 g97.2.2.2.1), .grow 54 1 (List.map keS1 g97.2.2.2.2), .dead]) F ((1 : Int), g101.1, g97.1, g97.2.1, g97.2.2.1, g101.2) l103 rfl rfl (LeL.refl _) rfl (okU_mk rfl (okU_cons rfl (okU_cons rfl (okU_cons rfl (okU_cons (okU_fixl (fun _ => rfl)) (okU_cons (okU_fixl (fun _ => rfl)) (okU_cons (okU_fixl (fun _ => rfl)) (okU_cons rfl (okU_cons rfl (okU_cons rfl (okU_cons rfl (okU_cons rfl (okU_cons rfl (okU_cons rfl (okU_cons rfl (okU_cons rfl (okU_cons rfl (okU_cons rfl (okU_cons rfl (okU_cons rfl (okU_cons rfl (okU_cons rfl (okU_cons rfl okU_nil))))))))))))))))))))))) ?_
     intro n108 g106 h2
     unfold p_PolygonsCentroid_l8 at h2
     refine AC.seq ?_
     refine AC.seq ?_
     refine AC.region ?_
     refine AO.op rfl (AOp.move rfl rfl (ltb rfl) rfl ?_)
     refine AO.op rfl (AOp.move rfl rfl (ltb rfl) rfl ?_)
     refine AO.op rfl (AOp.inl [0, 1, 4, 20] (by kernel_rfl) Tryz.func42 rfl Tryz.ntmps42 rfl rfl (ltb rfl) rfl (leb rfl) rfl ?_)
     intro fr109
     refine AC.seq ?_
     refine AC.region ?_
     refine AO.op rfl (AOp.assign rfl rfl (ltb rfl) rfl ?_)
     refine AO.objs (obs' := [.fix 40 [.d (.v (.slice none 0 0))], .fix 4 [.d (dbool false)], .dead, .fix 54 (List.map (fun z => SV.d (keS1 z)) g106.2.1), .fix 54 (List.map (fun z => SV.d (keS1 z)) g106.2.2.1), .fix 54 (List.map (fun z => SV.d (keS1 z)) g106.2.2.2.1), .fix 82 [.d (di .i64 a0), .d (di .i64 y2), .d (oN eS1 g83), .sl 4 1 0 ((y7).toNat) ((y7).toNat), .d (dfl g106.2.2.2.2.1), .sl 5 1 0 ((y10).toNat) ((y10).toNat), .sl 3 1 0 ((y4).toNat) ((y4).toNat), .d (dfl g106.2.2.2.2.2)], .fix 49 [.d (di .i64 x61.Kind), .d (di .i64 x61.Layout), .d (di .i64 x61.SRID), .d (eS1 x61.Flat), .d (eS2 x61.Ends), .d (eS3 x61.Endss), .d (eS0 x61.Kids)], .dead, .fix 49 [.d (di .i64 x61.Kind), .d (di .i64 x61.Layout), .d (di .i64 x61.SRID), .d (eS1 x61.Flat), .d (eS2 x61.Ends), .d (eS3 x61.Endss), .d (eS0 x61.Kids)], .fix 92 [.d (di .i64 y72.geom2.geom1.geom0.layout), .d (di .i64 y72.geom2.geom1.geom0.stride), .d (eS1 y72.geom2.geom1.geom0.flatCoords), .d (di .i64 x61.SRID), .d (eS2 y72.geom2.ends)], .dead, .frame fr75 [(4, .ptr 0 0), (5, .ptr 1 0), (6, .ptr 6 0), (12, .d (eS0 a1)), (13, .d (di .i64 ((a1.length : Nat) : Int))), (14, .d (di .i64 g57.1))], .dead, .dead, .dead, .fix 98 [.d (di .i64 y89.geom1.geom0.layout), .d (di .i64 y89.geom1.geom0.stride), .d (eS1 y89.geom1.geom0.flatCoords), .d (di .i64 y89.geom1.geom0.srid)], .dead, .dead, .grow 54 1 (List.map keS1 g97.2.2.2.1), .grow 54 1 (List.map keS1 g97.2.2.2.2), .dead, .frame fr109 [(0, .ptr 6 0), (1, .ptr 10 0), (4, .d (di .i64 g106.1)), (20, .d (di .i64 g106.1))]]) rfl ?_
     refine AO.nil ?_
     change AC _ _ _ _
     refine AC.seq ?_
     refine AC.region ?_
     refine AO.op rfl (AOp.move rfl rfl (ltb rfl) rfl ?_)
     refine AO.op rfl (AOp.nilCheck rfl rfl (ltb rfl) rfl rfl ?_)
     refine AO.op rfl (AOp.fieldAddr rfl rfl (ltb rfl) rfl fo92_0 ?_)
     refine AO.op rfl (AOp.fieldAddr rfl rfl (ltb rfl) rfl fo90_1 ?_)
     refine AO.op rfl (AOp.load1 rfl rfl (ltb rfl) rfl agg46 rfl rfl ?_)
     refine AO.op rfl (AOp.lenDs (n := y72.geom2.ends.length) (cells := (List.map keS2 y72.geom2.ends)) rfl rfl (ltb rfl) rfl el46 (by decide) (len1 _ _) ?_)
     refine AO.op rfl (AOp.assign rfl rfl (ltb rfl) rfl ?_)
     refine AO.nil ?_
     change AC _ _ _ _
     refine AC.ret ?_
     refine inlret (ob' := [.fix 40 [.d (.v (.slice none 0 0))], .fix 4 [.d (dbool false)], .dead, .fix 54 (List.map (fun z => SV.d (keS1 z)) g106.2.1), .fix 54 (List.map (fun z => SV.d (keS1 z)) g106.2.2.1), .fix 54 (List.map (fun z => SV.d (keS1 z)) g106.2.2.2.1), .fix 82 [.d (di .i64 a0), .d (di .i64 y2), .d (oN eS1 g83), .sl 4 1 0 ((y7).toNat) ((y7).toNat), .d (dfl g106.2.2.2.2.1), .sl 5 1 0 ((y10).toNat) ((y10).toNat), .sl 3 1 0 ((y4).toNat) ((y4).toNat), .d (dfl g106.2.2.2.2.2)], .fix 49 [.d (di .i64 x61.Kind), .d (di .i64 x61.Layout), .d (di .i64 x61.SRID), .d (eS1 x61.Flat), .d (eS2 x61.Ends), .d (eS3 x61.Endss), .d (eS0 x61.Kids)], .dead, .fix 49 [.d (di .i64 x61.Kind), .d (di .i64 x61.Layout), .d (di .i64 x61.SRID), .d (eS1 x61.Flat), .d (eS2 x61.Ends), .d (eS3 x61.Endss), .d (eS0 x61.Kids)], .fix 92 [.d (di .i64 y72.geom2.geom1.geom0.layout), .d (di .i64 y72.geom2.geom1.geom0.stride), .d (eS1 y72.geom2.geom1.geom0.flatCoords), .d (di .i64 x61.SRID), .d (eS2 y72.geom2.ends)], .dead, .frame fr75 [(4, .ptr 0 0), (5, .ptr 1 0), (6, .ptr 6 0), (12, .d (eS0 a1)), (13, .d (di .i64 ((a1.length : Nat) : Int))), (14, .d (di .i64 g57.1))], .dead, .dead, .dead, .fix 98 [.d (di .i64 y89.geom1.geom0.layout), .d (di .i64 y89.geom1.geom0.stride), .d (eS1 y89.geom1.geom0.flatCoords), .d (di .i64 y89.geom1.geom0.srid)], .dead, .dead, .grow 54 1 (List.map keS1 g97.2.2.2.1), .grow 54 1 (List.map keS1 g97.2.2.2.2), .dead, .dead]) (e' := [(0, .ptr 6 0), (1, .ptr 10 0), (4, .d (di .i64 g106.1)), (20, .d (di .i64 g106.1))]) (r := .d (di .i64 ((y72.geom2.ends.length : Nat) : Int))) rfl rfl rfl ?_
     change AO _ _ _ _ _
     refine AO.op rfl (AOp.ilss rfl rfl (ltb rfl) rfl rfl ?_)
     refine AO.objs (obs' := [.fix 40 [.d (.v (.slice none 0 0))], .fix 4 [.d (dbool false)], .dead, .fix 54 (List.map (fun z => SV.d (keS1 z)) g106.2.1), .fix 54 (List.map (fun z => SV.d (keS1 z)) g106.2.2.1), .fix 54 (List.map (fun z => SV.d (keS1 z)) g106.2.2.2.1), .fix 82 [.d (di .i64 a0), .d (di .i64 y2), .d (oN eS1 g83), .sl 4 1 0 ((y7).toNat) ((y7).toNat), .d (dfl g106.2.2.2.2.1), .sl 5 1 0 ((y10).toNat) ((y10).toNat), .sl 3 1 0 ((y4).toNat) ((y4).toNat), .d (dfl g106.2.2.2.2.2)], .fix 49 [.d (di .i64 x61.Kind), .d (di .i64 x61.Layout), .d (di .i64 x61.SRID), .d (eS1 x61.Flat), .d (eS2 x61.Ends), .d (eS3 x61.Endss), .d (eS0 x61.Kids)], .dead, .fix 49 [.d (di .i64 x61.Kind), .d (di .i64 x61.Layout), .d (di .i64 x61.SRID), .d (eS1 x61.Flat), .d (eS2 x61.Ends), .d (eS3 x61.Endss), .d (eS0 x61.Kids)], .fix 92 [.d (di .i64 y72.geom2.geom1.geom0.layout), .d (di .i64 y72.geom2.geom1.geom0.stride), .d (eS1 y72.geom2.geom1.geom0.flatCoords), .d (di .i64 x61.SRID), .d (eS2 y72.geom2.ends)], .dead, .frame fr75 [(4, .ptr 0 0), (5, .ptr 1 0), (6, .ptr 6 0), (12, .d (eS0 a1)), (13, .d (di .i64 ((a1.length : Nat) : Int))), (14, .d (di .i64 g57.1))], .dead, .dead, .dead, .fix 98 [.d (di .i64 y89.geom1.geom0.layout), .d (di .i64 y89.geom1.geom0.stride), .d (eS1 y89.geom1.geom0.flatCoords), .d (di .i64 y89.geom1.geom0.srid)], .dead, .dead, .grow 54 1 (List.map keS1 g97.2.2.2.1), .grow 54 1 (List.map keS1 g97.2.2.2.2), .dead, .dead]) rfl ?_
     refine AO.nil ?_
     change AC _ _ _ _
     refine AC.cond rfl (fun q110 => ?_) (fun q110 => ?_)
     ·replace h2 := cT h2 q110
      refine AC.skip ?_
      change AC _ _ _ _
      refine AC.seq ?_
      refine AC.block ?_
      refine AC.region ?_
      refine AO.op rfl (AOp.move rfl rfl (ltb rfl) rfl ?_)
      refine AO.op rfl (AOp.move rfl rfl (ltb rfl) rfl ?_)
      refine AO.op rfl (AOp.move rfl rfl (ltb rfl) rfl ?_)
      refine AO.op rfl (AOp.inl [0, 1, 4, 26] (by kernel_rfl) Tryz.func40 rfl Tryz.ntmps40 rfl rfl (ltb rfl) rfl (leb rfl) rfl ?_)
      intro fr111
      refine AC.seq ?_
      refine AC.region ?_
      refine AO.op rfl (AOp.assign rfl rfl (ltb rfl) rfl ?_)
      refine AO.objs (obs' := [.fix 40 [.d (.v (.slice none 0 0))], .fix 4 [.d (dbool false)], .dead, .fix 54 (List.map (fun z => SV.d (keS1 z)) g106.2.1), .fix 54 (List.map (fun z => SV.d (keS1 z)) g106.2.2.1), .fix 54 (List.map (fun z => SV.d (keS1 z)) g106.2.2.2.1), .fix 82 [.d (di .i64 a0), .d (di .i64 y2), .d (oN eS1 g83), .sl 4 1 0 ((y7).toNat) ((y7).toNat), .d (dfl g106.2.2.2.2.1), .sl 5 1 0 ((y10).toNat) ((y10).toNat), .sl 3 1 0 ((y4).toNat) ((y4).toNat), .d (dfl g106.2.2.2.2.2)], .fix 49 [.d (di .i64 x61.Kind), .d (di .i64 x61.Layout), .d (di .i64 x61.SRID), .d (eS1 x61.Flat), .d (eS2 x61.Ends), .d (eS3 x61.Endss), .d (eS0 x61.Kids)], .dead, .fix 49 [.d (di .i64 x61.Kind), .d (di .i64 x61.Layout), .d (di .i64 x61.SRID), .d (eS1 x61.Flat), .d (eS2 x61.Ends), .d (eS3 x61.Endss), .d (eS0 x61.Kids)], .fix 92 [.d (di .i64 y72.geom2.geom1.geom0.layout), .d (di .i64 y72.geom2.geom1.geom0.stride), .d (eS1 y72.geom2.geom1.geom0.flatCoords), .d (di .i64 x61.SRID), .d (eS2 y72.geom2.ends)], .dead, .frame fr75 [(4, .ptr 0 0), (5, .ptr 1 0), (6, .ptr 6 0), (12, .d (eS0 a1)), (13, .d (di .i64 ((a1.length : Nat) : Int))), (14, .d (di .i64 g57.1))], .dead, .dead, .dead, .fix 98 [.d (di .i64 y89.geom1.geom0.layout), .d (di .i64 y89.geom1.geom0.stride), .d (eS1 y89.geom1.geom0.flatCoords), .d (di .i64 y89.geom1.geom0.srid)], .dead, .dead, .grow 54 1 (List.map keS1 g97.2.2.2.1), .grow 54 1 (List.map keS1 g97.2.2.2.2), .dead, .dead, .frame fr111 [(0, .ptr 6 0), (1, .ptr 10 0), (4, .d (di .i64 g106.1)), (26, .ptr 6 0)]]) rfl ?_
      refine AO.nil ?_
      change AC _ _ _ _
      refine AC.seq ?_
      refine AC.region ?_
      refine AO.op rfl (AOp.assign rfl rfl (ltb rfl) rfl ?_)
      refine AO.nil ?_
      change AC _ _ _ _
      refine AC.joinP (V := Int) [0, 1] [5] 24 (fun g112 => [(5, .d (di .i64 g112))]) (fun g112 => [.fix 40 [.d (.v (.slice none 0 0))], .fix 4 [.d (dbool false)], .dead, .fix 54 (List.map (fun z => SV.d (keS1 z)) g106.2.1), .fix 54 (List.map (fun z => SV.d (keS1 z)) g106.2.2.1), .fix 54 (List.map (fun z => SV.d (keS1 z)) g106.2.2.2.1), .fix 82 [.d (di .i64 a0), .d (di .i64 y2), .d (oN eS1 g83), .sl 4 1 0 ((y7).toNat) ((y7).toNat), .d (dfl g106.2.2.2.2.1), .sl 5 1 0 ((y10).toNat) ((y10).toNat), .sl 3 1 0 ((y4).toNat) ((y4).toNat), .d (dfl g106.2.2.2.2.2)], .fix 49 [.d (di .i64 x61.Kind), .d (di .i64 x61.Layout), .d (di .i64 x61.SRID), .d (eS1 x61.Flat), .d (eS2 x61.Ends), .d (eS3 x61.Endss), .d (eS0 x61.Kids)], .dead, .fix 49 [.d (di .i64 x61.Kind), .d (di .i64 x61.Layout), .d (di .i64 x61.SRID), .d (eS1 x61.Flat), .d (eS2 x61.Ends), .d (eS3 x61.Endss), .d (eS0 x61.Kids)], .fix 92 [.d (di .i64 y72.geom2.geom1.geom0.layout), .d (di .i64 y72.geom2.geom1.geom0.stride), .d (eS1 y72.geom2.geom1.geom0.flatCoords), .d (di .i64 x61.SRID), .d (eS2 y72.geom2.ends)], .dead, .frame fr75 [(4, .ptr 0 0), (5, .ptr 1 0), (6, .ptr 6 0), (12, .d (eS0 a1)), (13, .d (di .i64 ((a1.length : Nat) : Int))), (14, .d (di .i64 g57.1))], .dead, .dead, .dead, .fix 98 [.d (di .i64 y89.geom1.geom0.layout), .d (di .i64 y89.geom1.geom0.stride), .d (eS1 y89.geom1.geom0.flatCoords), .d (di .i64 y89.geom1.geom0.srid)], .dead, .dead, .grow 54 1 (List.map keS1 g97.2.2.2.1), .grow 54 1 (List.map keS1 g97.2.2.2.2), .dead, .dead, .frame fr111 [(0, .ptr 6 0), (1, .ptr 10 0), (4, .d (di .i64 g106.1)), (26, .ptr 6 0)]]) (fun g112 => (p_PolygonsCentroid_k9 a0 F y2 y4 y7 y10 y72 g83 g106 (iter (p_PolygonsCentroid_l8 a0 F y2 y4 y7 y10 y72 g83) n108)) g112 = some o102) rfl ?_ ?_
      ·refine AC.seq ?_
       refine AC.region ?_
       refine AO.op rfl (AOp.move rfl rfl (ltb rfl) rfl ?_)
       refine AO.op rfl (AOp.igtr rfl rfl (ltb rfl) rfl rfl ?_)
       refine AO.nil ?_
       change AC _ _ _ _
       refine AC.cond rfl (fun q309 => ?_) (fun q309 => ?_)
       ·replace h2 := cT h2 q309
        refine AC.region ?_
        refine AO.op rfl (AOp.move rfl rfl (ltb rfl) rfl ?_)
        refine AO.op rfl (AOp.nilCheck rfl rfl (ltb rfl) rfl rfl ?_)
        refine AO.op rfl (AOp.fieldAddr rfl rfl (ltb rfl) rfl fo92_0 ?_)
        refine AO.op rfl (AOp.fieldAddr rfl rfl (ltb rfl) rfl fo90_1 ?_)
        refine AO.op rfl (AOp.load1 rfl rfl (ltb rfl) rfl agg46 rfl rfl ?_)
        refine AO.op rfl (AOp.move rfl rfl (ltb rfl) rfl ?_)
        obtain ⟨q310, h2⟩ := need_elim h2
        refine AO.op rfl (AOp.isub rfl rfl (ltb rfl) rfl rfl rfl q310.1 q310.2 ?_)
        obtain ⟨x311, q312, h2⟩ := idx_elim h2
        refine AO.op rfl (AOp.indexDs (cells := (List.map keS2 y72.geom2.ends)) rfl rfl (ltb rfl) rfl rfl el46 (by decide) q312.1 (lt1 q312.2) ?_)
        refine AO.op rfl (AOp.loadEp rfl rfl (ltb rfl) rfl agg3 (at1 q312.2) ?_)
        refine AO.op rfl (AOp.assign rfl rfl (ltb rfl) rfl ?_)
        refine AO.nil ?_
        exact ⟨x311, _, rfl, (LeL.refl _), rfl, (okU_mk rfl (okU_cons rfl (okU_cons rfl (okU_cons rfl (okU_cons (okU_fixl (fun _ => rfl)) (okU_cons (okU_fixl (fun _ => rfl)) (okU_cons (okU_fixl (fun _ => rfl)) (okU_cons rfl (okU_cons rfl (okU_cons rfl (okU_cons rfl (okU_cons rfl (okU_cons rfl (okU_cons rfl (okU_cons rfl (okU_cons rfl (okU_cons rfl (okU_cons rfl (okU_cons rfl (okU_cons rfl (okU_cons rfl (okU_cons rfl (okU_cons rfl (okU_cons rfl (okU_cons rfl okU_nil))))))))))))))))))))))))), h2⟩
       replace h2 := cF h2 q309
       refine AC.skip ?_
       exact ⟨(0 : Int), _, rfl, (LeL.refl _), rfl, (okU_mk rfl (okU_cons rfl (okU_cons rfl (okU_cons rfl (okU_cons (okU_fixl (fun _ => rfl)) (okU_cons (okU_fixl (fun _ => rfl)) (okU_cons (okU_fixl (fun _ => rfl)) (okU_cons rfl (okU_cons rfl (okU_cons rfl (okU_cons rfl (okU_cons rfl (okU_cons rfl (okU_cons rfl (okU_cons rfl (okU_cons rfl (okU_cons rfl (okU_cons rfl (okU_cons rfl (okU_cons rfl (okU_cons rfl (okU_cons rfl (okU_cons rfl (okU_cons rfl (okU_cons rfl okU_nil))))))))))))))))))))))))), h2⟩
      intro g112 h2
      unfold p_PolygonsCentroid_k9 at h2
      refine AC.seq ?_
      obtain ⟨x113, q114, h2⟩ := idx_elim h2
      obtain ⟨q115, h2⟩ := need_elim h2
      refine AC.drawS [0, 1, 2, 3, 4, 5, 6, 7, 8, 9, 10, 11, 12, 13, 14, 15, 16, 17, 18, 19, 20, 21, 22, 23] [] [24, 25] (fun L => [.fix 40 [.d (.v (.slice none 0 0))], .fix 4 [.d (dbool false)], .dead, .fix 54 (List.map (fun z => SV.d (keS1 z)) g106.2.1), .fix 54 (List.map (fun z => SV.d (keS1 z)) g106.2.2.1), .fix 54 (List.map (fun z => SV.d (keS1 z)) g106.2.2.2.1), .fix 82 [.d (di .i64 a0), .d (di .i64 y2), .d (oN eS1 g83), .sl 4 1 0 ((y7).toNat) ((y7).toNat), .d (dfl g106.2.2.2.2.1), .sl 5 1 0 ((y10).toNat) ((y10).toNat), .sl 3 1 0 ((y4).toNat) ((y4).toNat), .d (dfl g106.2.2.2.2.2)], .fix 49 [.d (di .i64 x61.Kind), .d (di .i64 x61.Layout), .d (di .i64 x61.SRID), .d (eS1 x61.Flat), .d (eS2 x61.Ends), .d (eS3 x61.Endss), .d (eS0 x61.Kids)], .dead, .fix 49 [.d (di .i64 x61.Kind), .d (di .i64 x61.Layout), .d (di .i64 x61.SRID), .d (eS1 x61.Flat), .d (eS2 x61.Ends), .d (eS3 x61.Endss), .d (eS0 x61.Kids)], .fix 92 [.d (di .i64 y72.geom2.geom1.geom0.layout), .d (di .i64 y72.geom2.geom1.geom0.stride), .d (eS1 y72.geom2.geom1.geom0.flatCoords), .d (di .i64 x61.SRID), .d (eS2 y72.geom2.ends)], .dead, .frame fr75 [(4, .ptr 0 0), (5, .ptr 1 0), (6, .ptr 6 0), (12, .d (eS0 a1)), (13, .d (di .i64 ((a1.length : Nat) : Int))), (14, .d (di .i64 g57.1))], .dead, .dead, .dead, .fix 98 [.d (di .i64 y89.geom1.geom0.layout), .d (di .i64 y89.geom1.geom0.stride), .d (eS1 y89.geom1.geom0.flatCoords), .d (di .i64 y89.geom1.geom0.srid)], .dead, .dead, .grow 54 1 (List.map keS1 g97.2.2.2.1), .grow 54 1 (List.map keS1 g97.2.2.2.2), .dead, .dead, .frame fr111 [(0, .ptr 6 0), (1, .ptr 10 0), (4, .d (di .i64 g106.1)), (26, .ptr 6 0)]]) [] mixed (by kernel_rfl) (fun _ _ _ => rfl) rfl ?_
      refine AS.op [0] [] [] [] rfl rfl rfl (by kernel_rfl) (by kernel_rfl) rfl rfl (fun _ _ _ h => AOp.move rfl rfl (ltb rfl) rfl h) (by kernel_rfl) ?_
      refine AS.op [17] [] [] [] rfl rfl rfl (by kernel_rfl) (by kernel_rfl) rfl rfl (fun _ _ _ h => AOp.nilCheck rfl rfl (ltb rfl) rfl rfl h) (by kernel_rfl) ?_
      refine AS.op [18] [] [] [] rfl rfl rfl (by kernel_rfl) (by kernel_rfl) rfl rfl (fun _ _ _ h => AOp.fieldAddr rfl rfl (ltb rfl) rfl fo92_0 h) (by kernel_rfl) ?_
      refine AS.op [19] [] [] [] rfl rfl rfl (by kernel_rfl) (by kernel_rfl) rfl rfl (fun _ _ _ h => AOp.fieldAddr rfl rfl (ltb rfl) rfl fo90_0 h) (by kernel_rfl) ?_
      refine AS.op [20] [] [] [] rfl rfl rfl (by kernel_rfl) (by kernel_rfl) rfl rfl (fun _ _ _ h => AOp.fieldAddr rfl rfl (ltb rfl) rfl fo88_0 h) (by kernel_rfl) ?_
      refine AS.op [21] [] [] [] rfl rfl rfl (by kernel_rfl) (by kernel_rfl) rfl rfl (fun _ _ _ h => AOp.fieldAddr rfl rfl (ltb rfl) rfl fo86_0 h) (by kernel_rfl) ?_
      refine AS.op [22] [] [] [] rfl rfl rfl (by kernel_rfl) (by kernel_rfl) rfl rfl (fun _ _ _ h => AOp.load1 rfl rfl (ltb rfl) rfl agg62 rfl rfl h) (by kernel_rfl) ?_
      refine AS.op [0] [] [] [] rfl rfl rfl (by kernel_rfl) (by kernel_rfl) rfl rfl (fun _ _ _ h => AOp.move rfl rfl (ltb rfl) rfl h) (by kernel_rfl) ?_
      refine AS.op [24] [] [] [] rfl rfl rfl (by kernel_rfl) (by kernel_rfl) rfl rfl (fun _ _ _ h => AOp.nilCheck rfl rfl (ltb rfl) rfl rfl h) (by kernel_rfl) ?_
      refine AS.op [25] [] [] [] rfl rfl rfl (by kernel_rfl) (by kernel_rfl) rfl rfl (fun _ _ _ h => AOp.fieldAddr rfl rfl (ltb rfl) rfl fo92_0 h) (by kernel_rfl) ?_
      refine AS.op [26] [] [] [] rfl rfl rfl (by kernel_rfl) (by kernel_rfl) rfl rfl (fun _ _ _ h => AOp.fieldAddr rfl rfl (ltb rfl) rfl fo90_0 h) (by kernel_rfl) ?_
      refine AS.op [27] [] [] [] rfl rfl rfl (by kernel_rfl) (by kernel_rfl) rfl rfl (fun _ _ _ h => AOp.fieldAddr rfl rfl (ltb rfl) rfl fo88_0 h) (by kernel_rfl) ?_
      refine AS.op [28] [] [] [] rfl rfl rfl (by kernel_rfl) (by kernel_rfl) rfl rfl (fun _ _ _ h => AOp.fieldAddr rfl rfl (ltb rfl) rfl fo86_2 h) (by kernel_rfl) ?_
      refine AS.op [29] [] [] [] rfl rfl rfl (by kernel_rfl) (by kernel_rfl) rfl rfl (fun _ _ _ h => AOp.load1 rfl rfl (ltb rfl) rfl agg40 rfl rfl h) (by kernel_rfl) ?_
      refine AS.op [5] [] [] [] rfl rfl rfl (by kernel_rfl) (by kernel_rfl) rfl rfl (fun _ _ _ h => AOp.move rfl rfl (ltb rfl) rfl h) (by kernel_rfl) ?_
      refine AS.op [0] [] [] [] rfl rfl rfl (by kernel_rfl) (by kernel_rfl) rfl rfl (fun _ _ _ h => AOp.move rfl rfl (ltb rfl) rfl h) (by kernel_rfl) ?_
      refine AS.op [32] [] [] [] rfl rfl rfl (by kernel_rfl) (by kernel_rfl) rfl rfl (fun _ _ _ h => AOp.nilCheck rfl rfl (ltb rfl) rfl rfl h) (by kernel_rfl) ?_
      refine AS.op [33] [] [] [] rfl rfl rfl (by kernel_rfl) (by kernel_rfl) rfl rfl (fun _ _ _ h => AOp.fieldAddr rfl rfl (ltb rfl) rfl fo92_0 h) (by kernel_rfl) ?_
      refine AS.op [34] [] [] [] rfl rfl rfl (by kernel_rfl) (by kernel_rfl) rfl rfl (fun _ _ _ h => AOp.fieldAddr rfl rfl (ltb rfl) rfl fo90_1 h) (by kernel_rfl) ?_
      refine AS.op [35] [] [] [] rfl rfl rfl (by kernel_rfl) (by kernel_rfl) rfl rfl (fun _ _ _ h => AOp.load1 rfl rfl (ltb rfl) rfl agg46 rfl rfl h) (by kernel_rfl) ?_
      refine AS.op [1] [] [] [] rfl rfl rfl (by kernel_rfl) (by kernel_rfl) rfl rfl (fun _ _ _ h => AOp.move rfl rfl (ltb rfl) rfl h) (by kernel_rfl) ?_
      refine AS.op [36, 37] [] [] [] rfl rfl rfl (by kernel_rfl) (by kernel_rfl) rfl rfl (fun _ _ _ h => AOp.indexDs (cells := (List.map keS2 y72.geom2.ends)) rfl rfl (ltb rfl) rfl rfl el46 (by decide) q114.1 (lt1 q114.2) h) (by kernel_rfl) ?_
      refine AS.op [38] [] [] [] rfl rfl rfl (by kernel_rfl) (by kernel_rfl) rfl rfl (fun _ _ _ h => AOp.loadEp rfl rfl (ltb rfl) rfl agg3 (at1 q114.2) h) (by kernel_rfl) ?_
      refine AS.op [30, 31, 39] [] [] [] rfl rfl rfl (by kernel_rfl) (by kernel_rfl) rfl rfl (fun _ _ _ h => AOp.sliceD (cells := (List.map keS1 y72.geom2.geom1.geom0.flatCoords)) (n := y72.geom2.geom1.geom0.flatCoords.length) (l := (g112).toNat) (hh := (x113).toNat) rfl rfl (ltb rfl) rfl (.inr ⟨_, _, _, rfl, rfl, q115.1.1, rfl⟩) (.inr ⟨_, _, _, rfl, rfl, q115.1.2, rfl⟩) el40 (by decide) (len1 _ _) q115.2.1 q115.2.2 (sub1 _ _ _ _) h) (by kernel_rfl) ?_
      refine AS.done ?_
      refine AO.objs (obs' := [.fix 40 [.d (.v (.slice none 0 0))], .fix 4 [.d (dbool false)], .dead, .fix 54 (List.map (fun z => SV.d (keS1 z)) g106.2.1), .fix 54 (List.map (fun z => SV.d (keS1 z)) g106.2.2.1), .fix 54 (List.map (fun z => SV.d (keS1 z)) g106.2.2.2.1), .fix 82 [.d (di .i64 a0), .d (di .i64 y2), .d (oN eS1 g83), .sl 4 1 0 ((y7).toNat) ((y7).toNat), .d (dfl g106.2.2.2.2.1), .sl 5 1 0 ((y10).toNat) ((y10).toNat), .sl 3 1 0 ((y4).toNat) ((y4).toNat), .d (dfl g106.2.2.2.2.2)], .fix 49 [.d (di .i64 x61.Kind), .d (di .i64 x61.Layout), .d (di .i64 x61.SRID), .d (eS1 x61.Flat), .d (eS2 x61.Ends), .d (eS3 x61.Endss), .d (eS0 x61.Kids)], .dead, .fix 49 [.d (di .i64 x61.Kind), .d (di .i64 x61.Layout), .d (di .i64 x61.SRID), .d (eS1 x61.Flat), .d (eS2 x61.Ends), .d (eS3 x61.Endss), .d (eS0 x61.Kids)], .fix 92 [.d (di .i64 y72.geom2.geom1.geom0.layout), .d (di .i64 y72.geom2.geom1.geom0.stride), .d (eS1 y72.geom2.geom1.geom0.flatCoords), .d (di .i64 x61.SRID), .d (eS2 y72.geom2.ends)], .dead, .frame fr75 [(4, .ptr 0 0), (5, .ptr 1 0), (6, .ptr 6 0), (12, .d (eS0 a1)), (13, .d (di .i64 ((a1.length : Nat) : Int))), (14, .d (di .i64 g57.1))], .dead, .dead, .dead, .fix 98 [.d (di .i64 y89.geom1.geom0.layout), .d (di .i64 y89.geom1.geom0.stride), .d (eS1 y89.geom1.geom0.flatCoords), .d (di .i64 y89.geom1.geom0.srid)], .dead, .dead, .grow 54 1 (List.map keS1 g97.2.2.2.1), .grow 54 1 (List.map keS1 g97.2.2.2.2), .dead, .dead, .frame fr111 [(0, .ptr 6 0), (1, .ptr 10 0), (4, .d (di .i64 g106.1)), (26, .ptr 6 0)]]) rfl ?_
      obtain ⟨y116, q117, h2⟩ := bind_elim h2
      refine AO.op rfl (AOp.callA rfl rfl (ltb rfl) rfl rfl (wa_NewLinearRingFlat y72.geom2.geom1.geom0.layout ((y72.geom2.geom1.geom0.flatCoords.drop (g112).toNat).take ((x113).toNat - (g112).toNat)) y116 q117) ?_)
      refine AO.op rfl (AOp.assign rfl rfl (ltb rfl) rfl ?_)
      refine AO.nil ?_
      change AC _ _ _ _
      refine AC.ret ?_
      refine inlret (ob' := [.fix 40 [.d (.v (.slice none 0 0))], .fix 4 [.d (dbool false)], .dead, .fix 54 (List.map (fun z => SV.d (keS1 z)) g106.2.1), .fix 54 (List.map (fun z => SV.d (keS1 z)) g106.2.2.1), .fix 54 (List.map (fun z => SV.d (keS1 z)) g106.2.2.2.1), .fix 82 [.d (di .i64 a0), .d (di .i64 y2), .d (oN eS1 g83), .sl 4 1 0 ((y7).toNat) ((y7).toNat), .d (dfl g106.2.2.2.2.1), .sl 5 1 0 ((y10).toNat) ((y10).toNat), .sl 3 1 0 ((y4).toNat) ((y4).toNat), .d (dfl g106.2.2.2.2.2)], .fix 49 [.d (di .i64 x61.Kind), .d (di .i64 x61.Layout), .d (di .i64 x61.SRID), .d (eS1 x61.Flat), .d (eS2 x61.Ends), .d (eS3 x61.Endss), .d (eS0 x61.Kids)], .dead, .fix 49 [.d (di .i64 x61.Kind), .d (di .i64 x61.Layout), .d (di .i64 x61.SRID), .d (eS1 x61.Flat), .d (eS2 x61.Ends), .d (eS3 x61.Endss), .d (eS0 x61.Kids)], .fix 92 [.d (di .i64 y72.geom2.geom1.geom0.layout), .d (di .i64 y72.geom2.geom1.geom0.stride), .d (eS1 y72.geom2.geom1.geom0.flatCoords), .d (di .i64 x61.SRID), .d (eS2 y72.geom2.ends)], .dead, .frame fr75 [(4, .ptr 0 0), (5, .ptr 1 0), (6, .ptr 6 0), (12, .d (eS0 a1)), (13, .d (di .i64 ((a1.length : Nat) : Int))), (14, .d (di .i64 g57.1))], .dead, .dead, .dead, .fix 98 [.d (di .i64 y89.geom1.geom0.layout), .d (di .i64 y89.geom1.geom0.stride), .d (eS1 y89.geom1.geom0.flatCoords), .d (di .i64 y89.geom1.geom0.srid)], .dead, .dead, .grow 54 1 (List.map keS1 g97.2.2.2.1), .grow 54 1 (List.map keS1 g97.2.2.2.2), .dead, .dead, .dead, .fix 98 [.d (di .i64 y116.geom1.geom0.layout), .d (di .i64 y116.geom1.geom0.stride), .d (eS1 y116.geom1.geom0.flatCoords), .d (di .i64 y116.geom1.geom0.srid)]]) (e' := [(0, .ptr 6 0), (1, .ptr 10 0), (4, .d (di .i64 g106.1)), (26, .ptr 6 0)]) (r := .ptr 24 0) rfl rfl rfl ?_
      change AO _ _ _ _ _
      refine AO.op rfl (AOp.nilCheck rfl rfl (ltb rfl) rfl rfl ?_)
      refine AO.op rfl (AOp.fieldAddr rfl rfl (ltb rfl) rfl fo98_0 ?_)
      refine AO.op rfl (AOp.fieldAddr rfl rfl (ltb rfl) rfl fo88_0 ?_)
      refine AO.op rfl (AOp.inl [0, 1, 4, 26] (by kernel_rfl) Tryz.func41 rfl Tryz.ntmps41 rfl rfl (ltb rfl) rfl (leb rfl) rfl ?_)
      intro fr118
      refine AC.seq ?_
      refine AC.region ?_
      refine AO.op rfl (AOp.assign rfl rfl (ltb rfl) rfl ?_)
      refine AO.objs (obs' := [.fix 40 [.d (.v (.slice none 0 0))], .fix 4 [.d (dbool false)], .dead, .fix 54 (List.map (fun z => SV.d (keS1 z)) g106.2.1), .fix 54 (List.map (fun z => SV.d (keS1 z)) g106.2.2.1), .fix 54 (List.map (fun z => SV.d (keS1 z)) g106.2.2.2.1), .fix 82 [.d (di .i64 a0), .d (di .i64 y2), .d (oN eS1 g83), .sl 4 1 0 ((y7).toNat) ((y7).toNat), .d (dfl g106.2.2.2.2.1), .sl 5 1 0 ((y10).toNat) ((y10).toNat), .sl 3 1 0 ((y4).toNat) ((y4).toNat), .d (dfl g106.2.2.2.2.2)], .fix 49 [.d (di .i64 x61.Kind), .d (di .i64 x61.Layout), .d (di .i64 x61.SRID), .d (eS1 x61.Flat), .d (eS2 x61.Ends), .d (eS3 x61.Endss), .d (eS0 x61.Kids)], .dead, .fix 49 [.d (di .i64 x61.Kind), .d (di .i64 x61.Layout), .d (di .i64 x61.SRID), .d (eS1 x61.Flat), .d (eS2 x61.Ends), .d (eS3 x61.Endss), .d (eS0 x61.Kids)], .fix 92 [.d (di .i64 y72.geom2.geom1.geom0.layout), .d (di .i64 y72.geom2.geom1.geom0.stride), .d (eS1 y72.geom2.geom1.geom0.flatCoords), .d (di .i64 x61.SRID), .d (eS2 y72.geom2.ends)], .dead, .frame fr75 [(4, .ptr 0 0), (5, .ptr 1 0), (6, .ptr 6 0), (12, .d (eS0 a1)), (13, .d (di .i64 ((a1.length : Nat) : Int))), (14, .d (di .i64 g57.1))], .dead, .dead, .dead, .fix 98 [.d (di .i64 y89.geom1.geom0.layout), .d (di .i64 y89.geom1.geom0.stride), .d (eS1 y89.geom1.geom0.flatCoords), .d (di .i64 y89.geom1.geom0.srid)], .dead, .dead, .grow 54 1 (List.map keS1 g97.2.2.2.1), .grow 54 1 (List.map keS1 g97.2.2.2.2), .dead, .dead, .dead, .fix 98 [.d (di .i64 y116.geom1.geom0.layout), .d (di .i64 y116.geom1.geom0.stride), .d (eS1 y116.geom1.geom0.flatCoords), .d (di .i64 y116.geom1.geom0.srid)], .frame fr118 [(0, .ptr 6 0), (1, .ptr 10 0), (4, .d (di .i64 g106.1)), (26, .ptr 6 0)]]) rfl ?_
      refine AO.nil ?_
      change AC _ _ _ _
      refine AC.seq ?_
      refine AC.region ?_
      refine AO.op rfl (AOp.move rfl rfl (ltb rfl) rfl ?_)
      refine AO.op rfl (AOp.nilCheck rfl rfl (ltb rfl) rfl rfl ?_)
      refine AO.op rfl (AOp.fieldAddr rfl rfl (ltb rfl) rfl fo86_2 ?_)
      refine AO.op rfl (AOp.load1 rfl rfl (ltb rfl) rfl agg40 rfl rfl ?_)
      refine AO.op rfl (AOp.assign rfl rfl (ltb rfl) rfl ?_)
      refine AO.nil ?_
      change AC _ _ _ _
      refine AC.ret ?_
      refine inlret (ob' := [.fix 40 [.d (.v (.slice none 0 0))], .fix 4 [.d (dbool false)], .dead, .fix 54 (List.map (fun z => SV.d (keS1 z)) g106.2.1), .fix 54 (List.map (fun z => SV.d (keS1 z)) g106.2.2.1), .fix 54 (List.map (fun z => SV.d (keS1 z)) g106.2.2.2.1), .fix 82 [.d (di .i64 a0), .d (di .i64 y2), .d (oN eS1 g83), .sl 4 1 0 ((y7).toNat) ((y7).toNat), .d (dfl g106.2.2.2.2.1), .sl 5 1 0 ((y10).toNat) ((y10).toNat), .sl 3 1 0 ((y4).toNat) ((y4).toNat), .d (dfl g106.2.2.2.2.2)], .fix 49 [.d (di .i64 x61.Kind), .d (di .i64 x61.Layout), .d (di .i64 x61.SRID), .d (eS1 x61.Flat), .d (eS2 x61.Ends), .d (eS3 x61.Endss), .d (eS0 x61.Kids)], .dead, .fix 49 [.d (di .i64 x61.Kind), .d (di .i64 x61.Layout), .d (di .i64 x61.SRID), .d (eS1 x61.Flat), .d (eS2 x61.Ends), .d (eS3 x61.Endss), .d (eS0 x61.Kids)], .fix 92 [.d (di .i64 y72.geom2.geom1.geom0.layout), .d (di .i64 y72.geom2.geom1.geom0.stride), .d (eS1 y72.geom2.geom1.geom0.flatCoords), .d (di .i64 x61.SRID), .d (eS2 y72.geom2.ends)], .dead, .frame fr75 [(4, .ptr 0 0), (5, .ptr 1 0), (6, .ptr 6 0), (12, .d (eS0 a1)), (13, .d (di .i64 ((a1.length : Nat) : Int))), (14, .d (di .i64 g57.1))], .dead, .dead, .dead, .fix 98 [.d (di .i64 y89.geom1.geom0.layout), .d (di .i64 y89.geom1.geom0.stride), .d (eS1 y89.geom1.geom0.flatCoords), .d (di .i64 y89.geom1.geom0.srid)], .dead, .dead, .grow 54 1 (List.map keS1 g97.2.2.2.1), .grow 54 1 (List.map keS1 g97.2.2.2.2), .dead, .dead, .dead, .fix 98 [.d (di .i64 y116.geom1.geom0.layout), .d (di .i64 y116.geom1.geom0.stride), .d (eS1 y116.geom1.geom0.flatCoords), .d (di .i64 y116.geom1.geom0.srid)], .dead]) (e' := [(0, .ptr 6 0), (1, .ptr 10 0), (4, .d (di .i64 g106.1)), (26, .ptr 6 0)]) (r := .d (eS1 y116.geom1.geom0.flatCoords)) rfl rfl rfl ?_
      change AO _ _ _ _ _
      refine AO.op rfl (AOp.inl [0, 1, 4] (by kernel_rfl) Tryz.func43 rfl Tryz.ntmps43 rfl rfl (ltb rfl) rfl (leb rfl) rfl ?_)
      intro fr119
      refine AC.seq ?_
      refine AC.region ?_
      refine AO.op rfl (AOp.move rfl rfl (ltb rfl) rfl ?_)
      refine AO.op rfl (AOp.nilCheck rfl rfl (ltb rfl) rfl rfl ?_)
      refine AO.op rfl (AOp.fieldAddr rfl rfl (ltb rfl) rfl fo82_1 ?_)
      refine AO.op rfl (AOp.load1 rfl rfl (ltb rfl) rfl agg3 rfl rfl ?_)
      refine AO.op rfl (AOp.assign rfl rfl (ltb rfl) rfl ?_)
      refine AO.objs (obs' := [.fix 40 [.d (.v (.slice none 0 0))], .fix 4 [.d (dbool false)], .dead, .fix 54 (List.map (fun z => SV.d (keS1 z)) g106.2.1), .fix 54 (List.map (fun z => SV.d (keS1 z)) g106.2.2.1), .fix 54 (List.map (fun z => SV.d (keS1 z)) g106.2.2.2.1), .fix 82 [.d (di .i64 a0), .d (di .i64 y2), .d (oN eS1 g83), .sl 4 1 0 ((y7).toNat) ((y7).toNat), .d (dfl g106.2.2.2.2.1), .sl 5 1 0 ((y10).toNat) ((y10).toNat), .sl 3 1 0 ((y4).toNat) ((y4).toNat), .d (dfl g106.2.2.2.2.2)], .fix 49 [.d (di .i64 x61.Kind), .d (di .i64 x61.Layout), .d (di .i64 x61.SRID), .d (eS1 x61.Flat), .d (eS2 x61.Ends), .d (eS3 x61.Endss), .d (eS0 x61.Kids)], .dead, .fix 49 [.d (di .i64 x61.Kind), .d (di .i64 x61.Layout), .d (di .i64 x61.SRID), .d (eS1 x61.Flat), .d (eS2 x61.Ends), .d (eS3 x61.Endss), .d (eS0 x61.Kids)], .fix 92 [.d (di .i64 y72.geom2.geom1.geom0.layout), .d (di .i64 y72.geom2.geom1.geom0.stride), .d (eS1 y72.geom2.geom1.geom0.flatCoords), .d (di .i64 x61.SRID), .d (eS2 y72.geom2.ends)], .dead, .frame fr75 [(4, .ptr 0 0), (5, .ptr 1 0), (6, .ptr 6 0), (12, .d (eS0 a1)), (13, .d (di .i64 ((a1.length : Nat) : Int))), (14, .d (di .i64 g57.1))], .dead, .dead, .dead, .fix 98 [.d (di .i64 y89.geom1.geom0.layout), .d (di .i64 y89.geom1.geom0.stride), .d (eS1 y89.geom1.geom0.flatCoords), .d (di .i64 y89.geom1.geom0.srid)], .dead, .dead, .grow 54 1 (List.map keS1 g97.2.2.2.1), .grow 54 1 (List.map keS1 g97.2.2.2.2), .dead, .dead, .dead, .fix 98 [.d (di .i64 y116.geom1.geom0.layout), .d (di .i64 y116.geom1.geom0.stride), .d (eS1 y116.geom1.geom0.flatCoords), .d (di .i64 y116.geom1.geom0.srid)], .dead, .frame fr119 [(0, .ptr 6 0), (1, .ptr 10 0), (4, .d (di .i64 g106.1))]]) rfl ?_
      refine AO.nil ?_
      change AC _ _ _ _
      refine AC.seq ?_
      refine AC.region ?_
      refine AO.op rfl (AOp.move rfl rfl (ltb rfl) rfl ?_)
      refine AO.op rfl (AOp.nilCheck rfl rfl (ltb rfl) rfl rfl ?_)
      refine AO.op rfl (AOp.fieldAddr rfl rfl (ltb rfl) rfl fo82_0 ?_)
      refine AO.op rfl (AOp.load1 rfl rfl (ltb rfl) rfl agg62 rfl rfl ?_)
      refine AO.op rfl (AOp.move rfl rfl (ltb rfl) rfl ?_)
      obtain ⟨y120, q121, h2⟩ := bind_elim h2
      refine AO.op rfl (AOp.callD rfl rfl (ltb rfl) rfl rfl (w_IsRingCounterClockwise F a0 y116.geom1.geom0.flatCoords y120 q121) ?_)
      rintro _ rfl
      refine AO.op rfl (AOp.assign rfl rfl (ltb rfl) rfl ?_)
      refine AO.nil ?_
      change AC _ _ _ _
      refine AC.seq ?_
      refine AC.region ?_
      refine AO.op rfl (AOp.buildOwn rfl rfl (ltb rfl) el69 zero54 rfl (leb rfl) rfl rfl rfl rfl ?_)
      refine AO.op rfl (AOp.assign rfl rfl (ltb rfl) rfl ?_)
      refine AO.nil ?_
      change AC _ _ _ _
      refine AC.seq ?_
      refine AC.region ?_
      refine AO.op rfl (AOp.buildOwn rfl rfl (ltb rfl) el69 zero54 rfl (leb rfl) rfl rfl rfl rfl ?_)
      refine AO.op rfl (AOp.assign rfl rfl (ltb rfl) rfl ?_)
      refine AO.nil ?_
      change AC _ _ _ _
      refine AC.seq ?_
      refine AC.seq ?_
      refine AC.region ?_
      refine AO.op rfl (AOp.assign rfl rfl (ltb rfl) rfl ?_)
      refine AO.nil ?_
      change AC _ _ _ _
      obtain ⟨o122, l123, h2⟩ := bind_elim h2
      refine AC.joinE (V := ((List Nat) × (List Nat) × Nat × (List Nat) × (List Nat))) [0, 1] [] 29 (fun g124 => []) (fun g124 => [.fix 40 [.d (.v (.slice none 0 0))], .fix 4 [.d (dbool false)], .dead, .fix 54 (List.map (fun z => SV.d (keS1 z)) g106.2.1), .fix 54 (List.map (fun z => SV.d (keS1 z)) g124.1), .fix 54 (List.map (fun z => SV.d (keS1 z)) g124.2.1), .fix 82 [.d (di .i64 a0), .d (di .i64 y2), .d (oN eS1 g83), .sl 4 1 0 ((y7).toNat) ((y7).toNat), .d (dfl g124.2.2.1), .sl 5 1 0 ((y10).toNat) ((y10).toNat), .sl 3 1 0 ((y4).toNat) ((y4).toNat), .d (dfl g106.2.2.2.2.2)], .fix 49 [.d (di .i64 x61.Kind), .d (di .i64 x61.Layout), .d (di .i64 x61.SRID), .d (eS1 x61.Flat), .d (eS2 x61.Ends), .d (eS3 x61.Endss), .d (eS0 x61.Kids)], .dead, .fix 49 [.d (di .i64 x61.Kind), .d (di .i64 x61.Layout), .d (di .i64 x61.SRID), .d (eS1 x61.Flat), .d (eS2 x61.Ends), .d (eS3 x61.Endss), .d (eS0 x61.Kids)], .fix 92 [.d (di .i64 y72.geom2.geom1.geom0.layout), .d (di .i64 y72.geom2.geom1.geom0.stride), .d (eS1 y72.geom2.geom1.geom0.flatCoords), .d (di .i64 x61.SRID), .d (eS2 y72.geom2.ends)], .dead, .frame fr75 [(4, .ptr 0 0), (5, .ptr 1 0), (6, .ptr 6 0), (12, .d (eS0 a1)), (13, .d (di .i64 ((a1.length : Nat) : Int))), (14, .d (di .i64 g57.1))], .dead, .dead, .dead, .fix 98 [.d (di .i64 y89.geom1.geom0.layout), .d (di .i64 y89.geom1.geom0.stride), .d (eS1 y89.geom1.geom0.flatCoords), .d (di .i64 y89.geom1.geom0.srid)], .dead, .dead, .grow 54 1 (List.map keS1 g97.2.2.2.1), .grow 54 1 (List.map keS1 g97.2.2.2.2), .dead, .dead, .dead, .fix 98 [.d (di .i64 y116.geom1.geom0.layout), .d (di .i64 y116.geom1.geom0.stride), .d (eS1 y116.geom1.geom0.flatCoords), .d (di .i64 y116.geom1.geom0.srid)], .dead, .frame fr119 [(0, .ptr 6 0), (1, .ptr 10 0), (4, .d (di .i64 g106.1))], .grow 54 1 (List.map keS1 g124.2.2.2.1), .grow 54 1 (List.map keS1 g124.2.2.2.2)]) (fun g124 => (p_PolygonsCentroid_k10 F y2 y4 g106 (iter (p_PolygonsCentroid_l8 a0 F y2 y4 y7 y10 y72 g83) n108) y116) g124 = some o102) rfl ?_ ?_
      ·refine AC.block ?_
       refine AC.loopP (V := (Int × (List Nat) × (List Nat) × Nat × (List Nat) × (List Nat))) (p_PolygonsCentroid_l13 y2 y7 y10 g83 y116 y120) o122 [0, 1, 4, 5, 6, 7] [8] 29 (fun g184 => [(8, .d (di .i64 g184.1))]) (fun g184 => [.fix 40 [.d (.v (.slice none 0 0))], .fix 4 [.d (dbool false)], .dead, .fix 54 (List.map (fun z => SV.d (keS1 z)) g106.2.1), .fix 54 (List.map (fun z => SV.d (keS1 z)) g184.2.1), .fix 54 (List.map (fun z => SV.d (keS1 z)) g184.2.2.1), .fix 82 [.d (di .i64 a0), .d (di .i64 y2), .d (oN eS1 g83), .sl 4 1 0 ((y7).toNat) ((y7).toNat), .d (dfl g184.2.2.2.1), .sl 5 1 0 ((y10).toNat) ((y10).toNat), .sl 3 1 0 ((y4).toNat) ((y4).toNat), .d (dfl g106.2.2.2.2.2)], .fix 49 [.d (di .i64 x61.Kind), .d (di .i64 x61.Layout), .d (di .i64 x61.SRID), .d (eS1 x61.Flat), .d (eS2 x61.Ends), .d (eS3 x61.Endss), .d (eS0 x61.Kids)], .dead, .fix 49 [.d (di .i64 x61.Kind), .d (di .i64 x61.Layout), .d (di .i64 x61.SRID), .d (eS1 x61.Flat), .d (eS2 x61.Ends), .d (eS3 x61.Endss), .d (eS0 x61.Kids)], .fix 92 [.d (di .i64 y72.geom2.geom1.geom0.layout), .d (di .i64 y72.geom2.geom1.geom0.stride), .d (eS1 y72.geom2.geom1.geom0.flatCoords), .d (di .i64 x61.SRID), .d (eS2 y72.geom2.ends)], .dead, .frame fr75 [(4, .ptr 0 0), (5, .ptr 1 0), (6, .ptr 6 0), (12, .d (eS0 a1)), (13, .d (di .i64 ((a1.length : Nat) : Int))), (14, .d (di .i64 g57.1))], .dead, .dead, .dead, .fix 98 [.d (di .i64 y89.geom1.geom0.layout), .d (di .i64 y89.geom1.geom0.stride), .d (eS1 y89.geom1.geom0.flatCoords), .d (di .i64 y89.geom1.geom0.srid)], .dead, .dead, .grow 54 1 (List.map keS1 g97.2.2.2.1), .grow 54 1 (List.map keS1 g97.2.2.2.2), .dead, .dead, .dead, .fix 98 [.d (di .i64 y116.geom1.geom0.layout), .d (di .i64 y116.geom1.geom0.stride), .d (eS1 y116.geom1.geom0.flatCoords), .d (di .i64 y116.geom1.geom0.srid)], .dead, .frame fr119 [(0, .ptr 6 0), (1, .ptr 10 0), (4, .d (di .i64 g106.1))], .grow 54 1 (List.map keS1 g184.2.2.2.2.1), .grow 54 1 (List.map keS1 g184.2.2.2.2.2)]) F ((0 : Int), g106.2.2.1, g106.2.2.2.1, g106.2.2.2.2.1, [(0 : Nat), (0 : Nat)], [(0 : Nat), (0 : Nat)]) l123 rfl rfl (LeL.refl _) rfl (okU_mk rfl (okU_cons rfl (okU_cons rfl (okU_cons rfl (okU_cons (okU_fixl (fun _ => rfl)) (okU_cons (okU_fixl (fun _ => rfl)) (okU_cons (okU_fixl (fun _ => rfl)) (okU_cons rfl (okU_cons rfl (okU_cons rfl (okU_cons rfl (okU_cons rfl (okU_cons rfl (okU_cons rfl (okU_cons rfl (okU_cons rfl (okU_cons rfl (okU_cons rfl (okU_cons rfl (okU_cons rfl (okU_cons rfl (okU_cons rfl (okU_cons rfl (okU_cons rfl (okU_cons rfl (okU_cons rfl (okU_cons rfl (okU_cons rfl (okU_cons rfl (okU_cons rfl okU_nil)))))))))))))))))))))))))))))) ?_
       intro n186 g184 h3
       unfold p_PolygonsCentroid_l13 at h3
       refine AC.seq ?_
       refine AC.seq ?_
       refine AC.region ?_
       refine AO.op rfl (AOp.move rfl rfl (ltb rfl) rfl ?_)
       refine AO.op rfl (AOp.move rfl rfl (ltb rfl) rfl ?_)
       refine AO.op rfl (AOp.lenDs (n := y116.geom1.geom0.flatCoords.length) (cells := (List.map keS1 y116.geom1.geom0.flatCoords)) rfl rfl (ltb rfl) rfl el40 (by decide) (len1 _ _) ?_)
       refine AO.op rfl (AOp.move rfl rfl (ltb rfl) rfl ?_)
       obtain ⟨q187, h3⟩ := need_elim h3
       refine AO.op rfl (AOp.isub rfl rfl (ltb rfl) rfl rfl rfl q187.1 q187.2 ?_)
       refine AO.op rfl (AOp.ilss rfl rfl (ltb rfl) rfl rfl ?_)
       refine AO.nil ?_
       change AC _ _ _ _
       refine AC.cond rfl (fun q188 => ?_) (fun q188 => ?_)
       ·replace h3 := cT h3 q188
        refine AC.skip ?_
        change AC _ _ _ _
        refine AC.seq ?_
        refine AC.block ?_
        refine AC.seq ?_
        refine AC.region ?_
        refine AO.op rfl (AOp.move rfl rfl (ltb rfl) rfl ?_)
        refine AO.op rfl (AOp.move rfl rfl (ltb rfl) rfl ?_)
        refine AO.op rfl (AOp.move rfl rfl (ltb rfl) rfl ?_)
        obtain ⟨x189, q190, h3⟩ := idx_elim h3
        refine AO.op rfl (AOp.indexDs (cells := (List.map keS1 y116.geom1.geom0.flatCoords)) rfl rfl (ltb rfl) rfl rfl el40 (by decide) q190.1 (lt1 q190.2) ?_)
        refine AO.op rfl (AOp.loadEp rfl rfl (ltb rfl) rfl agg54 (at1 q190.2) ?_)
        obtain ⟨q191, h3⟩ := need_elim h3
        refine AO.op rfl (AOp.indexOwn (cells := (List.map keS1 g184.2.2.2.2.1)) (n := g184.2.2.2.2.1.length) rfl rfl (ltb rfl) rfl rfl el69 rfl (by decide) (len1 _ _) q191.1 q191.2 ?_)
        obtain ⟨q192, h3⟩ := need_elim h3
        refine AO.op rfl (AOp.storeOL (f := keS1) (l := g184.2.2.2.2.1) (i := ((0 : Int)).toNat) (v := x189) rfl rfl rfl rfl size54 rfl rfl rfl q192 ?_)
        refine AO.nil ?_
        change AC _ _ _ _
        refine AC.seq ?_
        refine AC.region ?_
        refine AO.op rfl (AOp.move rfl rfl (ltb rfl) rfl ?_)
        refine AO.op rfl (AOp.move rfl rfl (ltb rfl) rfl ?_)
        refine AO.op rfl (AOp.move rfl rfl (ltb rfl) rfl ?_)
        obtain ⟨q193, h3⟩ := need_elim h3
        refine AO.op rfl (AOp.iadd rfl rfl (ltb rfl) rfl rfl rfl q193.1 q193.2 ?_)
        obtain ⟨x194, q195, h3⟩ := idx_elim h3
        refine AO.op rfl (AOp.indexDs (cells := (List.map keS1 y116.geom1.geom0.flatCoords)) rfl rfl (ltb rfl) rfl rfl el40 (by decide) q195.1 (lt1 q195.2) ?_)
        refine AO.op rfl (AOp.loadEp rfl rfl (ltb rfl) rfl agg54 (at1 q195.2) ?_)
        obtain ⟨q196, h3⟩ := need_elim h3
        refine AO.op rfl (AOp.indexOwn (cells := (List.map keS1 (g184.2.2.2.2.1.set ((0 : Int)).toNat x189))) (n := (g184.2.2.2.2.1.set ((0 : Int)).toNat x189).length) rfl rfl (ltb rfl) rfl rfl el69 rfl (by decide) (len1 _ _) q196.1 q196.2 ?_)
        obtain ⟨q197, h3⟩ := need_elim h3
        refine AO.op rfl (AOp.storeOL (f := keS1) (l := (g184.2.2.2.2.1.set ((0 : Int)).toNat x189)) (i := ((1 : Int)).toNat) (v := x194) rfl rfl rfl rfl size54 rfl rfl rfl q197 ?_)
        refine AO.nil ?_
        change AC _ _ _ _
        refine AC.seq ?_
        refine AC.region ?_
        refine AO.op rfl (AOp.move rfl rfl (ltb rfl) rfl ?_)
        refine AO.op rfl (AOp.move rfl rfl (ltb rfl) rfl ?_)
        refine AO.op rfl (AOp.move rfl rfl (ltb rfl) rfl ?_)
        refine AO.op rfl (AOp.move rfl rfl (ltb rfl) rfl ?_)
        obtain ⟨q198, h3⟩ := need_elim h3
        refine AO.op rfl (AOp.iadd rfl rfl (ltb rfl) rfl rfl rfl q198.1 q198.2 ?_)
        obtain ⟨x199, q200, h3⟩ := idx_elim h3
        refine AO.op rfl (AOp.indexDs (cells := (List.map keS1 y116.geom1.geom0.flatCoords)) rfl rfl (ltb rfl) rfl rfl el40 (by decide) q200.1 (lt1 q200.2) ?_)
        refine AO.op rfl (AOp.loadEp rfl rfl (ltb rfl) rfl agg54 (at1 q200.2) ?_)
        obtain ⟨q201, h3⟩ := need_elim h3
        refine AO.op rfl (AOp.indexOwn (cells := (List.map keS1 g184.2.2.2.2.2)) (n := g184.2.2.2.2.2.length) rfl rfl (ltb rfl) rfl rfl el69 rfl (by decide) (len1 _ _) q201.1 q201.2 ?_)
        obtain ⟨q202, h3⟩ := need_elim h3
        refine AO.op rfl (AOp.storeOL (f := keS1) (l := g184.2.2.2.2.2) (i := ((0 : Int)).toNat) (v := x199) rfl rfl rfl rfl size54 rfl rfl rfl q202 ?_)
        refine AO.nil ?_
        change AC _ _ _ _
        refine AC.seq ?_
        refine AC.region ?_
        refine AO.op rfl (AOp.move rfl rfl (ltb rfl) rfl ?_)
        refine AO.op rfl (AOp.move rfl rfl (ltb rfl) rfl ?_)
        refine AO.op rfl (AOp.move rfl rfl (ltb rfl) rfl ?_)
        refine AO.op rfl (AOp.move rfl rfl (ltb rfl) rfl ?_)
        obtain ⟨q203, h3⟩ := need_elim h3
        refine AO.op rfl (AOp.iadd rfl rfl (ltb rfl) rfl rfl rfl q203.1 q203.2 ?_)
        obtain ⟨q204, h3⟩ := need_elim h3
        refine AO.op rfl (AOp.iadd rfl rfl (ltb rfl) rfl rfl rfl q204.1 q204.2 ?_)
        obtain ⟨x205, q206, h3⟩ := idx_elim h3
        refine AO.op rfl (AOp.indexDs (cells := (List.map keS1 y116.geom1.geom0.flatCoords)) rfl rfl (ltb rfl) rfl rfl el40 (by decide) q206.1 (lt1 q206.2) ?_)
        refine AO.op rfl (AOp.loadEp rfl rfl (ltb rfl) rfl agg54 (at1 q206.2) ?_)
        obtain ⟨q207, h3⟩ := need_elim h3
        refine AO.op rfl (AOp.indexOwn (cells := (List.map keS1 (g184.2.2.2.2.2.set ((0 : Int)).toNat x199))) (n := (g184.2.2.2.2.2.set ((0 : Int)).toNat x199).length) rfl rfl (ltb rfl) rfl rfl el69 rfl (by decide) (len1 _ _) q207.1 q207.2 ?_)
        obtain ⟨q208, h3⟩ := need_elim h3
        refine AO.op rfl (AOp.storeOL (f := keS1) (l := (g184.2.2.2.2.2.set ((0 : Int)).toNat x199)) (i := ((1 : Int)).toNat) (v := x205) rfl rfl rfl rfl size54 rfl rfl rfl q208 ?_)
        refine AO.nil ?_
        change AC _ _ _ _
        refine AC.region ?_
        refine AO.op rfl (AOp.move rfl rfl (ltb rfl) rfl ?_)
        refine AO.op rfl (AOp.move rfl rfl (ltb rfl) rfl ?_)
        refine AO.op rfl (AOp.nilCheck rfl rfl (ltb rfl) rfl rfl ?_)
        refine AO.op rfl (AOp.fieldAddr rfl rfl (ltb rfl) rfl fo82_2 ?_)
        refine AO.op rfl (AOp.load1 rfl rfl (ltb rfl) rfl agg69 rfl rfl ?_)
        refine AO.sub 64 rfl (SVLe.oN (f := eS1) rfl g83) ?_
        refine AO.op rfl (AOp.move rfl rfl (ltb rfl) rfl ?_)
        refine AO.op rfl (AOp.move rfl rfl (ltb rfl) rfl ?_)
        refine AO.op rfl (AOp.move rfl rfl (ltb rfl) rfl ?_)
        refine AO.op rfl (AOp.inl [0, 1, 4, 5, 6, 7, 8] (by kernel_rfl) Tryz.func77 rfl Tryz.ntmps77 rfl rfl (ltb rfl) rfl (leb rfl) rfl ?_)
        intro fr209
        refine AC.seq ?_
        refine AC.region ?_
        refine AO.op rfl (AOp.assign rfl rfl (ltb rfl) rfl ?_)
        refine AO.objs (obs' := [.fix 40 [.d (.v (.slice none 0 0))], .fix 4 [.d (dbool false)], .dead, .fix 54 (List.map (fun z => SV.d (keS1 z)) g106.2.1), .fix 54 (List.map (fun z => SV.d (keS1 z)) g184.2.1), .fix 54 (List.map (fun z => SV.d (keS1 z)) g184.2.2.1), .fix 82 [.d (di .i64 a0), .d (di .i64 y2), .d (oN eS1 g83), .sl 4 1 0 ((y7).toNat) ((y7).toNat), .d (dfl g184.2.2.2.1), .sl 5 1 0 ((y10).toNat) ((y10).toNat), .sl 3 1 0 ((y4).toNat) ((y4).toNat), .d (dfl g106.2.2.2.2.2)], .fix 49 [.d (di .i64 x61.Kind), .d (di .i64 x61.Layout), .d (di .i64 x61.SRID), .d (eS1 x61.Flat), .d (eS2 x61.Ends), .d (eS3 x61.Endss), .d (eS0 x61.Kids)], .dead, .fix 49 [.d (di .i64 x61.Kind), .d (di .i64 x61.Layout), .d (di .i64 x61.SRID), .d (eS1 x61.Flat), .d (eS2 x61.Ends), .d (eS3 x61.Endss), .d (eS0 x61.Kids)], .fix 92 [.d (di .i64 y72.geom2.geom1.geom0.layout), .d (di .i64 y72.geom2.geom1.geom0.stride), .d (eS1 y72.geom2.geom1.geom0.flatCoords), .d (di .i64 x61.SRID), .d (eS2 y72.geom2.ends)], .dead, .frame fr75 [(4, .ptr 0 0), (5, .ptr 1 0), (6, .ptr 6 0), (12, .d (eS0 a1)), (13, .d (di .i64 ((a1.length : Nat) : Int))), (14, .d (di .i64 g57.1))], .dead, .dead, .dead, .fix 98 [.d (di .i64 y89.geom1.geom0.layout), .d (di .i64 y89.geom1.geom0.stride), .d (eS1 y89.geom1.geom0.flatCoords), .d (di .i64 y89.geom1.geom0.srid)], .dead, .dead, .grow 54 1 (List.map keS1 g97.2.2.2.1), .grow 54 1 (List.map keS1 g97.2.2.2.2), .dead, .dead, .dead, .fix 98 [.d (di .i64 y116.geom1.geom0.layout), .d (di .i64 y116.geom1.geom0.stride), .d (eS1 y116.geom1.geom0.flatCoords), .d (di .i64 y116.geom1.geom0.srid)], .dead, .frame fr119 [(0, .ptr 6 0), (1, .ptr 10 0), (4, .d (di .i64 g106.1))], .grow 54 1 (List.map keS1 ((g184.2.2.2.2.1.set ((0 : Int)).toNat x189).set ((1 : Int)).toNat x194)), .grow 54 1 (List.map keS1 ((g184.2.2.2.2.2.set ((0 : Int)).toNat x199).set ((1 : Int)).toNat x205)), .frame fr209 [(0, .ptr 6 0), (1, .d (eS1 y116.geom1.geom0.flatCoords)), (4, .d (di .i64 y2)), (5, .d (dbool y120)), (6, .own 27), (7, .own 28), (8, .d (di .i64 g184.1))]]) rfl ?_
        refine AO.nil ?_
        change AC _ _ _ _
        refine AC.joinP (V := Nat) [0, 1, 2, 3] [10] 30 (fun g210 => [(10, .d (dfl g210))]) (fun g210 => [.fix 40 [.d (.v (.slice none 0 0))], .fix 4 [.d (dbool false)], .dead, .fix 54 (List.map (fun z => SV.d (keS1 z)) g106.2.1), .fix 54 (List.map (fun z => SV.d (keS1 z)) g184.2.1), .fix 54 (List.map (fun z => SV.d (keS1 z)) g184.2.2.1), .fix 82 [.d (di .i64 a0), .d (di .i64 y2), .d (oN eS1 g83), .sl 4 1 0 ((y7).toNat) ((y7).toNat), .d (dfl g184.2.2.2.1), .sl 5 1 0 ((y10).toNat) ((y10).toNat), .sl 3 1 0 ((y4).toNat) ((y4).toNat), .d (dfl g106.2.2.2.2.2)], .fix 49 [.d (di .i64 x61.Kind), .d (di .i64 x61.Layout), .d (di .i64 x61.SRID), .d (eS1 x61.Flat), .d (eS2 x61.Ends), .d (eS3 x61.Endss), .d (eS0 x61.Kids)], .dead, .fix 49 [.d (di .i64 x61.Kind), .d (di .i64 x61.Layout), .d (di .i64 x61.SRID), .d (eS1 x61.Flat), .d (eS2 x61.Ends), .d (eS3 x61.Endss), .d (eS0 x61.Kids)], .fix 92 [.d (di .i64 y72.geom2.geom1.geom0.layout), .d (di .i64 y72.geom2.geom1.geom0.stride), .d (eS1 y72.geom2.geom1.geom0.flatCoords), .d (di .i64 x61.SRID), .d (eS2 y72.geom2.ends)], .dead, .frame fr75 [(4, .ptr 0 0), (5, .ptr 1 0), (6, .ptr 6 0), (12, .d (eS0 a1)), (13, .d (di .i64 ((a1.length : Nat) : Int))), (14, .d (di .i64 g57.1))], .dead, .dead, .dead, .fix 98 [.d (di .i64 y89.geom1.geom0.layout), .d (di .i64 y89.geom1.geom0.stride), .d (eS1 y89.geom1.geom0.flatCoords), .d (di .i64 y89.geom1.geom0.srid)], .dead, .dead, .grow 54 1 (List.map keS1 g97.2.2.2.1), .grow 54 1 (List.map keS1 g97.2.2.2.2), .dead, .dead, .dead, .fix 98 [.d (di .i64 y116.geom1.geom0.layout), .d (di .i64 y116.geom1.geom0.stride), .d (eS1 y116.geom1.geom0.flatCoords), .d (di .i64 y116.geom1.geom0.srid)], .dead, .frame fr119 [(0, .ptr 6 0), (1, .ptr 10 0), (4, .d (di .i64 g106.1))], .grow 54 1 (List.map keS1 ((g184.2.2.2.2.1.set ((0 : Int)).toNat x189).set ((1 : Int)).toNat x194)), .grow 54 1 (List.map keS1 ((g184.2.2.2.2.2.set ((0 : Int)).toNat x199).set ((1 : Int)).toNat x205)), .frame fr209 [(0, .ptr 6 0), (1, .d (eS1 y116.geom1.geom0.flatCoords)), (4, .d (di .i64 y2)), (5, .d (dbool y120)), (6, .own 27), (7, .own 28), (8, .d (di .i64 g184.1))]]) (fun g210 => (p_PolygonsCentroid_k14 y2 y7 y10 g83 g184 (iter (p_PolygonsCentroid_l13 y2 y7 y10 g83 y116 y120) n186) x189 x194 x199 x205) g210 = some o122) rfl ?_ ?_
        ·refine AC.seq ?_
         refine AC.region ?_
         refine AO.op rfl (AOp.move rfl rfl (ltb rfl) rfl ?_)
         refine AO.nil ?_
         change AC _ _ _ _
         refine AC.cond rfl (fun q308 => ?_) (fun q308 => ?_)
         ·replace h3 := cT h3 q308
          refine AC.region ?_
          refine AO.op rfl (AOp.assign rfl rfl (ltb rfl) rfl ?_)
          refine AO.nil ?_
          exact ⟨(13830554455654793216 : Nat), _, rfl, (LeL.refl _), rfl, (okU_mk rfl (okU_cons rfl (okU_cons rfl (okU_cons rfl (okU_cons (okU_fixl (fun _ => rfl)) (okU_cons (okU_fixl (fun _ => rfl)) (okU_cons (okU_fixl (fun _ => rfl)) (okU_cons rfl (okU_cons rfl (okU_cons rfl (okU_cons rfl (okU_cons rfl (okU_cons rfl (okU_cons rfl (okU_cons rfl (okU_cons rfl (okU_cons rfl (okU_cons rfl (okU_cons rfl (okU_cons rfl (okU_cons rfl (okU_cons rfl (okU_cons rfl (okU_cons rfl (okU_cons rfl (okU_cons rfl (okU_cons rfl (okU_cons rfl (okU_cons rfl (okU_cons rfl (okU_cons rfl okU_nil))))))))))))))))))))))))))))))), h3⟩
         replace h3 := cF h3 q308
         refine AC.skip ?_
         exact ⟨(4607182418800017408 : Nat), _, rfl, (LeL.refl _), rfl, (okU_mk rfl (okU_cons rfl (okU_cons rfl (okU_cons rfl (okU_cons (okU_fixl (fun _ => rfl)) (okU_cons (okU_fixl (fun _ => rfl)) (okU_cons (okU_fixl (fun _ => rfl)) (okU_cons rfl (okU_cons rfl (okU_cons rfl (okU_cons rfl (okU_cons rfl (okU_cons rfl (okU_cons rfl (okU_cons rfl (okU_cons rfl (okU_cons rfl (okU_cons rfl (okU_cons rfl (okU_cons rfl (okU_cons rfl (okU_cons rfl (okU_cons rfl (okU_cons rfl (okU_cons rfl (okU_cons rfl (okU_cons rfl (okU_cons rfl (okU_cons rfl (okU_cons rfl (okU_cons rfl okU_nil))))))))))))))))))))))))))))))), h3⟩
        intro g210 h3
        unfold p_PolygonsCentroid_k14 at h3
        refine AC.seq ?_
        refine AC.region ?_
        refine AO.op rfl (AOp.move rfl rfl (ltb rfl) rfl ?_)
        refine AO.op rfl (AOp.move rfl rfl (ltb rfl) rfl ?_)
        refine AO.op rfl (AOp.move rfl rfl (ltb rfl) rfl ?_)
        refine AO.op rfl (AOp.move rfl rfl (ltb rfl) rfl ?_)
        refine AO.op rfl (AOp.nilCheck rfl rfl (ltb rfl) rfl rfl ?_)
        refine AO.op rfl (AOp.fieldAddr rfl rfl (ltb rfl) rfl fo82_3 ?_)
        refine AO.op rfl (AOp.load1 rfl rfl (ltb rfl) rfl agg69 rfl rfl ?_)
        refine AO.op rfl (AOp.inl [0, 1, 2, 3, 10] (by kernel_rfl) Tryz.func88 rfl Tryz.ntmps88 rfl rfl (ltb rfl) rfl (leb rfl) rfl ?_)
        intro fr211
        refine AC.seq ?_
        refine AC.draw 13 mixed (by kernel_rfl) ?_
        refine AD.op [3] rfl (by kernel_rfl) rfl rfl (fun _ _ h => AOp.move rfl rfl (ltb rfl) rfl h) ?_
        refine AD.op [0] rfl (by kernel_rfl) rfl rfl (fun _ _ h => AOp.move rfl rfl (ltb rfl) rfl h) ?_
        obtain ⟨x212, q213, h3⟩ := idx_elim h3
        refine AD.op [9] rfl (by kernel_rfl) rfl rfl (fun _ _ h => AOp.indexDs (cells := (List.map keS1 (g83.getD []))) rfl rfl (ltb rfl) rfl rfl el69 (by decide) q213.1 (lt1 q213.2) h) ?_
        refine AD.op [10] rfl (by kernel_rfl) rfl rfl (fun _ _ h => AOp.loadEp rfl rfl (ltb rfl) rfl agg54 (at1 q213.2) h) ?_
        refine AD.op [1] rfl (by kernel_rfl) rfl rfl (fun _ _ h => AOp.move rfl rfl (ltb rfl) rfl h) ?_
        obtain ⟨q214, h3⟩ := need_elim h3
        refine AD.op [12] rfl (by kernel_rfl) rfl rfl (fun _ _ h => AOp.indexOwn (cells := (List.map keS1 ((g184.2.2.2.2.1.set ((0 : Int)).toNat x189).set ((1 : Int)).toNat x194))) (n := ((g184.2.2.2.2.1.set ((0 : Int)).toNat x189).set ((1 : Int)).toNat x194).length) rfl rfl (ltb rfl) rfl rfl el69 rfl (by decide) (len1 _ _) q214.1 q214.2 h) ?_
        obtain ⟨x215, q216, h3⟩ := idx_elim h3
        refine AD.op [13] rfl (by kernel_rfl) rfl rfl (fun _ _ h => AOp.loadO1 rfl rfl (ltb rfl) rfl agg54 rfl (at1 q216.2) h) ?_
        obtain ⟨z217, q218, h3⟩ := bind_elim h3
        refine AD.op [11, 14] rfl (by kernel_rfl) rfl rfl (fun _ _ h => AOp.farith rfl rfl (ltb rfl) rfl rfl q218 h) ?_
        refine AD.op [2] rfl (by kernel_rfl) rfl rfl (fun _ _ h => AOp.move rfl rfl (ltb rfl) rfl h) ?_
        obtain ⟨q219, h3⟩ := need_elim h3
        refine AD.op [16] rfl (by kernel_rfl) rfl rfl (fun _ _ h => AOp.indexOwn (cells := (List.map keS1 ((g184.2.2.2.2.2.set ((0 : Int)).toNat x199).set ((1 : Int)).toNat x205))) (n := ((g184.2.2.2.2.2.set ((0 : Int)).toNat x199).set ((1 : Int)).toNat x205).length) rfl rfl (ltb rfl) rfl rfl el69 rfl (by decide) (len1 _ _) q219.1 q219.2 h) ?_
        obtain ⟨x220, q221, h3⟩ := idx_elim h3
        refine AD.op [17] rfl (by kernel_rfl) rfl rfl (fun _ _ h => AOp.loadO1 rfl rfl (ltb rfl) rfl agg54 rfl (at1 q221.2) h) ?_
        obtain ⟨z222, q223, h3⟩ := bind_elim h3
        refine AD.op [15, 18] rfl (by kernel_rfl) rfl rfl (fun _ _ h => AOp.farith rfl rfl (ltb rfl) rfl rfl q223 h) ?_
        obtain ⟨q224, h3⟩ := need_elim h3
        refine AD.op [8] rfl (by kernel_rfl) rfl rfl (fun _ _ h => AOp.indexSl rfl rfl (ltb rfl) rfl rfl el69 q224.1 q224.2 h) ?_
        refine AD.done ?_
        obtain ⟨q225, h3⟩ := need_elim h3
        refine AO.op rfl (AOp.storeL (f := fun z => SV.d (keS1 z)) (l := g184.2.1) (i := ((0 : Int)).toNat) (v := z222) rfl rfl rfl rfl size54 rfl rfl rfl q225 ?_)
        refine AO.objs (obs' := [.fix 40 [.d (.v (.slice none 0 0))], .fix 4 [.d (dbool false)], .dead, .fix 54 (List.map (fun z => SV.d (keS1 z)) g106.2.1), .fix 54 (List.map (fun z => SV.d (keS1 z)) (g184.2.1.set ((0 : Int)).toNat z222)), .fix 54 (List.map (fun z => SV.d (keS1 z)) g184.2.2.1), .fix 82 [.d (di .i64 a0), .d (di .i64 y2), .d (oN eS1 g83), .sl 4 1 0 ((y7).toNat) ((y7).toNat), .d (dfl g184.2.2.2.1), .sl 5 1 0 ((y10).toNat) ((y10).toNat), .sl 3 1 0 ((y4).toNat) ((y4).toNat), .d (dfl g106.2.2.2.2.2)], .fix 49 [.d (di .i64 x61.Kind), .d (di .i64 x61.Layout), .d (di .i64 x61.SRID), .d (eS1 x61.Flat), .d (eS2 x61.Ends), .d (eS3 x61.Endss), .d (eS0 x61.Kids)], .dead, .fix 49 [.d (di .i64 x61.Kind), .d (di .i64 x61.Layout), .d (di .i64 x61.SRID), .d (eS1 x61.Flat), .d (eS2 x61.Ends), .d (eS3 x61.Endss), .d (eS0 x61.Kids)], .fix 92 [.d (di .i64 y72.geom2.geom1.geom0.layout), .d (di .i64 y72.geom2.geom1.geom0.stride), .d (eS1 y72.geom2.geom1.geom0.flatCoords), .d (di .i64 x61.SRID), .d (eS2 y72.geom2.ends)], .dead, .frame fr75 [(4, .ptr 0 0), (5, .ptr 1 0), (6, .ptr 6 0), (12, .d (eS0 a1)), (13, .d (di .i64 ((a1.length : Nat) : Int))), (14, .d (di .i64 g57.1))], .dead, .dead, .dead, .fix 98 [.d (di .i64 y89.geom1.geom0.layout), .d (di .i64 y89.geom1.geom0.stride), .d (eS1 y89.geom1.geom0.flatCoords), .d (di .i64 y89.geom1.geom0.srid)], .dead, .dead, .grow 54 1 (List.map keS1 g97.2.2.2.1), .grow 54 1 (List.map keS1 g97.2.2.2.2), .dead, .dead, .dead, .fix 98 [.d (di .i64 y116.geom1.geom0.layout), .d (di .i64 y116.geom1.geom0.stride), .d (eS1 y116.geom1.geom0.flatCoords), .d (di .i64 y116.geom1.geom0.srid)], .dead, .frame fr119 [(0, .ptr 6 0), (1, .ptr 10 0), (4, .d (di .i64 g106.1))], .grow 54 1 (List.map keS1 ((g184.2.2.2.2.1.set ((0 : Int)).toNat x189).set ((1 : Int)).toNat x194)), .grow 54 1 (List.map keS1 ((g184.2.2.2.2.2.set ((0 : Int)).toNat x199).set ((1 : Int)).toNat x205)), .frame fr209 [(0, .ptr 6 0), (1, .d (eS1 y116.geom1.geom0.flatCoords)), (4, .d (di .i64 y2)), (5, .d (dbool y120)), (6, .own 27), (7, .own 28), (8, .d (di .i64 g184.1))], .frame fr211 [(0, .ptr 6 0), (1, .d (eS1 (g83.getD []))), (2, .own 27), (3, .own 28), (10, .d (dfl g210))]]) rfl ?_
        refine AO.nil ?_
        change AC _ _ _ _
        refine AC.draw 13 mixed (by kernel_rfl) ?_
        refine AD.op [3] rfl (by kernel_rfl) rfl rfl (fun _ _ h => AOp.move rfl rfl (ltb rfl) rfl h) ?_
        refine AD.op [0] rfl (by kernel_rfl) rfl rfl (fun _ _ h => AOp.move rfl rfl (ltb rfl) rfl h) ?_
        obtain ⟨x226, q227, h3⟩ := idx_elim h3
        refine AD.op [22] rfl (by kernel_rfl) rfl rfl (fun _ _ h => AOp.indexDs (cells := (List.map keS1 (g83.getD []))) rfl rfl (ltb rfl) rfl rfl el69 (by decide) q227.1 (lt1 q227.2) h) ?_
        refine AD.op [23] rfl (by kernel_rfl) rfl rfl (fun _ _ h => AOp.loadEp rfl rfl (ltb rfl) rfl agg54 (at1 q227.2) h) ?_
        refine AD.op [1] rfl (by kernel_rfl) rfl rfl (fun _ _ h => AOp.move rfl rfl (ltb rfl) rfl h) ?_
        obtain ⟨q228, h3⟩ := need_elim h3
        refine AD.op [25] rfl (by kernel_rfl) rfl rfl (fun _ _ h => AOp.indexOwn (cells := (List.map keS1 ((g184.2.2.2.2.1.set ((0 : Int)).toNat x189).set ((1 : Int)).toNat x194))) (n := ((g184.2.2.2.2.1.set ((0 : Int)).toNat x189).set ((1 : Int)).toNat x194).length) rfl rfl (ltb rfl) rfl rfl el69 rfl (by decide) (len1 _ _) q228.1 q228.2 h) ?_
        obtain ⟨x229, q230, h3⟩ := idx_elim h3
        refine AD.op [26] rfl (by kernel_rfl) rfl rfl (fun _ _ h => AOp.loadO1 rfl rfl (ltb rfl) rfl agg54 rfl (at1 q230.2) h) ?_
        obtain ⟨z231, q232, h3⟩ := bind_elim h3
        refine AD.op [24, 27] rfl (by kernel_rfl) rfl rfl (fun _ _ h => AOp.farith rfl rfl (ltb rfl) rfl rfl q232 h) ?_
        refine AD.op [2] rfl (by kernel_rfl) rfl rfl (fun _ _ h => AOp.move rfl rfl (ltb rfl) rfl h) ?_
        obtain ⟨q233, h3⟩ := need_elim h3
        refine AD.op [29] rfl (by kernel_rfl) rfl rfl (fun _ _ h => AOp.indexOwn (cells := (List.map keS1 ((g184.2.2.2.2.2.set ((0 : Int)).toNat x199).set ((1 : Int)).toNat x205))) (n := ((g184.2.2.2.2.2.set ((0 : Int)).toNat x199).set ((1 : Int)).toNat x205).length) rfl rfl (ltb rfl) rfl rfl el69 rfl (by decide) (len1 _ _) q233.1 q233.2 h) ?_
        obtain ⟨x234, q235, h3⟩ := idx_elim h3
        refine AD.op [30] rfl (by kernel_rfl) rfl rfl (fun _ _ h => AOp.loadO1 rfl rfl (ltb rfl) rfl agg54 rfl (at1 q235.2) h) ?_
        obtain ⟨z236, q237, h3⟩ := bind_elim h3
        refine AD.op [28, 31] rfl (by kernel_rfl) rfl rfl (fun _ _ h => AOp.farith rfl rfl (ltb rfl) rfl rfl q237 h) ?_
        obtain ⟨q238, h3⟩ := need_elim h3
        refine AD.op [21] rfl (by kernel_rfl) rfl rfl (fun _ _ h => AOp.indexSl rfl rfl (ltb rfl) rfl rfl el69 q238.1 q238.2 h) ?_
        refine AD.done ?_
        obtain ⟨q239, h3⟩ := need_elim h3
        refine AO.op rfl (AOp.storeL (f := fun z => SV.d (keS1 z)) (l := (g184.2.1.set ((0 : Int)).toNat z222)) (i := ((1 : Int)).toNat) (v := z236) rfl rfl rfl rfl size54 rfl rfl rfl q239 ?_)
        refine AO.nil ?_
        refine inlend (ob' := [.fix 40 [.d (.v (.slice none 0 0))], .fix 4 [.d (dbool false)], .dead, .fix 54 (List.map (fun z => SV.d (keS1 z)) g106.2.1), .fix 54 (List.map (fun z => SV.d (keS1 z)) ((g184.2.1.set ((0 : Int)).toNat z222).set ((1 : Int)).toNat z236)), .fix 54 (List.map (fun z => SV.d (keS1 z)) g184.2.2.1), .fix 82 [.d (di .i64 a0), .d (di .i64 y2), .d (oN eS1 g83), .sl 4 1 0 ((y7).toNat) ((y7).toNat), .d (dfl g184.2.2.2.1), .sl 5 1 0 ((y10).toNat) ((y10).toNat), .sl 3 1 0 ((y4).toNat) ((y4).toNat), .d (dfl g106.2.2.2.2.2)], .fix 49 [.d (di .i64 x61.Kind), .d (di .i64 x61.Layout), .d (di .i64 x61.SRID), .d (eS1 x61.Flat), .d (eS2 x61.Ends), .d (eS3 x61.Endss), .d (eS0 x61.Kids)], .dead, .fix 49 [.d (di .i64 x61.Kind), .d (di .i64 x61.Layout), .d (di .i64 x61.SRID), .d (eS1 x61.Flat), .d (eS2 x61.Ends), .d (eS3 x61.Endss), .d (eS0 x61.Kids)], .fix 92 [.d (di .i64 y72.geom2.geom1.geom0.layout), .d (di .i64 y72.geom2.geom1.geom0.stride), .d (eS1 y72.geom2.geom1.geom0.flatCoords), .d (di .i64 x61.SRID), .d (eS2 y72.geom2.ends)], .dead, .frame fr75 [(4, .ptr 0 0), (5, .ptr 1 0), (6, .ptr 6 0), (12, .d (eS0 a1)), (13, .d (di .i64 ((a1.length : Nat) : Int))), (14, .d (di .i64 g57.1))], .dead, .dead, .dead, .fix 98 [.d (di .i64 y89.geom1.geom0.layout), .d (di .i64 y89.geom1.geom0.stride), .d (eS1 y89.geom1.geom0.flatCoords), .d (di .i64 y89.geom1.geom0.srid)], .dead, .dead, .grow 54 1 (List.map keS1 g97.2.2.2.1), .grow 54 1 (List.map keS1 g97.2.2.2.2), .dead, .dead, .dead, .fix 98 [.d (di .i64 y116.geom1.geom0.layout), .d (di .i64 y116.geom1.geom0.stride), .d (eS1 y116.geom1.geom0.flatCoords), .d (di .i64 y116.geom1.geom0.srid)], .dead, .frame fr119 [(0, .ptr 6 0), (1, .ptr 10 0), (4, .d (di .i64 g106.1))], .grow 54 1 (List.map keS1 ((g184.2.2.2.2.1.set ((0 : Int)).toNat x189).set ((1 : Int)).toNat x194)), .grow 54 1 (List.map keS1 ((g184.2.2.2.2.2.set ((0 : Int)).toNat x199).set ((1 : Int)).toNat x205)), .frame fr209 [(0, .ptr 6 0), (1, .d (eS1 y116.geom1.geom0.flatCoords)), (4, .d (di .i64 y2)), (5, .d (dbool y120)), (6, .own 27), (7, .own 28), (8, .d (di .i64 g184.1))], .dead]) (e' := [(0, .ptr 6 0), (1, .d (eS1 (g83.getD []))), (2, .own 27), (3, .own 28), (10, .d (dfl g210))]) (r := .tu []) rfl rfl rfl ?_
        change AO _ _ _ _ _
        refine AO.objs (obs' := [.fix 40 [.d (.v (.slice none 0 0))], .fix 4 [.d (dbool false)], .dead, .fix 54 (List.map (fun z => SV.d (keS1 z)) g106.2.1), .fix 54 (List.map (fun z => SV.d (keS1 z)) ((g184.2.1.set ((0 : Int)).toNat z222).set ((1 : Int)).toNat z236)), .fix 54 (List.map (fun z => SV.d (keS1 z)) g184.2.2.1), .fix 82 [.d (di .i64 a0), .d (di .i64 y2), .d (oN eS1 g83), .sl 4 1 0 ((y7).toNat) ((y7).toNat), .d (dfl g184.2.2.2.1), .sl 5 1 0 ((y10).toNat) ((y10).toNat), .sl 3 1 0 ((y4).toNat) ((y4).toNat), .d (dfl g106.2.2.2.2.2)], .fix 49 [.d (di .i64 x61.Kind), .d (di .i64 x61.Layout), .d (di .i64 x61.SRID), .d (eS1 x61.Flat), .d (eS2 x61.Ends), .d (eS3 x61.Endss), .d (eS0 x61.Kids)], .dead, .fix 49 [.d (di .i64 x61.Kind), .d (di .i64 x61.Layout), .d (di .i64 x61.SRID), .d (eS1 x61.Flat), .d (eS2 x61.Ends), .d (eS3 x61.Endss), .d (eS0 x61.Kids)], .fix 92 [.d (di .i64 y72.geom2.geom1.geom0.layout), .d (di .i64 y72.geom2.geom1.geom0.stride), .d (eS1 y72.geom2.geom1.geom0.flatCoords), .d (di .i64 x61.SRID), .d (eS2 y72.geom2.ends)], .dead, .frame fr75 [(4, .ptr 0 0), (5, .ptr 1 0), (6, .ptr 6 0), (12, .d (eS0 a1)), (13, .d (di .i64 ((a1.length : Nat) : Int))), (14, .d (di .i64 g57.1))], .dead, .dead, .dead, .fix 98 [.d (di .i64 y89.geom1.geom0.layout), .d (di .i64 y89.geom1.geom0.stride), .d (eS1 y89.geom1.geom0.flatCoords), .d (di .i64 y89.geom1.geom0.srid)], .dead, .dead, .grow 54 1 (List.map keS1 g97.2.2.2.1), .grow 54 1 (List.map keS1 g97.2.2.2.2), .dead, .dead, .dead, .fix 98 [.d (di .i64 y116.geom1.geom0.layout), .d (di .i64 y116.geom1.geom0.stride), .d (eS1 y116.geom1.geom0.flatCoords), .d (di .i64 y116.geom1.geom0.srid)], .dead, .frame fr119 [(0, .ptr 6 0), (1, .ptr 10 0), (4, .d (di .i64 g106.1))], .grow 54 1 (List.map keS1 ((g184.2.2.2.2.1.set ((0 : Int)).toNat x189).set ((1 : Int)).toNat x194)), .grow 54 1 (List.map keS1 ((g184.2.2.2.2.2.set ((0 : Int)).toNat x199).set ((1 : Int)).toNat x205)), .frame fr209 [(0, .ptr 6 0), (1, .d (eS1 y116.geom1.geom0.flatCoords)), (4, .d (di .i64 y2)), (5, .d (dbool y120)), (6, .own 27), (7, .own 28), (8, .d (di .i64 g184.1))], .dead]) rfl ?_
        refine AO.nil ?_
        change AC _ _ _ _
        refine AC.seq ?_
        refine AC.region ?_
        refine AO.op rfl (AOp.move rfl rfl (ltb rfl) rfl ?_)
        refine AO.op rfl (AOp.move rfl rfl (ltb rfl) rfl ?_)
        refine AO.op rfl (AOp.move rfl rfl (ltb rfl) rfl ?_)
        refine AO.op rfl (AOp.inl [0, 10] (by kernel_rfl) Tryz.func89 rfl Tryz.ntmps89 rfl rfl (ltb rfl) rfl (leb rfl) rfl ?_)
        intro fr240
        refine AC.seq ?_
        refine AC.region ?_
        refine AO.op rfl (AOp.assign rfl rfl (ltb rfl) rfl ?_)
        refine AO.objs (obs' := [.fix 40 [.d (.v (.slice none 0 0))], .fix 4 [.d (dbool false)], .dead, .fix 54 (List.map (fun z => SV.d (keS1 z)) g106.2.1), .fix 54 (List.map (fun z => SV.d (keS1 z)) ((g184.2.1.set ((0 : Int)).toNat z222).set ((1 : Int)).toNat z236)), .fix 54 (List.map (fun z => SV.d (keS1 z)) g184.2.2.1), .fix 82 [.d (di .i64 a0), .d (di .i64 y2), .d (oN eS1 g83), .sl 4 1 0 ((y7).toNat) ((y7).toNat), .d (dfl g184.2.2.2.1), .sl 5 1 0 ((y10).toNat) ((y10).toNat), .sl 3 1 0 ((y4).toNat) ((y4).toNat), .d (dfl g106.2.2.2.2.2)], .fix 49 [.d (di .i64 x61.Kind), .d (di .i64 x61.Layout), .d (di .i64 x61.SRID), .d (eS1 x61.Flat), .d (eS2 x61.Ends), .d (eS3 x61.Endss), .d (eS0 x61.Kids)], .dead, .fix 49 [.d (di .i64 x61.Kind), .d (di .i64 x61.Layout), .d (di .i64 x61.SRID), .d (eS1 x61.Flat), .d (eS2 x61.Ends), .d (eS3 x61.Endss), .d (eS0 x61.Kids)], .fix 92 [.d (di .i64 y72.geom2.geom1.geom0.layout), .d (di .i64 y72.geom2.geom1.geom0.stride), .d (eS1 y72.geom2.geom1.geom0.flatCoords), .d (di .i64 x61.SRID), .d (eS2 y72.geom2.ends)], .dead, .frame fr75 [(4, .ptr 0 0), (5, .ptr 1 0), (6, .ptr 6 0), (12, .d (eS0 a1)), (13, .d (di .i64 ((a1.length : Nat) : Int))), (14, .d (di .i64 g57.1))], .dead, .dead, .dead, .fix 98 [.d (di .i64 y89.geom1.geom0.layout), .d (di .i64 y89.geom1.geom0.stride), .d (eS1 y89.geom1.geom0.flatCoords), .d (di .i64 y89.geom1.geom0.srid)], .dead, .dead, .grow 54 1 (List.map keS1 g97.2.2.2.1), .grow 54 1 (List.map keS1 g97.2.2.2.2), .dead, .dead, .dead, .fix 98 [.d (di .i64 y116.geom1.geom0.layout), .d (di .i64 y116.geom1.geom0.stride), .d (eS1 y116.geom1.geom0.flatCoords), .d (di .i64 y116.geom1.geom0.srid)], .dead, .frame fr119 [(0, .ptr 6 0), (1, .ptr 10 0), (4, .d (di .i64 g106.1))], .grow 54 1 (List.map keS1 ((g184.2.2.2.2.1.set ((0 : Int)).toNat x189).set ((1 : Int)).toNat x194)), .grow 54 1 (List.map keS1 ((g184.2.2.2.2.2.set ((0 : Int)).toNat x199).set ((1 : Int)).toNat x205)), .frame fr209 [(0, .ptr 6 0), (1, .d (eS1 y116.geom1.geom0.flatCoords)), (4, .d (di .i64 y2)), (5, .d (dbool y120)), (6, .own 27), (7, .own 28), (8, .d (di .i64 g184.1))], .dead, .frame fr240 [(0, .ptr 6 0), (10, .d (dfl g210))]]) rfl ?_
        refine AO.nil ?_
        change AC _ _ _ _
        refine AC.seq ?_
        refine AC.draw 32 mixed (by kernel_rfl) ?_
        refine AD.op [1] rfl (by kernel_rfl) rfl rfl (fun _ _ h => AOp.move rfl rfl (ltb rfl) rfl h) ?_
        obtain ⟨q241, h3⟩ := need_elim h3
        refine AD.op [7] rfl (by kernel_rfl) rfl rfl (fun _ _ h => AOp.indexOwn (cells := (List.map keS1 ((g184.2.2.2.2.1.set ((0 : Int)).toNat x189).set ((1 : Int)).toNat x194))) (n := ((g184.2.2.2.2.1.set ((0 : Int)).toNat x189).set ((1 : Int)).toNat x194).length) rfl rfl (ltb rfl) rfl rfl el69 rfl (by decide) (len1 _ _) q241.1 q241.2 h) ?_
        obtain ⟨x242, q243, h3⟩ := idx_elim h3
        refine AD.op [8] rfl (by kernel_rfl) rfl rfl (fun _ _ h => AOp.loadO1 rfl rfl (ltb rfl) rfl agg54 rfl (at1 q243.2) h) ?_
        refine AD.op [0] rfl (by kernel_rfl) rfl rfl (fun _ _ h => AOp.move rfl rfl (ltb rfl) rfl h) ?_
        obtain ⟨x244, q245, h3⟩ := idx_elim h3
        refine AD.op [10] rfl (by kernel_rfl) rfl rfl (fun _ _ h => AOp.indexDs (cells := (List.map keS1 (g83.getD []))) rfl rfl (ltb rfl) rfl rfl el69 (by decide) q245.1 (lt1 q245.2) h) ?_
        refine AD.op [11] rfl (by kernel_rfl) rfl rfl (fun _ _ h => AOp.loadEp rfl rfl (ltb rfl) rfl agg54 (at1 q245.2) h) ?_
        obtain ⟨z246, q247, h3⟩ := bind_elim h3
        refine AD.op [9, 12] rfl (by kernel_rfl) rfl rfl (fun _ _ h => AOp.farith rfl rfl (ltb rfl) rfl rfl q247 h) ?_
        refine AD.op [2] rfl (by kernel_rfl) rfl rfl (fun _ _ h => AOp.move rfl rfl (ltb rfl) rfl h) ?_
        obtain ⟨q248, h3⟩ := need_elim h3
        refine AD.op [14] rfl (by kernel_rfl) rfl rfl (fun _ _ h => AOp.indexOwn (cells := (List.map keS1 ((g184.2.2.2.2.2.set ((0 : Int)).toNat x199).set ((1 : Int)).toNat x205))) (n := ((g184.2.2.2.2.2.set ((0 : Int)).toNat x199).set ((1 : Int)).toNat x205).length) rfl rfl (ltb rfl) rfl rfl el69 rfl (by decide) (len1 _ _) q248.1 q248.2 h) ?_
        obtain ⟨x249, q250, h3⟩ := idx_elim h3
        refine AD.op [15] rfl (by kernel_rfl) rfl rfl (fun _ _ h => AOp.loadO1 rfl rfl (ltb rfl) rfl agg54 rfl (at1 q250.2) h) ?_
        refine AD.op [0] rfl (by kernel_rfl) rfl rfl (fun _ _ h => AOp.move rfl rfl (ltb rfl) rfl h) ?_
        obtain ⟨x251, q252, h3⟩ := idx_elim h3
        refine AD.op [17] rfl (by kernel_rfl) rfl rfl (fun _ _ h => AOp.indexDs (cells := (List.map keS1 (g83.getD []))) rfl rfl (ltb rfl) rfl rfl el69 (by decide) q252.1 (lt1 q252.2) h) ?_
        refine AD.op [18] rfl (by kernel_rfl) rfl rfl (fun _ _ h => AOp.loadEp rfl rfl (ltb rfl) rfl agg54 (at1 q252.2) h) ?_
        obtain ⟨z253, q254, h3⟩ := bind_elim h3
        refine AD.op [16, 19] rfl (by kernel_rfl) rfl rfl (fun _ _ h => AOp.farith rfl rfl (ltb rfl) rfl rfl q254 h) ?_
        obtain ⟨z255, q256, h3⟩ := bind_elim h3
        refine AD.op [13, 20] rfl (by kernel_rfl) rfl rfl (fun _ _ h => AOp.farith rfl rfl (ltb rfl) rfl rfl q256 h) ?_
        refine AD.op [2] rfl (by kernel_rfl) rfl rfl (fun _ _ h => AOp.move rfl rfl (ltb rfl) rfl h) ?_
        obtain ⟨q257, h3⟩ := need_elim h3
        refine AD.op [22] rfl (by kernel_rfl) rfl rfl (fun _ _ h => AOp.indexOwn (cells := (List.map keS1 ((g184.2.2.2.2.2.set ((0 : Int)).toNat x199).set ((1 : Int)).toNat x205))) (n := ((g184.2.2.2.2.2.set ((0 : Int)).toNat x199).set ((1 : Int)).toNat x205).length) rfl rfl (ltb rfl) rfl rfl el69 rfl (by decide) (len1 _ _) q257.1 q257.2 h) ?_
        obtain ⟨x258, q259, h3⟩ := idx_elim h3
        refine AD.op [23] rfl (by kernel_rfl) rfl rfl (fun _ _ h => AOp.loadO1 rfl rfl (ltb rfl) rfl agg54 rfl (at1 q259.2) h) ?_
        refine AD.op [0] rfl (by kernel_rfl) rfl rfl (fun _ _ h => AOp.move rfl rfl (ltb rfl) rfl h) ?_
        obtain ⟨x260, q261, h3⟩ := idx_elim h3
        refine AD.op [25] rfl (by kernel_rfl) rfl rfl (fun _ _ h => AOp.indexDs (cells := (List.map keS1 (g83.getD []))) rfl rfl (ltb rfl) rfl rfl el69 (by decide) q261.1 (lt1 q261.2) h) ?_
        refine AD.op [26] rfl (by kernel_rfl) rfl rfl (fun _ _ h => AOp.loadEp rfl rfl (ltb rfl) rfl agg54 (at1 q261.2) h) ?_
        obtain ⟨z262, q263, h3⟩ := bind_elim h3
        refine AD.op [24, 27] rfl (by kernel_rfl) rfl rfl (fun _ _ h => AOp.farith rfl rfl (ltb rfl) rfl rfl q263 h) ?_
        refine AD.op [1] rfl (by kernel_rfl) rfl rfl (fun _ _ h => AOp.move rfl rfl (ltb rfl) rfl h) ?_
        obtain ⟨q264, h3⟩ := need_elim h3
        refine AD.op [29] rfl (by kernel_rfl) rfl rfl (fun _ _ h => AOp.indexOwn (cells := (List.map keS1 ((g184.2.2.2.2.1.set ((0 : Int)).toNat x189).set ((1 : Int)).toNat x194))) (n := ((g184.2.2.2.2.1.set ((0 : Int)).toNat x189).set ((1 : Int)).toNat x194).length) rfl rfl (ltb rfl) rfl rfl el69 rfl (by decide) (len1 _ _) q264.1 q264.2 h) ?_
        obtain ⟨x265, q266, h3⟩ := idx_elim h3
        refine AD.op [30] rfl (by kernel_rfl) rfl rfl (fun _ _ h => AOp.loadO1 rfl rfl (ltb rfl) rfl agg54 rfl (at1 q266.2) h) ?_
        refine AD.op [0] rfl (by kernel_rfl) rfl rfl (fun _ _ h => AOp.move rfl rfl (ltb rfl) rfl h) ?_
        obtain ⟨x267, q268, h3⟩ := idx_elim h3
        refine AD.op [32] rfl (by kernel_rfl) rfl rfl (fun _ _ h => AOp.indexDs (cells := (List.map keS1 (g83.getD []))) rfl rfl (ltb rfl) rfl rfl el69 (by decide) q268.1 (lt1 q268.2) h) ?_
        refine AD.op [33] rfl (by kernel_rfl) rfl rfl (fun _ _ h => AOp.loadEp rfl rfl (ltb rfl) rfl agg54 (at1 q268.2) h) ?_
        obtain ⟨z269, q270, h3⟩ := bind_elim h3
        refine AD.op [31, 34] rfl (by kernel_rfl) rfl rfl (fun _ _ h => AOp.farith rfl rfl (ltb rfl) rfl rfl q270 h) ?_
        obtain ⟨z271, q272, h3⟩ := bind_elim h3
        refine AD.op [28, 35] rfl (by kernel_rfl) rfl rfl (fun _ _ h => AOp.farith rfl rfl (ltb rfl) rfl rfl q272 h) ?_
        obtain ⟨z273, q274, h3⟩ := bind_elim h3
        refine AD.op [21, 36] rfl (by kernel_rfl) rfl rfl (fun _ _ h => AOp.farith rfl rfl (ltb rfl) rfl rfl q274 h) ?_
        refine AD.op [37] rfl (by kernel_rfl) rfl rfl (fun _ _ h => AOp.assign rfl rfl (ltb rfl) rfl h) ?_
        refine AD.done ?_
        refine AO.nil ?_
        change AC _ _ _ _
        refine AC.ret ?_
        refine inlret (ob' := [.fix 40 [.d (.v (.slice none 0 0))], .fix 4 [.d (dbool false)], .dead, .fix 54 (List.map (fun z => SV.d (keS1 z)) g106.2.1), .fix 54 (List.map (fun z => SV.d (keS1 z)) ((g184.2.1.set ((0 : Int)).toNat z222).set ((1 : Int)).toNat z236)), .fix 54 (List.map (fun z => SV.d (keS1 z)) g184.2.2.1), .fix 82 [.d (di .i64 a0), .d (di .i64 y2), .d (oN eS1 g83), .sl 4 1 0 ((y7).toNat) ((y7).toNat), .d (dfl g184.2.2.2.1), .sl 5 1 0 ((y10).toNat) ((y10).toNat), .sl 3 1 0 ((y4).toNat) ((y4).toNat), .d (dfl g106.2.2.2.2.2)], .fix 49 [.d (di .i64 x61.Kind), .d (di .i64 x61.Layout), .d (di .i64 x61.SRID), .d (eS1 x61.Flat), .d (eS2 x61.Ends), .d (eS3 x61.Endss), .d (eS0 x61.Kids)], .dead, .fix 49 [.d (di .i64 x61.Kind), .d (di .i64 x61.Layout), .d (di .i64 x61.SRID), .d (eS1 x61.Flat), .d (eS2 x61.Ends), .d (eS3 x61.Endss), .d (eS0 x61.Kids)], .fix 92 [.d (di .i64 y72.geom2.geom1.geom0.layout), .d (di .i64 y72.geom2.geom1.geom0.stride), .d (eS1 y72.geom2.geom1.geom0.flatCoords), .d (di .i64 x61.SRID), .d (eS2 y72.geom2.ends)], .dead, .frame fr75 [(4, .ptr 0 0), (5, .ptr 1 0), (6, .ptr 6 0), (12, .d (eS0 a1)), (13, .d (di .i64 ((a1.length : Nat) : Int))), (14, .d (di .i64 g57.1))], .dead, .dead, .dead, .fix 98 [.d (di .i64 y89.geom1.geom0.layout), .d (di .i64 y89.geom1.geom0.stride), .d (eS1 y89.geom1.geom0.flatCoords), .d (di .i64 y89.geom1.geom0.srid)], .dead, .dead, .grow 54 1 (List.map keS1 g97.2.2.2.1), .grow 54 1 (List.map keS1 g97.2.2.2.2), .dead, .dead, .dead, .fix 98 [.d (di .i64 y116.geom1.geom0.layout), .d (di .i64 y116.geom1.geom0.stride), .d (eS1 y116.geom1.geom0.flatCoords), .d (di .i64 y116.geom1.geom0.srid)], .dead, .frame fr119 [(0, .ptr 6 0), (1, .ptr 10 0), (4, .d (di .i64 g106.1))], .grow 54 1 (List.map keS1 ((g184.2.2.2.2.1.set ((0 : Int)).toNat x189).set ((1 : Int)).toNat x194)), .grow 54 1 (List.map keS1 ((g184.2.2.2.2.2.set ((0 : Int)).toNat x199).set ((1 : Int)).toNat x205)), .frame fr209 [(0, .ptr 6 0), (1, .d (eS1 y116.geom1.geom0.flatCoords)), (4, .d (di .i64 y2)), (5, .d (dbool y120)), (6, .own 27), (7, .own 28), (8, .d (di .i64 g184.1))], .dead, .dead]) (e' := [(0, .ptr 6 0), (10, .d (dfl g210))]) (r := .d (dfl z273)) rfl rfl rfl ?_
        change AO _ _ _ _ _
        refine AO.op rfl (AOp.assign rfl rfl (ltb rfl) rfl ?_)
        refine AO.objs (obs' := [.fix 40 [.d (.v (.slice none 0 0))], .fix 4 [.d (dbool false)], .dead, .fix 54 (List.map (fun z => SV.d (keS1 z)) g106.2.1), .fix 54 (List.map (fun z => SV.d (keS1 z)) ((g184.2.1.set ((0 : Int)).toNat z222).set ((1 : Int)).toNat z236)), .fix 54 (List.map (fun z => SV.d (keS1 z)) g184.2.2.1), .fix 82 [.d (di .i64 a0), .d (di .i64 y2), .d (oN eS1 g83), .sl 4 1 0 ((y7).toNat) ((y7).toNat), .d (dfl g184.2.2.2.1), .sl 5 1 0 ((y10).toNat) ((y10).toNat), .sl 3 1 0 ((y4).toNat) ((y4).toNat), .d (dfl g106.2.2.2.2.2)], .fix 49 [.d (di .i64 x61.Kind), .d (di .i64 x61.Layout), .d (di .i64 x61.SRID), .d (eS1 x61.Flat), .d (eS2 x61.Ends), .d (eS3 x61.Endss), .d (eS0 x61.Kids)], .dead, .fix 49 [.d (di .i64 x61.Kind), .d (di .i64 x61.Layout), .d (di .i64 x61.SRID), .d (eS1 x61.Flat), .d (eS2 x61.Ends), .d (eS3 x61.Endss), .d (eS0 x61.Kids)], .fix 92 [.d (di .i64 y72.geom2.geom1.geom0.layout), .d (di .i64 y72.geom2.geom1.geom0.stride), .d (eS1 y72.geom2.geom1.geom0.flatCoords), .d (di .i64 x61.SRID), .d (eS2 y72.geom2.ends)], .dead, .frame fr75 [(4, .ptr 0 0), (5, .ptr 1 0), (6, .ptr 6 0), (12, .d (eS0 a1)), (13, .d (di .i64 ((a1.length : Nat) : Int))), (14, .d (di .i64 g57.1))], .dead, .dead, .dead, .fix 98 [.d (di .i64 y89.geom1.geom0.layout), .d (di .i64 y89.geom1.geom0.stride), .d (eS1 y89.geom1.geom0.flatCoords), .d (di .i64 y89.geom1.geom0.srid)], .dead, .dead, .grow 54 1 (List.map keS1 g97.2.2.2.1), .grow 54 1 (List.map keS1 g97.2.2.2.2), .dead, .dead, .dead, .fix 98 [.d (di .i64 y116.geom1.geom0.layout), .d (di .i64 y116.geom1.geom0.stride), .d (eS1 y116.geom1.geom0.flatCoords), .d (di .i64 y116.geom1.geom0.srid)], .dead, .frame fr119 [(0, .ptr 6 0), (1, .ptr 10 0), (4, .d (di .i64 g106.1))], .grow 54 1 (List.map keS1 ((g184.2.2.2.2.1.set ((0 : Int)).toNat x189).set ((1 : Int)).toNat x194)), .grow 54 1 (List.map keS1 ((g184.2.2.2.2.2.set ((0 : Int)).toNat x199).set ((1 : Int)).toNat x205)), .frame fr209 [(0, .ptr 6 0), (1, .d (eS1 y116.geom1.geom0.flatCoords)), (4, .d (di .i64 y2)), (5, .d (dbool y120)), (6, .own 27), (7, .own 28), (8, .d (di .i64 g184.1))], .dead, .dead]) rfl ?_
        refine AO.nil ?_
        change AC _ _ _ _
        refine AC.seq ?_
        refine AC.draw 18 mixed (by kernel_rfl) ?_
        refine AD.op [0] rfl (by kernel_rfl) rfl rfl (fun _ _ h => AOp.move rfl rfl (ltb rfl) rfl h) ?_
        refine AD.op [25] rfl (by kernel_rfl) rfl rfl (fun _ _ h => AOp.nilCheck rfl rfl (ltb rfl) rfl rfl h) ?_
        refine AD.op [26] rfl (by kernel_rfl) rfl rfl (fun _ _ h => AOp.fieldAddr rfl rfl (ltb rfl) rfl fo82_5 h) ?_
        refine AD.op [27] rfl (by kernel_rfl) rfl rfl (fun _ _ h => AOp.load1 rfl rfl (ltb rfl) rfl agg69 rfl rfl h) ?_
        obtain ⟨q275, h3⟩ := need_elim h3
        refine AD.op [28] rfl (by kernel_rfl) rfl rfl (fun _ _ h => AOp.indexSl rfl rfl (ltb rfl) rfl rfl el69 q275.1 q275.2 h) ?_
        obtain ⟨x276, q277, h3⟩ := idx_elim h3
        refine AD.op [29] rfl (by kernel_rfl) rfl rfl (fun _ _ h => AOp.load1 rfl rfl (ltb rfl) rfl agg54 rfl (atO q277.2) h) ?_
        refine AD.op [10] rfl (by kernel_rfl) rfl rfl (fun _ _ h => AOp.move rfl rfl (ltb rfl) rfl h) ?_
        refine AD.op [11] rfl (by kernel_rfl) rfl rfl (fun _ _ h => AOp.move rfl rfl (ltb rfl) rfl h) ?_
        obtain ⟨z278, q279, h3⟩ := bind_elim h3
        refine AD.op [31, 32] rfl (by kernel_rfl) rfl rfl (fun _ _ h => AOp.farith rfl rfl (ltb rfl) rfl rfl q279 h) ?_
        refine AD.op [0] rfl (by kernel_rfl) rfl rfl (fun _ _ h => AOp.move rfl rfl (ltb rfl) rfl h) ?_
        refine AD.op [34] rfl (by kernel_rfl) rfl rfl (fun _ _ h => AOp.nilCheck rfl rfl (ltb rfl) rfl rfl h) ?_
        refine AD.op [35] rfl (by kernel_rfl) rfl rfl (fun _ _ h => AOp.fieldAddr rfl rfl (ltb rfl) rfl fo82_3 h) ?_
        refine AD.op [36] rfl (by kernel_rfl) rfl rfl (fun _ _ h => AOp.load1 rfl rfl (ltb rfl) rfl agg69 rfl rfl h) ?_
        obtain ⟨q280, h3⟩ := need_elim h3
        refine AD.op [37] rfl (by kernel_rfl) rfl rfl (fun _ _ h => AOp.indexSl rfl rfl (ltb rfl) rfl rfl el69 q280.1 q280.2 h) ?_
        obtain ⟨x281, q282, h3⟩ := idx_elim h3
        refine AD.op [38] rfl (by kernel_rfl) rfl rfl (fun _ _ h => AOp.load1 rfl rfl (ltb rfl) rfl agg54 rfl (atO q282.2) h) ?_
        obtain ⟨z283, q284, h3⟩ := bind_elim h3
        refine AD.op [33, 39] rfl (by kernel_rfl) rfl rfl (fun _ _ h => AOp.farith rfl rfl (ltb rfl) rfl rfl q284 h) ?_
        obtain ⟨z285, q286, h3⟩ := bind_elim h3
        refine AD.op [30, 40] rfl (by kernel_rfl) rfl rfl (fun _ _ h => AOp.farith rfl rfl (ltb rfl) rfl rfl q286 h) ?_
        obtain ⟨q287, h3⟩ := need_elim h3
        refine AD.op [28] rfl (by kernel_rfl) rfl rfl (fun _ _ h => AOp.indexSl rfl rfl (ltb rfl) rfl rfl el69 q287.1 q287.2 h) ?_
        refine AD.done ?_
        obtain ⟨q288, h3⟩ := need_elim h3
        refine AO.op rfl (AOp.storeL (f := fun z => SV.d (keS1 z)) (l := g184.2.2.1) (i := ((0 : Int)).toNat) (v := z285) rfl rfl rfl rfl size54 rfl rfl rfl q288 ?_)
        refine AO.nil ?_
        change AC _ _ _ _
        refine AC.seq ?_
        refine AC.draw 18 mixed (by kernel_rfl) ?_
        refine AD.op [0] rfl (by kernel_rfl) rfl rfl (fun _ _ h => AOp.move rfl rfl (ltb rfl) rfl h) ?_
        refine AD.op [43] rfl (by kernel_rfl) rfl rfl (fun _ _ h => AOp.nilCheck rfl rfl (ltb rfl) rfl rfl h) ?_
        refine AD.op [44] rfl (by kernel_rfl) rfl rfl (fun _ _ h => AOp.fieldAddr rfl rfl (ltb rfl) rfl fo82_5 h) ?_
        refine AD.op [45] rfl (by kernel_rfl) rfl rfl (fun _ _ h => AOp.load1 rfl rfl (ltb rfl) rfl agg69 rfl rfl h) ?_
        obtain ⟨q289, h3⟩ := need_elim h3
        refine AD.op [46] rfl (by kernel_rfl) rfl rfl (fun _ _ h => AOp.indexSl rfl rfl (ltb rfl) rfl rfl el69 q289.1 q289.2 h) ?_
        obtain ⟨x290, q291, h3⟩ := idx_elim h3
        refine AD.op [47] rfl (by kernel_rfl) rfl rfl (fun _ _ h => AOp.load1 rfl rfl (ltb rfl) rfl agg54 rfl (atO q291.2) h) ?_
        refine AD.op [10] rfl (by kernel_rfl) rfl rfl (fun _ _ h => AOp.move rfl rfl (ltb rfl) rfl h) ?_
        refine AD.op [11] rfl (by kernel_rfl) rfl rfl (fun _ _ h => AOp.move rfl rfl (ltb rfl) rfl h) ?_
        obtain ⟨z292, q293, h3⟩ := bind_elim h3
        refine AD.op [49, 50] rfl (by kernel_rfl) rfl rfl (fun _ _ h => AOp.farith rfl rfl (ltb rfl) rfl rfl q293 h) ?_
        refine AD.op [0] rfl (by kernel_rfl) rfl rfl (fun _ _ h => AOp.move rfl rfl (ltb rfl) rfl h) ?_
        refine AD.op [52] rfl (by kernel_rfl) rfl rfl (fun _ _ h => AOp.nilCheck rfl rfl (ltb rfl) rfl rfl h) ?_
        refine AD.op [53] rfl (by kernel_rfl) rfl rfl (fun _ _ h => AOp.fieldAddr rfl rfl (ltb rfl) rfl fo82_3 h) ?_
        refine AD.op [54] rfl (by kernel_rfl) rfl rfl (fun _ _ h => AOp.load1 rfl rfl (ltb rfl) rfl agg69 rfl rfl h) ?_
        obtain ⟨q294, h3⟩ := need_elim h3
        refine AD.op [55] rfl (by kernel_rfl) rfl rfl (fun _ _ h => AOp.indexSl rfl rfl (ltb rfl) rfl rfl el69 q294.1 q294.2 h) ?_
        obtain ⟨x295, q296, h3⟩ := idx_elim h3
        refine AD.op [56] rfl (by kernel_rfl) rfl rfl (fun _ _ h => AOp.load1 rfl rfl (ltb rfl) rfl agg54 rfl (atO q296.2) h) ?_
        obtain ⟨z297, q298, h3⟩ := bind_elim h3
        refine AD.op [51, 57] rfl (by kernel_rfl) rfl rfl (fun _ _ h => AOp.farith rfl rfl (ltb rfl) rfl rfl q298 h) ?_
        obtain ⟨z299, q300, h3⟩ := bind_elim h3
        refine AD.op [48, 58] rfl (by kernel_rfl) rfl rfl (fun _ _ h => AOp.farith rfl rfl (ltb rfl) rfl rfl q300 h) ?_
        obtain ⟨q301, h3⟩ := need_elim h3
        refine AD.op [46] rfl (by kernel_rfl) rfl rfl (fun _ _ h => AOp.indexSl rfl rfl (ltb rfl) rfl rfl el69 q301.1 q301.2 h) ?_
        refine AD.done ?_
        obtain ⟨q302, h3⟩ := need_elim h3
        refine AO.op rfl (AOp.storeL (f := fun z => SV.d (keS1 z)) (l := (g184.2.2.1.set ((0 : Int)).toNat z285)) (i := ((1 : Int)).toNat) (v := z299) rfl rfl rfl rfl size54 rfl rfl rfl q302 ?_)
        refine AO.nil ?_
        change AC _ _ _ _
        refine AC.region ?_
        refine AO.op rfl (AOp.move rfl rfl (ltb rfl) rfl ?_)
        refine AO.op rfl (AOp.nilCheck rfl rfl (ltb rfl) rfl rfl ?_)
        refine AO.op rfl (AOp.fieldAddr rfl rfl (ltb rfl) rfl fo82_4 ?_)
        refine AO.op rfl (AOp.load1 rfl rfl (ltb rfl) rfl agg54 rfl rfl ?_)
        refine AO.op rfl (AOp.move rfl rfl (ltb rfl) rfl ?_)
        refine AO.op rfl (AOp.move rfl rfl (ltb rfl) rfl ?_)
        obtain ⟨z303, q304, h3⟩ := bind_elim h3
        refine AO.op rfl (AOp.farith rfl rfl (ltb rfl) rfl rfl q304 ?_)
        obtain ⟨z305, q306, h3⟩ := bind_elim h3
        refine AO.op rfl (AOp.farith rfl rfl (ltb rfl) rfl rfl q306 ?_)
        refine AO.op rfl (AOp.nilCheck rfl rfl (ltb rfl) rfl rfl ?_)
        refine AO.op rfl (AOp.fieldAddr rfl rfl (ltb rfl) rfl fo82_4 ?_)
        refine AO.op rfl (AOp.store rfl rfl rfl rfl size54 rfl rfl rfl (leb rfl) ?_)
        refine AO.nil ?_
        refine inlend (ob' := [.fix 40 [.d (.v (.slice none 0 0))], .fix 4 [.d (dbool false)], .dead, .fix 54 (List.map (fun z => SV.d (keS1 z)) g106.2.1), .fix 54 (List.map (fun z => SV.d (keS1 z)) ((g184.2.1.set ((0 : Int)).toNat z222).set ((1 : Int)).toNat z236)), .fix 54 (List.map (fun z => SV.d (keS1 z)) ((g184.2.2.1.set ((0 : Int)).toNat z285).set ((1 : Int)).toNat z299)), .fix 82 [.d (di .i64 a0), .d (di .i64 y2), .d (oN eS1 g83), .sl 4 1 0 ((y7).toNat) ((y7).toNat), .d (dfl z305), .sl 5 1 0 ((y10).toNat) ((y10).toNat), .sl 3 1 0 ((y4).toNat) ((y4).toNat), .d (dfl g106.2.2.2.2.2)], .fix 49 [.d (di .i64 x61.Kind), .d (di .i64 x61.Layout), .d (di .i64 x61.SRID), .d (eS1 x61.Flat), .d (eS2 x61.Ends), .d (eS3 x61.Endss), .d (eS0 x61.Kids)], .dead, .fix 49 [.d (di .i64 x61.Kind), .d (di .i64 x61.Layout), .d (di .i64 x61.SRID), .d (eS1 x61.Flat), .d (eS2 x61.Ends), .d (eS3 x61.Endss), .d (eS0 x61.Kids)], .fix 92 [.d (di .i64 y72.geom2.geom1.geom0.layout), .d (di .i64 y72.geom2.geom1.geom0.stride), .d (eS1 y72.geom2.geom1.geom0.flatCoords), .d (di .i64 x61.SRID), .d (eS2 y72.geom2.ends)], .dead, .frame fr75 [(4, .ptr 0 0), (5, .ptr 1 0), (6, .ptr 6 0), (12, .d (eS0 a1)), (13, .d (di .i64 ((a1.length : Nat) : Int))), (14, .d (di .i64 g57.1))], .dead, .dead, .dead, .fix 98 [.d (di .i64 y89.geom1.geom0.layout), .d (di .i64 y89.geom1.geom0.stride), .d (eS1 y89.geom1.geom0.flatCoords), .d (di .i64 y89.geom1.geom0.srid)], .dead, .dead, .grow 54 1 (List.map keS1 g97.2.2.2.1), .grow 54 1 (List.map keS1 g97.2.2.2.2), .dead, .dead, .dead, .fix 98 [.d (di .i64 y116.geom1.geom0.layout), .d (di .i64 y116.geom1.geom0.stride), .d (eS1 y116.geom1.geom0.flatCoords), .d (di .i64 y116.geom1.geom0.srid)], .dead, .frame fr119 [(0, .ptr 6 0), (1, .ptr 10 0), (4, .d (di .i64 g106.1))], .grow 54 1 (List.map keS1 ((g184.2.2.2.2.1.set ((0 : Int)).toNat x189).set ((1 : Int)).toNat x194)), .grow 54 1 (List.map keS1 ((g184.2.2.2.2.2.set ((0 : Int)).toNat x199).set ((1 : Int)).toNat x205)), .dead, .dead, .dead]) (e' := [(0, .ptr 6 0), (1, .d (eS1 y116.geom1.geom0.flatCoords)), (4, .d (di .i64 y2)), (5, .d (dbool y120)), (6, .own 27), (7, .own 28), (8, .d (di .i64 g184.1))]) (r := .tu []) rfl rfl rfl ?_
        change AO _ _ _ _ _
        refine AO.objs (obs' := [.fix 40 [.d (.v (.slice none 0 0))], .fix 4 [.d (dbool false)], .dead, .fix 54 (List.map (fun z => SV.d (keS1 z)) g106.2.1), .fix 54 (List.map (fun z => SV.d (keS1 z)) ((g184.2.1.set ((0 : Int)).toNat z222).set ((1 : Int)).toNat z236)), .fix 54 (List.map (fun z => SV.d (keS1 z)) ((g184.2.2.1.set ((0 : Int)).toNat z285).set ((1 : Int)).toNat z299)), .fix 82 [.d (di .i64 a0), .d (di .i64 y2), .d (oN eS1 g83), .sl 4 1 0 ((y7).toNat) ((y7).toNat), .d (dfl z305), .sl 5 1 0 ((y10).toNat) ((y10).toNat), .sl 3 1 0 ((y4).toNat) ((y4).toNat), .d (dfl g106.2.2.2.2.2)], .fix 49 [.d (di .i64 x61.Kind), .d (di .i64 x61.Layout), .d (di .i64 x61.SRID), .d (eS1 x61.Flat), .d (eS2 x61.Ends), .d (eS3 x61.Endss), .d (eS0 x61.Kids)], .dead, .fix 49 [.d (di .i64 x61.Kind), .d (di .i64 x61.Layout), .d (di .i64 x61.SRID), .d (eS1 x61.Flat), .d (eS2 x61.Ends), .d (eS3 x61.Endss), .d (eS0 x61.Kids)], .fix 92 [.d (di .i64 y72.geom2.geom1.geom0.layout), .d (di .i64 y72.geom2.geom1.geom0.stride), .d (eS1 y72.geom2.geom1.geom0.flatCoords), .d (di .i64 x61.SRID), .d (eS2 y72.geom2.ends)], .dead, .frame fr75 [(4, .ptr 0 0), (5, .ptr 1 0), (6, .ptr 6 0), (12, .d (eS0 a1)), (13, .d (di .i64 ((a1.length : Nat) : Int))), (14, .d (di .i64 g57.1))], .dead, .dead, .dead, .fix 98 [.d (di .i64 y89.geom1.geom0.layout), .d (di .i64 y89.geom1.geom0.stride), .d (eS1 y89.geom1.geom0.flatCoords), .d (di .i64 y89.geom1.geom0.srid)], .dead, .dead, .grow 54 1 (List.map keS1 g97.2.2.2.1), .grow 54 1 (List.map keS1 g97.2.2.2.2), .dead, .dead, .dead, .fix 98 [.d (di .i64 y116.geom1.geom0.layout), .d (di .i64 y116.geom1.geom0.stride), .d (eS1 y116.geom1.geom0.flatCoords), .d (di .i64 y116.geom1.geom0.srid)], .dead, .frame fr119 [(0, .ptr 6 0), (1, .ptr 10 0), (4, .d (di .i64 g106.1))], .grow 54 1 (List.map keS1 ((g184.2.2.2.2.1.set ((0 : Int)).toNat x189).set ((1 : Int)).toNat x194)), .grow 54 1 (List.map keS1 ((g184.2.2.2.2.2.set ((0 : Int)).toNat x199).set ((1 : Int)).toNat x205)), .dead, .dead, .dead]) rfl ?_
        refine AO.nil ?_
        change AC _ _ _ _
        refine AC.region ?_
        refine AO.op rfl (AOp.move rfl rfl (ltb rfl) rfl ?_)
        refine AO.op rfl (AOp.move rfl rfl (ltb rfl) rfl ?_)
        obtain ⟨q307, h3⟩ := need_elim h3
        refine AO.op rfl (AOp.iadd rfl rfl (ltb rfl) rfl rfl rfl q307.1 q307.2 ?_)
        refine AO.op rfl (AOp.assign rfl rfl (ltb rfl) rfl ?_)
        refine AO.nil ?_
        exact ⟨((g184.1 + y2), ((g184.2.1.set ((0 : Int)).toNat z222).set ((1 : Int)).toNat z236), ((g184.2.2.1.set ((0 : Int)).toNat z285).set ((1 : Int)).toNat z299), z305, ((g184.2.2.2.2.1.set ((0 : Int)).toNat x189).set ((1 : Int)).toNat x194), ((g184.2.2.2.2.2.set ((0 : Int)).toNat x199).set ((1 : Int)).toNat x205)), _, rfl, (LeL.refl _), rfl, (okU_mk rfl (okU_cons rfl (okU_cons rfl (okU_cons rfl (okU_cons (okU_fixl (fun _ => rfl)) (okU_cons (okU_fixl (fun _ => rfl)) (okU_cons (okU_fixl (fun _ => rfl)) (okU_cons rfl (okU_cons rfl (okU_cons rfl (okU_cons rfl (okU_cons rfl (okU_cons rfl (okU_cons rfl (okU_cons rfl (okU_cons rfl (okU_cons rfl (okU_cons rfl (okU_cons rfl (okU_cons rfl (okU_cons rfl (okU_cons rfl (okU_cons rfl (okU_cons rfl (okU_cons rfl (okU_cons rfl (okU_cons rfl (okU_cons rfl (okU_cons rfl (okU_cons rfl okU_nil)))))))))))))))))))))))))))))), h3⟩
       replace h3 := cF h3 q188
       refine AC.exit ?_
       obtain rfl := Option.some.inj h3
       exact ⟨(g184.2.1, g184.2.2.1, g184.2.2.2.1, g184.2.2.2.2.1, g184.2.2.2.2.2), _, rfl, (LeL.refl _), rfl, (okU_mk rfl (okU_cons rfl (okU_cons rfl (okU_cons rfl (okU_cons (okU_fixl (fun _ => rfl)) (okU_cons (okU_fixl (fun _ => rfl)) (okU_cons (okU_fixl (fun _ => rfl)) (okU_cons rfl (okU_cons rfl (okU_cons rfl (okU_cons rfl (okU_cons rfl (okU_cons rfl (okU_cons rfl (okU_cons rfl (okU_cons rfl (okU_cons rfl (okU_cons rfl (okU_cons rfl (okU_cons rfl (okU_cons rfl (okU_cons rfl (okU_cons rfl (okU_cons rfl (okU_cons rfl (okU_cons rfl (okU_cons rfl (okU_cons rfl (okU_cons rfl (okU_cons rfl okU_nil)))))))))))))))))))))))))))))), aftL h2⟩
      intro g124 h2
      unfold p_PolygonsCentroid_k10 at h2
      change AC _ _ _ _
      refine AC.region ?_
      refine AO.op rfl (AOp.move rfl rfl (ltb rfl) rfl ?_)
      refine AO.op rfl (AOp.move rfl rfl (ltb rfl) rfl ?_)
      refine AO.op rfl (AOp.inl [] (by kernel_rfl) Tryz.func78 rfl Tryz.ntmps78 rfl rfl (ltb rfl) rfl (leb rfl) rfl ?_)
      intro fr125
      refine AC.seq ?_
      refine AC.region ?_
      refine AO.op rfl (AOp.move rfl rfl (ltb rfl) rfl ?_)
      refine AO.op rfl (AOp.nilCheck rfl rfl (ltb rfl) rfl rfl ?_)
      refine AO.op rfl (AOp.fieldAddr rfl rfl (ltb rfl) rfl fo82_1 ?_)
      refine AO.op rfl (AOp.load1 rfl rfl (ltb rfl) rfl agg3 rfl rfl ?_)
      refine AO.op rfl (AOp.assign rfl rfl (ltb rfl) rfl ?_)
      refine AO.objs (obs' := [.fix 40 [.d (.v (.slice none 0 0))], .fix 4 [.d (dbool false)], .dead, .fix 54 (List.map (fun z => SV.d (keS1 z)) g106.2.1), .fix 54 (List.map (fun z => SV.d (keS1 z)) g124.1), .fix 54 (List.map (fun z => SV.d (keS1 z)) g124.2.1), .fix 82 [.d (di .i64 a0), .d (di .i64 y2), .d (oN eS1 g83), .sl 4 1 0 ((y7).toNat) ((y7).toNat), .d (dfl g124.2.2.1), .sl 5 1 0 ((y10).toNat) ((y10).toNat), .sl 3 1 0 ((y4).toNat) ((y4).toNat), .d (dfl g106.2.2.2.2.2)], .fix 49 [.d (di .i64 x61.Kind), .d (di .i64 x61.Layout), .d (di .i64 x61.SRID), .d (eS1 x61.Flat), .d (eS2 x61.Ends), .d (eS3 x61.Endss), .d (eS0 x61.Kids)], .dead, .fix 49 [.d (di .i64 x61.Kind), .d (di .i64 x61.Layout), .d (di .i64 x61.SRID), .d (eS1 x61.Flat), .d (eS2 x61.Ends), .d (eS3 x61.Endss), .d (eS0 x61.Kids)], .fix 92 [.d (di .i64 y72.geom2.geom1.geom0.layout), .d (di .i64 y72.geom2.geom1.geom0.stride), .d (eS1 y72.geom2.geom1.geom0.flatCoords), .d (di .i64 x61.SRID), .d (eS2 y72.geom2.ends)], .dead, .frame fr75 [(4, .ptr 0 0), (5, .ptr 1 0), (6, .ptr 6 0), (12, .d (eS0 a1)), (13, .d (di .i64 ((a1.length : Nat) : Int))), (14, .d (di .i64 g57.1))], .dead, .dead, .dead, .fix 98 [.d (di .i64 y89.geom1.geom0.layout), .d (di .i64 y89.geom1.geom0.stride), .d (eS1 y89.geom1.geom0.flatCoords), .d (di .i64 y89.geom1.geom0.srid)], .dead, .dead, .grow 54 1 (List.map keS1 g97.2.2.2.1), .grow 54 1 (List.map keS1 g97.2.2.2.2), .dead, .dead, .dead, .fix 98 [.d (di .i64 y116.geom1.geom0.layout), .d (di .i64 y116.geom1.geom0.stride), .d (eS1 y116.geom1.geom0.flatCoords), .d (di .i64 y116.geom1.geom0.srid)], .dead, .frame fr119 [(0, .ptr 6 0), (1, .ptr 10 0), (4, .d (di .i64 g106.1))], .grow 54 1 (List.map keS1 g124.2.2.2.1), .grow 54 1 (List.map keS1 g124.2.2.2.2), .frame fr125 []]) rfl ?_
      refine AO.nil ?_
      change AC _ _ _ _
      refine AC.seq ?_
      refine AC.region ?_
      refine AO.op rfl (AOp.assign rfl rfl (ltb rfl) rfl ?_)
      refine AO.nil ?_
      change AC _ _ _ _
      obtain ⟨o126, l127, h2⟩ := bind_elim h2
      refine AC.joinE (V := ((List Nat) × Nat)) [] [] 30 (fun g128 => []) (fun g128 => [.fix 40 [.d (.v (.slice none 0 0))], .fix 4 [.d (dbool false)], .dead, .fix 54 (List.map (fun z => SV.d (keS1 z)) g128.1), .fix 54 (List.map (fun z => SV.d (keS1 z)) g124.1), .fix 54 (List.map (fun z => SV.d (keS1 z)) g124.2.1), .fix 82 [.d (di .i64 a0), .d (di .i64 y2), .d (oN eS1 g83), .sl 4 1 0 ((y7).toNat) ((y7).toNat), .d (dfl g124.2.2.1), .sl 5 1 0 ((y10).toNat) ((y10).toNat), .sl 3 1 0 ((y4).toNat) ((y4).toNat), .d (dfl g128.2)], .fix 49 [.d (di .i64 x61.Kind), .d (di .i64 x61.Layout), .d (di .i64 x61.SRID), .d (eS1 x61.Flat), .d (eS2 x61.Ends), .d (eS3 x61.Endss), .d (eS0 x61.Kids)], .dead, .fix 49 [.d (di .i64 x61.Kind), .d (di .i64 x61.Layout), .d (di .i64 x61.SRID), .d (eS1 x61.Flat), .d (eS2 x61.Ends), .d (eS3 x61.Endss), .d (eS0 x61.Kids)], .fix 92 [.d (di .i64 y72.geom2.geom1.geom0.layout), .d (di .i64 y72.geom2.geom1.geom0.stride), .d (eS1 y72.geom2.geom1.geom0.flatCoords), .d (di .i64 x61.SRID), .d (eS2 y72.geom2.ends)], .dead, .frame fr75 [(4, .ptr 0 0), (5, .ptr 1 0), (6, .ptr 6 0), (12, .d (eS0 a1)), (13, .d (di .i64 ((a1.length : Nat) : Int))), (14, .d (di .i64 g57.1))], .dead, .dead, .dead, .fix 98 [.d (di .i64 y89.geom1.geom0.layout), .d (di .i64 y89.geom1.geom0.stride), .d (eS1 y89.geom1.geom0.flatCoords), .d (di .i64 y89.geom1.geom0.srid)], .dead, .dead, .grow 54 1 (List.map keS1 g97.2.2.2.1), .grow 54 1 (List.map keS1 g97.2.2.2.2), .dead, .dead, .dead, .fix 98 [.d (di .i64 y116.geom1.geom0.layout), .d (di .i64 y116.geom1.geom0.stride), .d (eS1 y116.geom1.geom0.flatCoords), .d (di .i64 y116.geom1.geom0.srid)], .dead, .frame fr119 [(0, .ptr 6 0), (1, .ptr 10 0), (4, .d (di .i64 g106.1))], .grow 54 1 (List.map keS1 g124.2.2.2.1), .grow 54 1 (List.map keS1 g124.2.2.2.2), .frame fr125 []]) (fun g128 => (p_PolygonsCentroid_k11 g106 (iter (p_PolygonsCentroid_l8 a0 F y2 y4 y7 y10 y72 g83) n108) g124) g128 = some o102) rfl ?_ ?_
      ·refine AC.block ?_
       refine AC.loopP (V := (Int × (List Nat) × Nat)) (p_PolygonsCentroid_l12 y2 y4 y116) o126 [0, 1, 4] [5] 30 (fun g130 => [(5, .d (di .i64 g130.1))]) (fun g130 => [.fix 40 [.d (.v (.slice none 0 0))], .fix 4 [.d (dbool false)], .dead, .fix 54 (List.map (fun z => SV.d (keS1 z)) g130.2.1), .fix 54 (List.map (fun z => SV.d (keS1 z)) g124.1), .fix 54 (List.map (fun z => SV.d (keS1 z)) g124.2.1), .fix 82 [.d (di .i64 a0), .d (di .i64 y2), .d (oN eS1 g83), .sl 4 1 0 ((y7).toNat) ((y7).toNat), .d (dfl g124.2.2.1), .sl 5 1 0 ((y10).toNat) ((y10).toNat), .sl 3 1 0 ((y4).toNat) ((y4).toNat), .d (dfl g130.2.2)], .fix 49 [.d (di .i64 x61.Kind), .d (di .i64 x61.Layout), .d (di .i64 x61.SRID), .d (eS1 x61.Flat), .d (eS2 x61.Ends), .d (eS3 x61.Endss), .d (eS0 x61.Kids)], .dead, .fix 49 [.d (di .i64 x61.Kind), .d (di .i64 x61.Layout), .d (di .i64 x61.SRID), .d (eS1 x61.Flat), .d (eS2 x61.Ends), .d (eS3 x61.Endss), .d (eS0 x61.Kids)], .fix 92 [.d (di .i64 y72.geom2.geom1.geom0.layout), .d (di .i64 y72.geom2.geom1.geom0.stride), .d (eS1 y72.geom2.geom1.geom0.flatCoords), .d (di .i64 x61.SRID), .d (eS2 y72.geom2.ends)], .dead, .frame fr75 [(4, .ptr 0 0), (5, .ptr 1 0), (6, .ptr 6 0), (12, .d (eS0 a1)), (13, .d (di .i64 ((a1.length : Nat) : Int))), (14, .d (di .i64 g57.1))], .dead, .dead, .dead, .fix 98 [.d (di .i64 y89.geom1.geom0.layout), .d (di .i64 y89.geom1.geom0.stride), .d (eS1 y89.geom1.geom0.flatCoords), .d (di .i64 y89.geom1.geom0.srid)], .dead, .dead, .grow 54 1 (List.map keS1 g97.2.2.2.1), .grow 54 1 (List.map keS1 g97.2.2.2.2), .dead, .dead, .dead, .fix 98 [.d (di .i64 y116.geom1.geom0.layout), .d (di .i64 y116.geom1.geom0.stride), .d (eS1 y116.geom1.geom0.flatCoords), .d (di .i64 y116.geom1.geom0.srid)], .dead, .frame fr119 [(0, .ptr 6 0), (1, .ptr 10 0), (4, .d (di .i64 g106.1))], .grow 54 1 (List.map keS1 g124.2.2.2.1), .grow 54 1 (List.map keS1 g124.2.2.2.2), .frame fr125 []]) F ((0 : Int), g106.2.1, g106.2.2.2.2.2) l127 rfl rfl (LeL.refl _) rfl (okU_mk rfl (okU_cons rfl (okU_cons rfl (okU_cons rfl (okU_cons (okU_fixl (fun _ => rfl)) (okU_cons (okU_fixl (fun _ => rfl)) (okU_cons (okU_fixl (fun _ => rfl)) (okU_cons rfl (okU_cons rfl (okU_cons rfl (okU_cons rfl (okU_cons rfl (okU_cons rfl (okU_cons rfl (okU_cons rfl (okU_cons rfl (okU_cons rfl (okU_cons rfl (okU_cons rfl (okU_cons rfl (okU_cons rfl (okU_cons rfl (okU_cons rfl (okU_cons rfl (okU_cons rfl (okU_cons rfl (okU_cons rfl (okU_cons rfl (okU_cons rfl (okU_cons rfl (okU_cons rfl okU_nil))))))))))))))))))))))))))))))) ?_
       intro n132 g130 h3
       unfold p_PolygonsCentroid_l12 at h3
       refine AC.seq ?_
       refine AC.seq ?_
       refine AC.region ?_
       refine AO.op rfl (AOp.move rfl rfl (ltb rfl) rfl ?_)
       refine AO.op rfl (AOp.move rfl rfl (ltb rfl) rfl ?_)
       refine AO.op rfl (AOp.lenDs (n := y116.geom1.geom0.flatCoords.length) (cells := (List.map keS1 y116.geom1.geom0.flatCoords)) rfl rfl (ltb rfl) rfl el40 (by decide) (len1 _ _) ?_)
       refine AO.op rfl (AOp.move rfl rfl (ltb rfl) rfl ?_)
       obtain ⟨q133, h3⟩ := need_elim h3
       refine AO.op rfl (AOp.isub rfl rfl (ltb rfl) rfl rfl rfl q133.1 q133.2 ?_)
       refine AO.op rfl (AOp.ilss rfl rfl (ltb rfl) rfl rfl ?_)
       refine AO.nil ?_
       change AC _ _ _ _
       refine AC.cond rfl (fun q134 => ?_) (fun q134 => ?_)
       ·replace h3 := cT h3 q134
        refine AC.skip ?_
        change AC _ _ _ _
        refine AC.seq ?_
        refine AC.block ?_
        refine AC.seq ?_
        refine AC.draw 16 mixed (by kernel_rfl) ?_
        refine AD.op [1] rfl (by kernel_rfl) rfl rfl (fun _ _ h => AOp.move rfl rfl (ltb rfl) rfl h) ?_
        refine AD.op [5] rfl (by kernel_rfl) rfl rfl (fun _ _ h => AOp.move rfl rfl (ltb rfl) rfl h) ?_
        refine AD.op [5] rfl (by kernel_rfl) rfl rfl (fun _ _ h => AOp.move rfl rfl (ltb rfl) rfl h) ?_
        obtain ⟨q135, h3⟩ := need_elim h3
        refine AD.op [24] rfl (by kernel_rfl) rfl rfl (fun _ _ h => AOp.iadd rfl rfl (ltb rfl) rfl rfl rfl q135.1 q135.2 h) ?_
        obtain ⟨q136, h3⟩ := need_elim h3
        refine AD.op [22, 23, 25] rfl (by kernel_rfl) rfl rfl (fun _ _ h => AOp.sliceD (cells := (List.map keS1 y116.geom1.geom0.flatCoords)) (n := y116.geom1.geom0.flatCoords.length) (l := (g130.1).toNat) (hh := ((g130.1 + (2 : Int))).toNat) rfl rfl (ltb rfl) rfl (.inr ⟨_, _, _, rfl, rfl, q136.1.1, rfl⟩) (.inr ⟨_, _, _, rfl, rfl, q136.1.2, rfl⟩) el40 (by decide) (len1 _ _) q136.2.1 q136.2.2 (sub1 _ _ _ _) h) ?_
        refine AD.op [1] rfl (by kernel_rfl) rfl rfl (fun _ _ h => AOp.move rfl rfl (ltb rfl) rfl h) ?_
        refine AD.op [5] rfl (by kernel_rfl) rfl rfl (fun _ _ h => AOp.move rfl rfl (ltb rfl) rfl h) ?_
        refine AD.op [4] rfl (by kernel_rfl) rfl rfl (fun _ _ h => AOp.move rfl rfl (ltb rfl) rfl h) ?_
        obtain ⟨q137, h3⟩ := need_elim h3
        refine AD.op [28, 29] rfl (by kernel_rfl) rfl rfl (fun _ _ h => AOp.iadd rfl rfl (ltb rfl) rfl rfl rfl q137.1 q137.2 h) ?_
        refine AD.op [5] rfl (by kernel_rfl) rfl rfl (fun _ _ h => AOp.move rfl rfl (ltb rfl) rfl h) ?_
        refine AD.op [4] rfl (by kernel_rfl) rfl rfl (fun _ _ h => AOp.move rfl rfl (ltb rfl) rfl h) ?_
        obtain ⟨q138, h3⟩ := need_elim h3
        refine AD.op [31, 32] rfl (by kernel_rfl) rfl rfl (fun _ _ h => AOp.iadd rfl rfl (ltb rfl) rfl rfl rfl q138.1 q138.2 h) ?_
        obtain ⟨q139, h3⟩ := need_elim h3
        refine AD.op [33] rfl (by kernel_rfl) rfl rfl (fun _ _ h => AOp.iadd rfl rfl (ltb rfl) rfl rfl rfl q139.1 q139.2 h) ?_
        obtain ⟨q140, h3⟩ := need_elim h3
        refine AD.op [27, 30, 34] rfl (by kernel_rfl) rfl rfl (fun _ _ h => AOp.sliceD (cells := (List.map keS1 y116.geom1.geom0.flatCoords)) (n := y116.geom1.geom0.flatCoords.length) (l := ((g130.1 + y2)).toNat) (hh := (((g130.1 + y2) + (2 : Int))).toNat) rfl rfl (ltb rfl) rfl (.inr ⟨_, _, _, rfl, rfl, q140.1.1, rfl⟩) (.inr ⟨_, _, _, rfl, rfl, q140.1.2, rfl⟩) el40 (by decide) (len1 _ _) q140.2.1 q140.2.2 (sub1 _ _ _ _) h) ?_
        obtain ⟨y141, q142, h3⟩ := bind_elim h3
        refine AD.op [26, 35] rfl (by kernel_rfl) rfl rfl (fun _ _ h => AOp.callD rfl rfl (ltb rfl) rfl rfl (w_Distance2D ((y116.geom1.geom0.flatCoords.drop (g130.1).toNat).take (((g130.1 + (2 : Int))).toNat - (g130.1).toNat)) ((y116.geom1.geom0.flatCoords.drop ((g130.1 + y2)).toNat).take ((((g130.1 + y2) + (2 : Int))).toNat - ((g130.1 + y2)).toNat)) y141 q142) (by rintro _ rfl; exact h)) ?_
        refine AD.op [36] rfl (by kernel_rfl) rfl rfl (fun _ _ h => AOp.assign rfl rfl (ltb rfl) rfl h) ?_
        refine AD.done ?_
        refine AO.nil ?_
        change AC _ _ _ _
        refine AC.seq ?_
        refine AC.region ?_
        refine AO.op rfl (AOp.move rfl rfl (ltb rfl) rfl ?_)
        refine AO.op rfl (AOp.nilCheck rfl rfl (ltb rfl) rfl rfl ?_)
        refine AO.op rfl (AOp.fieldAddr rfl rfl (ltb rfl) rfl fo82_7 ?_)
        refine AO.op rfl (AOp.load1 rfl rfl (ltb rfl) rfl agg54 rfl rfl ?_)
        refine AO.op rfl (AOp.move rfl rfl (ltb rfl) rfl ?_)
        obtain ⟨z143, q144, h3⟩ := bind_elim h3
        refine AO.op rfl (AOp.farith rfl rfl (ltb rfl) rfl rfl q144 ?_)
        refine AO.op rfl (AOp.nilCheck rfl rfl (ltb rfl) rfl rfl ?_)
        refine AO.op rfl (AOp.fieldAddr rfl rfl (ltb rfl) rfl fo82_7 ?_)
        refine AO.op rfl (AOp.store rfl rfl rfl rfl size54 rfl rfl rfl (leb rfl) ?_)
        refine AO.nil ?_
        change AC _ _ _ _
        refine AC.seq ?_
        refine AC.draw 13 mixed (by kernel_rfl) ?_
        refine AD.op [1] rfl (by kernel_rfl) rfl rfl (fun _ _ h => AOp.move rfl rfl (ltb rfl) rfl h) ?_
        refine AD.op [5] rfl (by kernel_rfl) rfl rfl (fun _ _ h => AOp.move rfl rfl (ltb rfl) rfl h) ?_
        obtain ⟨x145, q146, h3⟩ := idx_elim h3
        refine AD.op [45, 46] rfl (by kernel_rfl) rfl rfl (fun _ _ h => AOp.indexDs (cells := (List.map keS1 y116.geom1.geom0.flatCoords)) rfl rfl (ltb rfl) rfl rfl el40 (by decide) q146.1 (lt1 q146.2) h) ?_
        refine AD.op [47] rfl (by kernel_rfl) rfl rfl (fun _ _ h => AOp.loadEp rfl rfl (ltb rfl) rfl agg54 (at1 q146.2) h) ?_
        refine AD.op [1] rfl (by kernel_rfl) rfl rfl (fun _ _ h => AOp.move rfl rfl (ltb rfl) rfl h) ?_
        refine AD.op [5] rfl (by kernel_rfl) rfl rfl (fun _ _ h => AOp.move rfl rfl (ltb rfl) rfl h) ?_
        refine AD.op [4] rfl (by kernel_rfl) rfl rfl (fun _ _ h => AOp.move rfl rfl (ltb rfl) rfl h) ?_
        obtain ⟨q147, h3⟩ := need_elim h3
        refine AD.op [50, 51] rfl (by kernel_rfl) rfl rfl (fun _ _ h => AOp.iadd rfl rfl (ltb rfl) rfl rfl rfl q147.1 q147.2 h) ?_
        obtain ⟨x148, q149, h3⟩ := idx_elim h3
        refine AD.op [49, 52] rfl (by kernel_rfl) rfl rfl (fun _ _ h => AOp.indexDs (cells := (List.map keS1 y116.geom1.geom0.flatCoords)) rfl rfl (ltb rfl) rfl rfl el40 (by decide) q149.1 (lt1 q149.2) h) ?_
        refine AD.op [53] rfl (by kernel_rfl) rfl rfl (fun _ _ h => AOp.loadEp rfl rfl (ltb rfl) rfl agg54 (at1 q149.2) h) ?_
        obtain ⟨z150, q151, h3⟩ := bind_elim h3
        refine AD.op [48, 54] rfl (by kernel_rfl) rfl rfl (fun _ _ h => AOp.farith rfl rfl (ltb rfl) rfl rfl q151 h) ?_
        obtain ⟨z152, q153, h3⟩ := bind_elim h3
        refine AD.op [55] rfl (by kernel_rfl) rfl rfl (fun _ _ h => AOp.farith rfl rfl (ltb rfl) rfl rfl q153 h) ?_
        refine AD.op [56] rfl (by kernel_rfl) rfl rfl (fun _ _ h => AOp.assign rfl rfl (ltb rfl) rfl h) ?_
        refine AD.done ?_
        refine AO.nil ?_
        change AC _ _ _ _
        refine AC.seq ?_
        refine AC.region ?_
        refine AO.op rfl (AOp.move rfl rfl (ltb rfl) rfl ?_)
        refine AO.op rfl (AOp.nilCheck rfl rfl (ltb rfl) rfl rfl ?_)
        refine AO.op rfl (AOp.fieldAddr rfl rfl (ltb rfl) rfl fo82_6 ?_)
        refine AO.op rfl (AOp.load1 rfl rfl (ltb rfl) rfl agg69 rfl rfl ?_)
        obtain ⟨q154, h3⟩ := need_elim h3
        refine AO.op rfl (AOp.indexSl rfl rfl (ltb rfl) rfl rfl el69 q154.1 q154.2 ?_)
        obtain ⟨x155, q156, h3⟩ := idx_elim h3
        refine AO.op rfl (AOp.load1 rfl rfl (ltb rfl) rfl agg54 rfl (atO q156.2) ?_)
        refine AO.op rfl (AOp.move rfl rfl (ltb rfl) rfl ?_)
        refine AO.op rfl (AOp.move rfl rfl (ltb rfl) rfl ?_)
        obtain ⟨z157, q158, h3⟩ := bind_elim h3
        refine AO.op rfl (AOp.farith rfl rfl (ltb rfl) rfl rfl q158 ?_)
        obtain ⟨z159, q160, h3⟩ := bind_elim h3
        refine AO.op rfl (AOp.farith rfl rfl (ltb rfl) rfl rfl q160 ?_)
        obtain ⟨q161, h3⟩ := need_elim h3
        refine AO.op rfl (AOp.indexSl rfl rfl (ltb rfl) rfl rfl el69 q161.1 q161.2 ?_)
        obtain ⟨q162, h3⟩ := need_elim h3
        refine AO.op rfl (AOp.storeL (f := fun z => SV.d (keS1 z)) (l := g130.2.1) (i := ((0 : Int)).toNat) (v := z159) rfl rfl rfl rfl size54 rfl rfl rfl q162 ?_)
        refine AO.nil ?_
        change AC _ _ _ _
        refine AC.seq ?_
        refine AC.draw 15 mixed (by kernel_rfl) ?_
        refine AD.op [1] rfl (by kernel_rfl) rfl rfl (fun _ _ h => AOp.move rfl rfl (ltb rfl) rfl h) ?_
        refine AD.op [5] rfl (by kernel_rfl) rfl rfl (fun _ _ h => AOp.move rfl rfl (ltb rfl) rfl h) ?_
        obtain ⟨q163, h3⟩ := need_elim h3
        refine AD.op [69] rfl (by kernel_rfl) rfl rfl (fun _ _ h => AOp.iadd rfl rfl (ltb rfl) rfl rfl rfl q163.1 q163.2 h) ?_
        obtain ⟨x164, q165, h3⟩ := idx_elim h3
        refine AD.op [68, 70] rfl (by kernel_rfl) rfl rfl (fun _ _ h => AOp.indexDs (cells := (List.map keS1 y116.geom1.geom0.flatCoords)) rfl rfl (ltb rfl) rfl rfl el40 (by decide) q165.1 (lt1 q165.2) h) ?_
        refine AD.op [71] rfl (by kernel_rfl) rfl rfl (fun _ _ h => AOp.loadEp rfl rfl (ltb rfl) rfl agg54 (at1 q165.2) h) ?_
        refine AD.op [1] rfl (by kernel_rfl) rfl rfl (fun _ _ h => AOp.move rfl rfl (ltb rfl) rfl h) ?_
        refine AD.op [5] rfl (by kernel_rfl) rfl rfl (fun _ _ h => AOp.move rfl rfl (ltb rfl) rfl h) ?_
        refine AD.op [4] rfl (by kernel_rfl) rfl rfl (fun _ _ h => AOp.move rfl rfl (ltb rfl) rfl h) ?_
        obtain ⟨q166, h3⟩ := need_elim h3
        refine AD.op [74, 75] rfl (by kernel_rfl) rfl rfl (fun _ _ h => AOp.iadd rfl rfl (ltb rfl) rfl rfl rfl q166.1 q166.2 h) ?_
        obtain ⟨q167, h3⟩ := need_elim h3
        refine AD.op [76] rfl (by kernel_rfl) rfl rfl (fun _ _ h => AOp.iadd rfl rfl (ltb rfl) rfl rfl rfl q167.1 q167.2 h) ?_
        obtain ⟨x168, q169, h3⟩ := idx_elim h3
        refine AD.op [73, 77] rfl (by kernel_rfl) rfl rfl (fun _ _ h => AOp.indexDs (cells := (List.map keS1 y116.geom1.geom0.flatCoords)) rfl rfl (ltb rfl) rfl rfl el40 (by decide) q169.1 (lt1 q169.2) h) ?_
        refine AD.op [78] rfl (by kernel_rfl) rfl rfl (fun _ _ h => AOp.loadEp rfl rfl (ltb rfl) rfl agg54 (at1 q169.2) h) ?_
        obtain ⟨z170, q171, h3⟩ := bind_elim h3
        refine AD.op [72, 79] rfl (by kernel_rfl) rfl rfl (fun _ _ h => AOp.farith rfl rfl (ltb rfl) rfl rfl q171 h) ?_
        obtain ⟨z172, q173, h3⟩ := bind_elim h3
        refine AD.op [80] rfl (by kernel_rfl) rfl rfl (fun _ _ h => AOp.farith rfl rfl (ltb rfl) rfl rfl q173 h) ?_
        refine AD.op [81] rfl (by kernel_rfl) rfl rfl (fun _ _ h => AOp.assign rfl rfl (ltb rfl) rfl h) ?_
        refine AD.done ?_
        refine AO.nil ?_
        change AC _ _ _ _
        refine AC.region ?_
        refine AO.op rfl (AOp.move rfl rfl (ltb rfl) rfl ?_)
        refine AO.op rfl (AOp.nilCheck rfl rfl (ltb rfl) rfl rfl ?_)
        refine AO.op rfl (AOp.fieldAddr rfl rfl (ltb rfl) rfl fo82_6 ?_)
        refine AO.op rfl (AOp.load1 rfl rfl (ltb rfl) rfl agg69 rfl rfl ?_)
        obtain ⟨q174, h3⟩ := need_elim h3
        refine AO.op rfl (AOp.indexSl rfl rfl (ltb rfl) rfl rfl el69 q174.1 q174.2 ?_)
        obtain ⟨x175, q176, h3⟩ := idx_elim h3
        refine AO.op rfl (AOp.load1 rfl rfl (ltb rfl) rfl agg54 rfl (atO q176.2) ?_)
        refine AO.op rfl (AOp.move rfl rfl (ltb rfl) rfl ?_)
        refine AO.op rfl (AOp.move rfl rfl (ltb rfl) rfl ?_)
        obtain ⟨z177, q178, h3⟩ := bind_elim h3
        refine AO.op rfl (AOp.farith rfl rfl (ltb rfl) rfl rfl q178 ?_)
        obtain ⟨z179, q180, h3⟩ := bind_elim h3
        refine AO.op rfl (AOp.farith rfl rfl (ltb rfl) rfl rfl q180 ?_)
        obtain ⟨q181, h3⟩ := need_elim h3
        refine AO.op rfl (AOp.indexSl rfl rfl (ltb rfl) rfl rfl el69 q181.1 q181.2 ?_)
        obtain ⟨q182, h3⟩ := need_elim h3
        refine AO.op rfl (AOp.storeL (f := fun z => SV.d (keS1 z)) (l := (g130.2.1.set ((0 : Int)).toNat z159)) (i := ((1 : Int)).toNat) (v := z179) rfl rfl rfl rfl size54 rfl rfl rfl q182 ?_)
        refine AO.nil ?_
        change AC _ _ _ _
        refine AC.region ?_
        refine AO.op rfl (AOp.move rfl rfl (ltb rfl) rfl ?_)
        refine AO.op rfl (AOp.move rfl rfl (ltb rfl) rfl ?_)
        obtain ⟨q183, h3⟩ := need_elim h3
        refine AO.op rfl (AOp.iadd rfl rfl (ltb rfl) rfl rfl rfl q183.1 q183.2 ?_)
        refine AO.op rfl (AOp.assign rfl rfl (ltb rfl) rfl ?_)
        refine AO.objs (obs' := [.fix 40 [.d (.v (.slice none 0 0))], .fix 4 [.d (dbool false)], .dead, .fix 54 (List.map (fun z => SV.d (keS1 z)) ((g130.2.1.set ((0 : Int)).toNat z159).set ((1 : Int)).toNat z179)), .fix 54 (List.map (fun z => SV.d (keS1 z)) g124.1), .fix 54 (List.map (fun z => SV.d (keS1 z)) g124.2.1), .fix 82 [.d (di .i64 a0), .d (di .i64 y2), .d (oN eS1 g83), .sl 4 1 0 ((y7).toNat) ((y7).toNat), .d (dfl g124.2.2.1), .sl 5 1 0 ((y10).toNat) ((y10).toNat), .sl 3 1 0 ((y4).toNat) ((y4).toNat), .d (dfl z143)], .fix 49 [.d (di .i64 x61.Kind), .d (di .i64 x61.Layout), .d (di .i64 x61.SRID), .d (eS1 x61.Flat), .d (eS2 x61.Ends), .d (eS3 x61.Endss), .d (eS0 x61.Kids)], .dead, .fix 49 [.d (di .i64 x61.Kind), .d (di .i64 x61.Layout), .d (di .i64 x61.SRID), .d (eS1 x61.Flat), .d (eS2 x61.Ends), .d (eS3 x61.Endss), .d (eS0 x61.Kids)], .fix 92 [.d (di .i64 y72.geom2.geom1.geom0.layout), .d (di .i64 y72.geom2.geom1.geom0.stride), .d (eS1 y72.geom2.geom1.geom0.flatCoords), .d (di .i64 x61.SRID), .d (eS2 y72.geom2.ends)], .dead, .frame fr75 [(4, .ptr 0 0), (5, .ptr 1 0), (6, .ptr 6 0), (12, .d (eS0 a1)), (13, .d (di .i64 ((a1.length : Nat) : Int))), (14, .d (di .i64 g57.1))], .dead, .dead, .dead, .fix 98 [.d (di .i64 y89.geom1.geom0.layout), .d (di .i64 y89.geom1.geom0.stride), .d (eS1 y89.geom1.geom0.flatCoords), .d (di .i64 y89.geom1.geom0.srid)], .dead, .dead, .grow 54 1 (List.map keS1 g97.2.2.2.1), .grow 54 1 (List.map keS1 g97.2.2.2.2), .dead, .dead, .dead, .fix 98 [.d (di .i64 y116.geom1.geom0.layout), .d (di .i64 y116.geom1.geom0.stride), .d (eS1 y116.geom1.geom0.flatCoords), .d (di .i64 y116.geom1.geom0.srid)], .dead, .frame fr119 [(0, .ptr 6 0), (1, .ptr 10 0), (4, .d (di .i64 g106.1))], .grow 54 1 (List.map keS1 g124.2.2.2.1), .grow 54 1 (List.map keS1 g124.2.2.2.2), .frame fr125 []]) rfl ?_
        refine AO.nil ?_
        exact ⟨((g130.1 + y2), ((g130.2.1.set ((0 : Int)).toNat z159).set ((1 : Int)).toNat z179), z143), _, rfl, (LeL.refl _), rfl, (okU_mk rfl (okU_cons rfl (okU_cons rfl (okU_cons rfl (okU_cons (okU_fixl (fun _ => rfl)) (okU_cons (okU_fixl (fun _ => rfl)) (okU_cons (okU_fixl (fun _ => rfl)) (okU_cons rfl (okU_cons rfl (okU_cons rfl (okU_cons rfl (okU_cons rfl (okU_cons rfl (okU_cons rfl (okU_cons rfl (okU_cons rfl (okU_cons rfl (okU_cons rfl (okU_cons rfl (okU_cons rfl (okU_cons rfl (okU_cons rfl (okU_cons rfl (okU_cons rfl (okU_cons rfl (okU_cons rfl (okU_cons rfl (okU_cons rfl (okU_cons rfl (okU_cons rfl (okU_cons rfl okU_nil))))))))))))))))))))))))))))))), h3⟩
       replace h3 := cF h3 q134
       refine AC.exit ?_
       obtain rfl := Option.some.inj h3
       exact ⟨(g130.2.1, g130.2.2), _, rfl, (LeL.refl _), rfl, (okU_mk rfl (okU_cons rfl (okU_cons rfl (okU_cons rfl (okU_cons (okU_fixl (fun _ => rfl)) (okU_cons (okU_fixl (fun _ => rfl)) (okU_cons (okU_fixl (fun _ => rfl)) (okU_cons rfl (okU_cons rfl (okU_cons rfl (okU_cons rfl (okU_cons rfl (okU_cons rfl (okU_cons rfl (okU_cons rfl (okU_cons rfl (okU_cons rfl (okU_cons rfl (okU_cons rfl (okU_cons rfl (okU_cons rfl (okU_cons rfl (okU_cons rfl (okU_cons rfl (okU_cons rfl (okU_cons rfl (okU_cons rfl (okU_cons rfl (okU_cons rfl (okU_cons rfl (okU_cons rfl okU_nil))))))))))))))))))))))))))))))), aftL h2⟩
      intro g128 h2
      unfold p_PolygonsCentroid_k11 at h2
      refine inlend (ob' := [.fix 40 [.d (.v (.slice none 0 0))], .fix 4 [.d (dbool false)], .dead, .fix 54 (List.map (fun z => SV.d (keS1 z)) g128.1), .fix 54 (List.map (fun z => SV.d (keS1 z)) g124.1), .fix 54 (List.map (fun z => SV.d (keS1 z)) g124.2.1), .fix 82 [.d (di .i64 a0), .d (di .i64 y2), .d (oN eS1 g83), .sl 4 1 0 ((y7).toNat) ((y7).toNat), .d (dfl g124.2.2.1), .sl 5 1 0 ((y10).toNat) ((y10).toNat), .sl 3 1 0 ((y4).toNat) ((y4).toNat), .d (dfl g128.2)], .fix 49 [.d (di .i64 x61.Kind), .d (di .i64 x61.Layout), .d (di .i64 x61.SRID), .d (eS1 x61.Flat), .d (eS2 x61.Ends), .d (eS3 x61.Endss), .d (eS0 x61.Kids)], .dead, .fix 49 [.d (di .i64 x61.Kind), .d (di .i64 x61.Layout), .d (di .i64 x61.SRID), .d (eS1 x61.Flat), .d (eS2 x61.Ends), .d (eS3 x61.Endss), .d (eS0 x61.Kids)], .fix 92 [.d (di .i64 y72.geom2.geom1.geom0.layout), .d (di .i64 y72.geom2.geom1.geom0.stride), .d (eS1 y72.geom2.geom1.geom0.flatCoords), .d (di .i64 x61.SRID), .d (eS2 y72.geom2.ends)], .dead, .frame fr75 [(4, .ptr 0 0), (5, .ptr 1 0), (6, .ptr 6 0), (12, .d (eS0 a1)), (13, .d (di .i64 ((a1.length : Nat) : Int))), (14, .d (di .i64 g57.1))], .dead, .dead, .dead, .fix 98 [.d (di .i64 y89.geom1.geom0.layout), .d (di .i64 y89.geom1.geom0.stride), .d (eS1 y89.geom1.geom0.flatCoords), .d (di .i64 y89.geom1.geom0.srid)], .dead, .dead, .grow 54 1 (List.map keS1 g97.2.2.2.1), .grow 54 1 (List.map keS1 g97.2.2.2.2), .dead, .dead, .dead, .fix 98 [.d (di .i64 y116.geom1.geom0.layout), .d (di .i64 y116.geom1.geom0.stride), .d (eS1 y116.geom1.geom0.flatCoords), .d (di .i64 y116.geom1.geom0.srid)], .dead, .frame fr119 [(0, .ptr 6 0), (1, .ptr 10 0), (4, .d (di .i64 g106.1))], .grow 54 1 (List.map keS1 g124.2.2.2.1), .grow 54 1 (List.map keS1 g124.2.2.2.2), .dead]) (e' := []) (r := .tu []) rfl rfl rfl ?_
      change AO _ _ _ _ _
      refine AO.objs (obs' := [.fix 40 [.d (.v (.slice none 0 0))], .fix 4 [.d (dbool false)], .dead, .fix 54 (List.map (fun z => SV.d (keS1 z)) g128.1), .fix 54 (List.map (fun z => SV.d (keS1 z)) g124.1), .fix 54 (List.map (fun z => SV.d (keS1 z)) g124.2.1), .fix 82 [.d (di .i64 a0), .d (di .i64 y2), .d (oN eS1 g83), .sl 4 1 0 ((y7).toNat) ((y7).toNat), .d (dfl g124.2.2.1), .sl 5 1 0 ((y10).toNat) ((y10).toNat), .sl 3 1 0 ((y4).toNat) ((y4).toNat), .d (dfl g128.2)], .fix 49 [.d (di .i64 x61.Kind), .d (di .i64 x61.Layout), .d (di .i64 x61.SRID), .d (eS1 x61.Flat), .d (eS2 x61.Ends), .d (eS3 x61.Endss), .d (eS0 x61.Kids)], .dead, .fix 49 [.d (di .i64 x61.Kind), .d (di .i64 x61.Layout), .d (di .i64 x61.SRID), .d (eS1 x61.Flat), .d (eS2 x61.Ends), .d (eS3 x61.Endss), .d (eS0 x61.Kids)], .fix 92 [.d (di .i64 y72.geom2.geom1.geom0.layout), .d (di .i64 y72.geom2.geom1.geom0.stride), .d (eS1 y72.geom2.geom1.geom0.flatCoords), .d (di .i64 x61.SRID), .d (eS2 y72.geom2.ends)], .dead, .frame fr75 [(4, .ptr 0 0), (5, .ptr 1 0), (6, .ptr 6 0), (12, .d (eS0 a1)), (13, .d (di .i64 ((a1.length : Nat) : Int))), (14, .d (di .i64 g57.1))], .dead, .dead, .dead, .fix 98 [.d (di .i64 y89.geom1.geom0.layout), .d (di .i64 y89.geom1.geom0.stride), .d (eS1 y89.geom1.geom0.flatCoords), .d (di .i64 y89.geom1.geom0.srid)], .dead, .dead, .grow 54 1 (List.map keS1 g97.2.2.2.1), .grow 54 1 (List.map keS1 g97.2.2.2.2), .dead, .dead, .dead, .fix 98 [.d (di .i64 y116.geom1.geom0.layout), .d (di .i64 y116.geom1.geom0.stride), .d (eS1 y116.geom1.geom0.flatCoords), .d (di .i64 y116.geom1.geom0.srid)], .dead, .frame fr119 [(0, .ptr 6 0), (1, .ptr 10 0), (4, .d (di .i64 g106.1))], .grow 54 1 (List.map keS1 g124.2.2.2.1), .grow 54 1 (List.map keS1 g124.2.2.2.2), .dead]) rfl ?_
      refine AO.nil ?_
      refine inlend (ob' := [.fix 40 [.d (.v (.slice none 0 0))], .fix 4 [.d (dbool false)], .dead, .fix 54 (List.map (fun z => SV.d (keS1 z)) g128.1), .fix 54 (List.map (fun z => SV.d (keS1 z)) g124.1), .fix 54 (List.map (fun z => SV.d (keS1 z)) g124.2.1), .fix 82 [.d (di .i64 a0), .d (di .i64 y2), .d (oN eS1 g83), .sl 4 1 0 ((y7).toNat) ((y7).toNat), .d (dfl g124.2.2.1), .sl 5 1 0 ((y10).toNat) ((y10).toNat), .sl 3 1 0 ((y4).toNat) ((y4).toNat), .d (dfl g128.2)], .fix 49 [.d (di .i64 x61.Kind), .d (di .i64 x61.Layout), .d (di .i64 x61.SRID), .d (eS1 x61.Flat), .d (eS2 x61.Ends), .d (eS3 x61.Endss), .d (eS0 x61.Kids)], .dead, .fix 49 [.d (di .i64 x61.Kind), .d (di .i64 x61.Layout), .d (di .i64 x61.SRID), .d (eS1 x61.Flat), .d (eS2 x61.Ends), .d (eS3 x61.Endss), .d (eS0 x61.Kids)], .fix 92 [.d (di .i64 y72.geom2.geom1.geom0.layout), .d (di .i64 y72.geom2.geom1.geom0.stride), .d (eS1 y72.geom2.geom1.geom0.flatCoords), .d (di .i64 x61.SRID), .d (eS2 y72.geom2.ends)], .dead, .frame fr75 [(4, .ptr 0 0), (5, .ptr 1 0), (6, .ptr 6 0), (12, .d (eS0 a1)), (13, .d (di .i64 ((a1.length : Nat) : Int))), (14, .d (di .i64 g57.1))], .dead, .dead, .dead, .fix 98 [.d (di .i64 y89.geom1.geom0.layout), .d (di .i64 y89.geom1.geom0.stride), .d (eS1 y89.geom1.geom0.flatCoords), .d (di .i64 y89.geom1.geom0.srid)], .dead, .dead, .grow 54 1 (List.map keS1 g97.2.2.2.1), .grow 54 1 (List.map keS1 g97.2.2.2.2), .dead, .dead, .dead, .fix 98 [.d (di .i64 y116.geom1.geom0.layout), .d (di .i64 y116.geom1.geom0.stride), .d (eS1 y116.geom1.geom0.flatCoords), .d (di .i64 y116.geom1.geom0.srid)], .dead, .dead, .grow 54 1 (List.map keS1 g124.2.2.2.1), .grow 54 1 (List.map keS1 g124.2.2.2.2), .dead]) (e' := [(0, .ptr 6 0), (1, .ptr 10 0), (4, .d (di .i64 g106.1))]) (r := .tu []) rfl rfl rfl ?_
      change AO _ _ _ _ _
      refine AO.objs (obs' := [.fix 40 [.d (.v (.slice none 0 0))], .fix 4 [.d (dbool false)], .dead, .fix 54 (List.map (fun z => SV.d (keS1 z)) g128.1), .fix 54 (List.map (fun z => SV.d (keS1 z)) g124.1), .fix 54 (List.map (fun z => SV.d (keS1 z)) g124.2.1), .fix 82 [.d (di .i64 a0), .d (di .i64 y2), .d (oN eS1 g83), .sl 4 1 0 ((y7).toNat) ((y7).toNat), .d (dfl g124.2.2.1), .sl 5 1 0 ((y10).toNat) ((y10).toNat), .sl 3 1 0 ((y4).toNat) ((y4).toNat), .d (dfl g128.2)], .fix 49 [.d (di .i64 x61.Kind), .d (di .i64 x61.Layout), .d (di .i64 x61.SRID), .d (eS1 x61.Flat), .d (eS2 x61.Ends), .d (eS3 x61.Endss), .d (eS0 x61.Kids)], .dead, .fix 49 [.d (di .i64 x61.Kind), .d (di .i64 x61.Layout), .d (di .i64 x61.SRID), .d (eS1 x61.Flat), .d (eS2 x61.Ends), .d (eS3 x61.Endss), .d (eS0 x61.Kids)], .fix 92 [.d (di .i64 y72.geom2.geom1.geom0.layout), .d (di .i64 y72.geom2.geom1.geom0.stride), .d (eS1 y72.geom2.geom1.geom0.flatCoords), .d (di .i64 x61.SRID), .d (eS2 y72.geom2.ends)], .dead, .frame fr75 [(4, .ptr 0 0), (5, .ptr 1 0), (6, .ptr 6 0), (12, .d (eS0 a1)), (13, .d (di .i64 ((a1.length : Nat) : Int))), (14, .d (di .i64 g57.1))], .dead, .dead, .dead, .fix 98 [.d (di .i64 y89.geom1.geom0.layout), .d (di .i64 y89.geom1.geom0.stride), .d (eS1 y89.geom1.geom0.flatCoords), .d (di .i64 y89.geom1.geom0.srid)], .dead, .dead, .grow 54 1 (List.map keS1 g97.2.2.2.1), .grow 54 1 (List.map keS1 g97.2.2.2.2), .dead, .dead, .dead, .fix 98 [.d (di .i64 y116.geom1.geom0.layout), .d (di .i64 y116.geom1.geom0.stride), .d (eS1 y116.geom1.geom0.flatCoords), .d (di .i64 y116.geom1.geom0.srid)], .dead, .dead, .grow 54 1 (List.map keS1 g124.2.2.2.1), .grow 54 1 (List.map keS1 g124.2.2.2.2), .dead]) rfl ?_
      refine AO.nil ?_
      change AC _ _ _ _
      refine AC.region ?_
      refine AO.op rfl (AOp.move rfl rfl (ltb rfl) rfl ?_)
      obtain ⟨q129, h2⟩ := need_elim h2
      refine AO.op rfl (AOp.iadd rfl rfl (ltb rfl) rfl rfl rfl q129.1 q129.2 ?_)
      refine AO.op rfl (AOp.assign rfl rfl (ltb rfl) rfl ?_)
      refine AO.nil ?_
      exact ⟨((g106.1 + (1 : Int)), g128.1, g124.1, g124.2.1, g124.2.2.1, g128.2), _, rfl, (LeL.refl _), rfl, (okU_mk rfl (okU_cons rfl (okU_cons rfl (okU_cons rfl (okU_cons (okU_fixl (fun _ => rfl)) (okU_cons (okU_fixl (fun _ => rfl)) (okU_cons (okU_fixl (fun _ => rfl)) (okU_cons rfl (okU_cons rfl (okU_cons rfl (okU_cons rfl (okU_cons rfl (okU_cons rfl (okU_cons rfl (okU_cons rfl (okU_cons rfl (okU_cons rfl (okU_cons rfl (okU_cons rfl (okU_cons rfl (okU_cons rfl (okU_cons rfl (okU_cons rfl okU_nil))))))))))))))))))))))), h2⟩
     replace h2 := cF h2 q110
     refine AC.exit ?_
     obtain rfl := Option.some.inj h2
     exact ⟨(g106.2.1, g106.2.2.1, g106.2.2.2.1, g106.2.2.2.2.1, g106.2.2.2.2.2), _, rfl, (LeL.refl _), rfl, (okU_mk rfl (okU_cons rfl (okU_cons rfl (okU_cons rfl (okU_cons (okU_fixl (fun _ => rfl)) (okU_cons (okU_fixl (fun _ => rfl)) (okU_cons (okU_fixl (fun _ => rfl)) (okU_cons rfl (okU_cons rfl (okU_cons rfl (okU_cons rfl (okU_cons rfl (okU_cons rfl (okU_cons rfl (okU_cons rfl (okU_cons rfl (okU_cons rfl (okU_cons rfl (okU_cons rfl (okU_cons rfl (okU_cons rfl (okU_cons rfl (okU_cons rfl okU_nil))))))))))))))))))))))), aftL h1⟩
    intro g104 h1
    unfold p_PolygonsCentroid_k7 at h1
    refine inlend (ob' := [.fix 40 [.d (.v (.slice none 0 0))], .fix 4 [.d (dbool false)], .dead, .fix 54 (List.map (fun z => SV.d (keS1 z)) g104.1), .fix 54 (List.map (fun z => SV.d (keS1 z)) g104.2.1), .fix 54 (List.map (fun z => SV.d (keS1 z)) g104.2.2.1), .fix 82 [.d (di .i64 a0), .d (di .i64 y2), .d (oN eS1 g83), .sl 4 1 0 ((y7).toNat) ((y7).toNat), .d (dfl g104.2.2.2.1), .sl 5 1 0 ((y10).toNat) ((y10).toNat), .sl 3 1 0 ((y4).toNat) ((y4).toNat), .d (dfl g104.2.2.2.2)], .fix 49 [.d (di .i64 x61.Kind), .d (di .i64 x61.Layout), .d (di .i64 x61.SRID), .d (eS1 x61.Flat), .d (eS2 x61.Ends), .d (eS3 x61.Endss), .d (eS0 x61.Kids)], .dead, .fix 49 [.d (di .i64 x61.Kind), .d (di .i64 x61.Layout), .d (di .i64 x61.SRID), .d (eS1 x61.Flat), .d (eS2 x61.Ends), .d (eS3 x61.Endss), .d (eS0 x61.Kids)], .fix 92 [.d (di .i64 y72.geom2.geom1.geom0.layout), .d (di .i64 y72.geom2.geom1.geom0.stride), .d (eS1 y72.geom2.geom1.geom0.flatCoords), .d (di .i64 x61.SRID), .d (eS2 y72.geom2.ends)], .dead, .dead, .dead, .dead, .dead, .fix 98 [.d (di .i64 y89.geom1.geom0.layout), .d (di .i64 y89.geom1.geom0.stride), .d (eS1 y89.geom1.geom0.flatCoords), .d (di .i64 y89.geom1.geom0.srid)], .dead, .dead, .grow 54 1 (List.map keS1 g97.2.2.2.1), .grow 54 1 (List.map keS1 g97.2.2.2.2), .dead]) (e' := [(4, .ptr 0 0), (5, .ptr 1 0), (6, .ptr 6 0), (12, .d (eS0 a1)), (13, .d (di .i64 ((a1.length : Nat) : Int))), (14, .d (di .i64 g57.1))]) (r := .tu []) rfl rfl rfl ?_
    change AO _ _ _ _ _
    refine AO.objs (obs' := [.fix 40 [.d (.v (.slice none 0 0))], .fix 4 [.d (dbool false)], .dead, .fix 54 (List.map (fun z => SV.d (keS1 z)) g104.1), .fix 54 (List.map (fun z => SV.d (keS1 z)) g104.2.1), .fix 54 (List.map (fun z => SV.d (keS1 z)) g104.2.2.1), .fix 82 [.d (di .i64 a0), .d (di .i64 y2), .d (oN eS1 g83), .sl 4 1 0 ((y7).toNat) ((y7).toNat), .d (dfl g104.2.2.2.1), .sl 5 1 0 ((y10).toNat) ((y10).toNat), .sl 3 1 0 ((y4).toNat) ((y4).toNat), .d (dfl g104.2.2.2.2)], .fix 49 [.d (di .i64 x61.Kind), .d (di .i64 x61.Layout), .d (di .i64 x61.SRID), .d (eS1 x61.Flat), .d (eS2 x61.Ends), .d (eS3 x61.Endss), .d (eS0 x61.Kids)], .dead, .fix 49 [.d (di .i64 x61.Kind), .d (di .i64 x61.Layout), .d (di .i64 x61.SRID), .d (eS1 x61.Flat), .d (eS2 x61.Ends), .d (eS3 x61.Endss), .d (eS0 x61.Kids)], .fix 92 [.d (di .i64 y72.geom2.geom1.geom0.layout), .d (di .i64 y72.geom2.geom1.geom0.stride), .d (eS1 y72.geom2.geom1.geom0.flatCoords), .d (di .i64 x61.SRID), .d (eS2 y72.geom2.ends)], .dead, .dead, .dead, .dead, .dead, .fix 98 [.d (di .i64 y89.geom1.geom0.layout), .d (di .i64 y89.geom1.geom0.stride), .d (eS1 y89.geom1.geom0.flatCoords), .d (di .i64 y89.geom1.geom0.srid)], .dead, .dead, .grow 54 1 (List.map keS1 g97.2.2.2.1), .grow 54 1 (List.map keS1 g97.2.2.2.2), .dead]) rfl ?_
    refine AO.nil ?_
    change AC _ _ _ _
    refine AC.region ?_
    obtain ⟨q105, h1⟩ := need_elim h1
    refine AO.op rfl (AOp.iadd rfl rfl (ltb rfl) rfl rfl rfl q105.1 q105.2 ?_)
    refine AO.op rfl (AOp.move rfl rfl (ltb rfl) rfl ?_)
    refine AO.nil ?_
    exact ⟨((g57.1 + (1 : Int)), g104.1, g104.2.1, g104.2.2.1, g83, g104.2.2.2.1, g104.2.2.2.2), _, rfl, (LeL.refl _), rfl, (okU_mk rfl (okU_cons rfl (okU_cons rfl (okU_cons rfl (okU_cons (okU_fixl (fun _ => rfl)) (okU_cons (okU_fixl (fun _ => rfl)) (okU_cons (okU_fixl (fun _ => rfl)) (okU_cons rfl okU_nil)))))))), h1⟩
   replace h1 := cF h1 q69
   refine AC.seq ?_
   refine AC.region ?_
   refine AO.op rfl (AOp.ieql rfl rfl (ltb rfl) rfl rfl ?_)
   refine AO.op rfl (AOp.assign rfl rfl (ltb rfl) rfl ?_)
   refine AO.nil ?_
   change AC _ _ _ _
   refine AC.cond rfl (fun q497 => ?_) (fun q497 => ?_)
   ·replace h1 := cT h1 q497
    cases h1
   replace h1 := cF h1 q497
   refine AC.seq ?_
   refine AC.region ?_
   refine AO.op rfl (AOp.ieql rfl rfl (ltb rfl) rfl rfl ?_)
   refine AO.op rfl (AOp.assign rfl rfl (ltb rfl) rfl ?_)
   refine AO.nil ?_
   change AC _ _ _ _
   refine AC.cond rfl (fun q498 => ?_) (fun q498 => ?_)
   ·replace h1 := cT h1 q498
    cases h1
   replace h1 := cF h1 q498
   refine AC.seq ?_
   refine AC.region ?_
   refine AO.op rfl (AOp.ieql rfl rfl (ltb rfl) rfl rfl ?_)
   refine AO.op rfl (AOp.assign rfl rfl (ltb rfl) rfl ?_)
   refine AO.nil ?_
   change AC _ _ _ _
   refine AC.cond rfl (fun q499 => ?_) (fun q499 => ?_)
   ·replace h1 := cT h1 q499
    cases h1
   replace h1 := cF h1 q499
   refine AC.seq ?_
   refine AC.region ?_
   refine AO.op rfl (AOp.ieql rfl rfl (ltb rfl) rfl rfl ?_)
   refine AO.op rfl (AOp.assign rfl rfl (ltb rfl) rfl ?_)
   refine AO.nil ?_
   change AC _ _ _ _
   refine AC.cond rfl (fun q500 => ?_) (fun q500 => ?_)
   ·replace h1 := cT h1 q500
    cases h1
   replace h1 := cF h1 q500
   refine AC.skip ?_
   change AC _ _ _ _
   refine AC.region ?_
   cases h1
  replace h1 := cF h1 q60
  refine AC.exit ?_
  obtain rfl := Option.some.inj h1
  exact ⟨(g57.2.1, g57.2.2.1, g57.2.2.2.1, g57.2.2.2.2.1, g57.2.2.2.2.2.1, g57.2.2.2.2.2.2), _, rfl, (LeL.refl _), rfl, (okU_mk rfl (okU_cons rfl (okU_cons rfl (okU_cons rfl (okU_cons (okU_fixl (fun _ => rfl)) (okU_cons (okU_fixl (fun _ => rfl)) (okU_cons (okU_fixl (fun _ => rfl)) (okU_cons rfl okU_nil)))))))), aftL h0⟩
 intro g15 h0
 unfold p_PolygonsCentroid_k1 at h0
 change AC _ _ _ _
 refine AC.seq ?_
 refine AC.region ?_
 refine AO.op rfl (AOp.move rfl rfl (ltb rfl) rfl ?_)
 refine AO.op rfl (AOp.inl [4, 5] (by kernel_rfl) Tryz.func25 rfl Tryz.ntmps25 rfl rfl (ltb rfl) rfl (leb rfl) rfl ?_)
 intro fr16
 refine AC.seq ?_
 refine AC.region ?_
 refine AO.op rfl (AOp.assign rfl rfl (ltb rfl) rfl ?_)
 refine AO.objs (obs' := [.fix 40 [.d (.v (.slice none 0 0))], .fix 4 [.d (dbool false)], .dead, .fix 54 (List.map (fun z => SV.d (keS1 z)) g15.1), .fix 54 (List.map (fun z => SV.d (keS1 z)) g15.2.1), .fix 54 (List.map (fun z => SV.d (keS1 z)) g15.2.2.1), .fix 82 [.d (di .i64 a0), .d (di .i64 y2), .d (oN eS1 g15.2.2.2.1), .sl 4 1 0 ((y7).toNat) ((y7).toNat), .d (dfl g15.2.2.2.2.1), .sl 5 1 0 ((y10).toNat) ((y10).toNat), .sl 3 1 0 ((y4).toNat) ((y4).toNat), .d (dfl g15.2.2.2.2.2)], .frame fr16 [(4, .ptr 0 0), (5, .ptr 1 0)]]) rfl ?_
 refine AO.nil ?_
 change AC _ _ _ _
 refine AC.seq ?_
 refine AC.region ?_
 refine AO.op rfl (AOp.move rfl rfl (ltb rfl) rfl ?_)
 refine AO.op rfl (AOp.nilCheck rfl rfl (ltb rfl) rfl rfl ?_)
 refine AO.op rfl (AOp.fieldAddr rfl rfl (ltb rfl) rfl fo82_1 ?_)
 refine AO.op rfl (AOp.load1 rfl rfl (ltb rfl) rfl agg3 rfl rfl ?_)
 obtain ⟨q17, h0⟩ := need_elim h0
 refine AO.op rfl (AOp.makeL (f := fun z => SV.d (keS1 z)) (z0 := (0 : Nat)) rfl rfl (ltb rfl) rfl rfl el40 info54 rfl rfl (by decide) q17.1 q17.2 rfl ?_)
 refine AO.op rfl (AOp.assign rfl rfl (ltb rfl) rfl ?_)
 refine AO.nil ?_
 change AC _ _ _ _
 refine AC.seq ?_
 refine AC.seq ?_
 refine AC.region ?_
 refine AO.op rfl (AOp.move rfl rfl (ltb rfl) rfl ?_)
 refine AO.op rfl (AOp.nilCheck rfl rfl (ltb rfl) rfl rfl ?_)
 refine AO.op rfl (AOp.fieldAddr rfl rfl (ltb rfl) rfl fo82_6 ?_)
 refine AO.op rfl (AOp.load1 rfl rfl (ltb rfl) rfl agg69 rfl rfl ?_)
 refine AO.op rfl (AOp.nilEqlS Tryz.underlying69 rfl rfl (ltb rfl) rfl ?_)
 refine AO.nil ?_
 change AC _ _ _ _
 refine AC.condF rfl rfl ?_
 refine AC.skip ?_
 change AC _ _ _ _
 refine AC.seq ?_
 refine AC.seq ?_
 refine AC.region ?_
 refine AO.op rfl (AOp.move rfl rfl (ltb rfl) rfl ?_)
 refine AO.op rfl (AOp.nilCheck rfl rfl (ltb rfl) rfl rfl ?_)
 refine AO.op rfl (AOp.fieldAddr rfl rfl (ltb rfl) rfl fo82_4 ?_)
 refine AO.op rfl (AOp.load1 rfl rfl (ltb rfl) rfl agg54 rfl rfl ?_)
 refine AO.op rfl (AOp.callD rfl rfl (ltb rfl) rfl rfl (mathAbs g15.2.2.2.2.1) ?_)
 rintro _ rfl
 refine AO.op rfl (AOp.fgtr rfl rfl (ltb rfl) rfl rfl ?_)
 refine AO.nil ?_
 change AC _ _ _ _
 refine AC.cond rfl (fun q18 => ?_) (fun q18 => ?_)
 ·replace h0 := cT h0 q18
  refine AC.seq ?_
  refine AC.draw 14 mixed (by kernel_rfl) ?_
  refine AD.op [3] rfl (by kernel_rfl) rfl rfl (fun _ _ h => AOp.move rfl rfl (ltb rfl) rfl h) ?_
  refine AD.op [0] rfl (by kernel_rfl) rfl rfl (fun _ _ h => AOp.move rfl rfl (ltb rfl) rfl h) ?_
  refine AD.op [22] rfl (by kernel_rfl) rfl rfl (fun _ _ h => AOp.nilCheck rfl rfl (ltb rfl) rfl rfl h) ?_
  refine AD.op [23] rfl (by kernel_rfl) rfl rfl (fun _ _ h => AOp.fieldAddr rfl rfl (ltb rfl) rfl fo82_5 h) ?_
  refine AD.op [24] rfl (by kernel_rfl) rfl rfl (fun _ _ h => AOp.load1 rfl rfl (ltb rfl) rfl agg69 rfl rfl h) ?_
  obtain ⟨q19, h0⟩ := need_elim h0
  refine AD.op [25] rfl (by kernel_rfl) rfl rfl (fun _ _ h => AOp.indexSl rfl rfl (ltb rfl) rfl rfl el69 q19.1 q19.2 h) ?_
  obtain ⟨x20, q21, h0⟩ := idx_elim h0
  refine AD.op [26] rfl (by kernel_rfl) rfl rfl (fun _ _ h => AOp.load1 rfl rfl (ltb rfl) rfl agg54 rfl (atO q21.2) h) ?_
  obtain ⟨z22, q23, h0⟩ := bind_elim h0
  refine AD.op [27] rfl (by kernel_rfl) rfl rfl (fun _ _ h => AOp.farith rfl rfl (ltb rfl) rfl rfl q23 h) ?_
  refine AD.op [0] rfl (by kernel_rfl) rfl rfl (fun _ _ h => AOp.move rfl rfl (ltb rfl) rfl h) ?_
  refine AD.op [29] rfl (by kernel_rfl) rfl rfl (fun _ _ h => AOp.nilCheck rfl rfl (ltb rfl) rfl rfl h) ?_
  refine AD.op [30] rfl (by kernel_rfl) rfl rfl (fun _ _ h => AOp.fieldAddr rfl rfl (ltb rfl) rfl fo82_4 h) ?_
  refine AD.op [31] rfl (by kernel_rfl) rfl rfl (fun _ _ h => AOp.load1 rfl rfl (ltb rfl) rfl agg54 rfl rfl h) ?_
  obtain ⟨z24, q25, h0⟩ := bind_elim h0
  refine AD.op [28, 32] rfl (by kernel_rfl) rfl rfl (fun _ _ h => AOp.farith rfl rfl (ltb rfl) rfl rfl q25 h) ?_
  obtain ⟨q26, h0⟩ := need_elim h0
  refine AD.op [21] rfl (by kernel_rfl) rfl rfl (fun _ _ h => AOp.indexSl rfl rfl (ltb rfl) rfl rfl el69 q26.1 q26.2 h) ?_
  refine AD.done ?_
  obtain ⟨q27, h0⟩ := need_elim h0
  refine AO.op rfl (AOp.storeL (f := fun z => SV.d (keS1 z)) (l := (List.replicate (y2).toNat (0 : Nat))) (i := ((0 : Int)).toNat) (v := z24) rfl rfl rfl rfl size54 rfl rfl rfl q27 ?_)
  refine AO.nil ?_
  change AC _ _ _ _
  refine AC.draw 14 mixed (by kernel_rfl) ?_
  refine AD.op [3] rfl (by kernel_rfl) rfl rfl (fun _ _ h => AOp.move rfl rfl (ltb rfl) rfl h) ?_
  refine AD.op [0] rfl (by kernel_rfl) rfl rfl (fun _ _ h => AOp.move rfl rfl (ltb rfl) rfl h) ?_
  refine AD.op [36] rfl (by kernel_rfl) rfl rfl (fun _ _ h => AOp.nilCheck rfl rfl (ltb rfl) rfl rfl h) ?_
  refine AD.op [37] rfl (by kernel_rfl) rfl rfl (fun _ _ h => AOp.fieldAddr rfl rfl (ltb rfl) rfl fo82_5 h) ?_
  refine AD.op [38] rfl (by kernel_rfl) rfl rfl (fun _ _ h => AOp.load1 rfl rfl (ltb rfl) rfl agg69 rfl rfl h) ?_
  obtain ⟨q28, h0⟩ := need_elim h0
  refine AD.op [39] rfl (by kernel_rfl) rfl rfl (fun _ _ h => AOp.indexSl rfl rfl (ltb rfl) rfl rfl el69 q28.1 q28.2 h) ?_
  obtain ⟨x29, q30, h0⟩ := idx_elim h0
  refine AD.op [40] rfl (by kernel_rfl) rfl rfl (fun _ _ h => AOp.load1 rfl rfl (ltb rfl) rfl agg54 rfl (atO q30.2) h) ?_
  obtain ⟨z31, q32, h0⟩ := bind_elim h0
  refine AD.op [41] rfl (by kernel_rfl) rfl rfl (fun _ _ h => AOp.farith rfl rfl (ltb rfl) rfl rfl q32 h) ?_
  refine AD.op [0] rfl (by kernel_rfl) rfl rfl (fun _ _ h => AOp.move rfl rfl (ltb rfl) rfl h) ?_
  refine AD.op [43] rfl (by kernel_rfl) rfl rfl (fun _ _ h => AOp.nilCheck rfl rfl (ltb rfl) rfl rfl h) ?_
  refine AD.op [44] rfl (by kernel_rfl) rfl rfl (fun _ _ h => AOp.fieldAddr rfl rfl (ltb rfl) rfl fo82_4 h) ?_
  refine AD.op [45] rfl (by kernel_rfl) rfl rfl (fun _ _ h => AOp.load1 rfl rfl (ltb rfl) rfl agg54 rfl rfl h) ?_
  obtain ⟨z33, q34, h0⟩ := bind_elim h0
  refine AD.op [42, 46] rfl (by kernel_rfl) rfl rfl (fun _ _ h => AOp.farith rfl rfl (ltb rfl) rfl rfl q34 h) ?_
  obtain ⟨q35, h0⟩ := need_elim h0
  refine AD.op [35] rfl (by kernel_rfl) rfl rfl (fun _ _ h => AOp.indexSl rfl rfl (ltb rfl) rfl rfl el69 q35.1 q35.2 h) ?_
  refine AD.done ?_
  obtain ⟨q36, h0⟩ := need_elim h0
  refine AO.op rfl (AOp.storeL (f := fun z => SV.d (keS1 z)) (l := ((List.replicate (y2).toNat (0 : Nat)).set ((0 : Int)).toNat z24)) (i := ((1 : Int)).toNat) (v := z33) rfl rfl rfl rfl size54 rfl rfl rfl q36 ?_)
  refine AO.nil ?_
  change AC _ _ _ _
  refine AC.seq ?_
  refine AC.region ?_
  refine AO.op rfl (AOp.move rfl rfl (ltb rfl) rfl ?_)
  refine AO.op rfl (AOp.assign rfl rfl (ltb rfl) rfl ?_)
  refine AO.objs (obs' := [.fix 40 [.d (.v (.slice none 0 0))], .fix 4 [.d (dbool false)], .dead, .fix 54 (List.map (fun z => SV.d (keS1 z)) g15.1), .fix 54 (List.map (fun z => SV.d (keS1 z)) g15.2.1), .fix 54 (List.map (fun z => SV.d (keS1 z)) g15.2.2.1), .fix 82 [.d (di .i64 a0), .d (di .i64 y2), .d (oN eS1 g15.2.2.2.1), .sl 4 1 0 ((y7).toNat) ((y7).toNat), .d (dfl g15.2.2.2.2.1), .sl 5 1 0 ((y10).toNat) ((y10).toNat), .sl 3 1 0 ((y4).toNat) ((y4).toNat), .d (dfl g15.2.2.2.2.2)], .frame fr16 [(4, .ptr 0 0), (5, .ptr 1 0)], .fix 54 (List.map (fun z => SV.d (keS1 z)) (((List.replicate (y2).toNat (0 : Nat)).set ((0 : Int)).toNat z24).set ((1 : Int)).toNat z33))]) rfl ?_
  refine AO.nil ?_
  change AC _ _ _ _
  refine AC.ret ?_
  refine inlret (ob' := [.fix 40 [.d (.v (.slice none 0 0))], .fix 4 [.d (dbool false)], .dead, .fix 54 (List.map (fun z => SV.d (keS1 z)) g15.1), .fix 54 (List.map (fun z => SV.d (keS1 z)) g15.2.1), .fix 54 (List.map (fun z => SV.d (keS1 z)) g15.2.2.1), .fix 82 [.d (di .i64 a0), .d (di .i64 y2), .d (oN eS1 g15.2.2.2.1), .sl 4 1 0 ((y7).toNat) ((y7).toNat), .d (dfl g15.2.2.2.2.1), .sl 5 1 0 ((y10).toNat) ((y10).toNat), .sl 3 1 0 ((y4).toNat) ((y4).toNat), .d (dfl g15.2.2.2.2.2)], .dead, .fix 54 (List.map (fun z => SV.d (keS1 z)) (((List.replicate (y2).toNat (0 : Nat)).set ((0 : Int)).toNat z24).set ((1 : Int)).toNat z33))]) (e' := [(4, .ptr 0 0), (5, .ptr 1 0)]) (r := .sl 8 1 0 ((y2).toNat) ((y2).toNat)) rfl rfl rfl ?_
  change AO _ _ _ _ _
  obtain ⟨q37, h0⟩ := need_elim h0
  refine AO.freezeF (ds := (List.map keS1 (((List.replicate (y2).toNat (0 : Nat)).set ((0 : Int)).toNat z24).set ((1 : Int)).toNat z33))) 25 8 rfl rfl rfl (by rw [List.map_map]; rfl) (lenq q37 (len1 _ _)) (Nat.le_refl _) ?_
  obtain ⟨y38, q39, h0⟩ := bind_elim h0
  refine AO.op rfl (AOp.callD rfl rfl (ltb rfl) rfl rfl (w_floats (((List.replicate (y2).toNat (0 : Nat)).set ((0 : Int)).toNat z24).set ((1 : Int)).toNat z33) y38 q39) ?_)
  rintro _ rfl
  refine AO.op rfl (AOp.store rfl rfl rfl rfl size40 rfl rfl rfl (leb rfl) ?_)
  refine AO.op rfl (AOp.store rfl rfl rfl rfl size4 rfl rfl rfl (leb rfl) ?_)
  refine AO.objs (obs' := [.fix 40 [.d (eS1 y38)], .fix 4 [.d (dbool true)], .dead, .fix 54 (List.map (fun z => SV.d (keS1 z)) g15.1), .fix 54 (List.map (fun z => SV.d (keS1 z)) g15.2.1), .fix 54 (List.map (fun z => SV.d (keS1 z)) g15.2.2.1), .fix 82 [.d (di .i64 a0), .d (di .i64 y2), .d (oN eS1 g15.2.2.2.1), .sl 4 1 0 ((y7).toNat) ((y7).toNat), .d (dfl g15.2.2.2.2.1), .sl 5 1 0 ((y10).toNat) ((y10).toNat), .sl 3 1 0 ((y4).toNat) ((y4).toNat), .d (dfl g15.2.2.2.2.2)], .dead, .dead]) rfl ?_
  refine AO.nil ?_
  change AC _ _ _ _
  refine AC.ret ?_
  change RetQ _ _ _ .ret _
  obtain rfl := Option.some.inj h0
  refine retq rfl rfl
 replace h0 := cF h0 q18
 refine AC.seq ?_
 refine AC.draw 13 mixed (by kernel_rfl) ?_
 refine AD.op [3] rfl (by kernel_rfl) rfl rfl (fun _ _ h => AOp.move rfl rfl (ltb rfl) rfl h) ?_
 refine AD.op [0] rfl (by kernel_rfl) rfl rfl (fun _ _ h => AOp.move rfl rfl (ltb rfl) rfl h) ?_
 refine AD.op [50] rfl (by kernel_rfl) rfl rfl (fun _ _ h => AOp.nilCheck rfl rfl (ltb rfl) rfl rfl h) ?_
 refine AD.op [51] rfl (by kernel_rfl) rfl rfl (fun _ _ h => AOp.fieldAddr rfl rfl (ltb rfl) rfl fo82_6 h) ?_
 refine AD.op [52] rfl (by kernel_rfl) rfl rfl (fun _ _ h => AOp.load1 rfl rfl (ltb rfl) rfl agg69 rfl rfl h) ?_
 obtain ⟨q40, h0⟩ := need_elim h0
 refine AD.op [53] rfl (by kernel_rfl) rfl rfl (fun _ _ h => AOp.indexSl rfl rfl (ltb rfl) rfl rfl el69 q40.1 q40.2 h) ?_
 obtain ⟨x41, q42, h0⟩ := idx_elim h0
 refine AD.op [54] rfl (by kernel_rfl) rfl rfl (fun _ _ h => AOp.load1 rfl rfl (ltb rfl) rfl agg54 rfl (atO q42.2) h) ?_
 refine AD.op [0] rfl (by kernel_rfl) rfl rfl (fun _ _ h => AOp.move rfl rfl (ltb rfl) rfl h) ?_
 refine AD.op [56] rfl (by kernel_rfl) rfl rfl (fun _ _ h => AOp.nilCheck rfl rfl (ltb rfl) rfl rfl h) ?_
 refine AD.op [57] rfl (by kernel_rfl) rfl rfl (fun _ _ h => AOp.fieldAddr rfl rfl (ltb rfl) rfl fo82_7 h) ?_
 refine AD.op [58] rfl (by kernel_rfl) rfl rfl (fun _ _ h => AOp.load1 rfl rfl (ltb rfl) rfl agg54 rfl rfl h) ?_
 obtain ⟨z43, q44, h0⟩ := bind_elim h0
 refine AD.op [55, 59] rfl (by kernel_rfl) rfl rfl (fun _ _ h => AOp.farith rfl rfl (ltb rfl) rfl rfl q44 h) ?_
 obtain ⟨q45, h0⟩ := need_elim h0
 refine AD.op [49] rfl (by kernel_rfl) rfl rfl (fun _ _ h => AOp.indexSl rfl rfl (ltb rfl) rfl rfl el69 q45.1 q45.2 h) ?_
 refine AD.done ?_
 obtain ⟨q46, h0⟩ := need_elim h0
 refine AO.op rfl (AOp.storeL (f := fun z => SV.d (keS1 z)) (l := (List.replicate (y2).toNat (0 : Nat))) (i := ((0 : Int)).toNat) (v := z43) rfl rfl rfl rfl size54 rfl rfl rfl q46 ?_)
 refine AO.nil ?_
 change AC _ _ _ _
 refine AC.draw 13 mixed (by kernel_rfl) ?_
 refine AD.op [3] rfl (by kernel_rfl) rfl rfl (fun _ _ h => AOp.move rfl rfl (ltb rfl) rfl h) ?_
 refine AD.op [0] rfl (by kernel_rfl) rfl rfl (fun _ _ h => AOp.move rfl rfl (ltb rfl) rfl h) ?_
 refine AD.op [63] rfl (by kernel_rfl) rfl rfl (fun _ _ h => AOp.nilCheck rfl rfl (ltb rfl) rfl rfl h) ?_
 refine AD.op [64] rfl (by kernel_rfl) rfl rfl (fun _ _ h => AOp.fieldAddr rfl rfl (ltb rfl) rfl fo82_6 h) ?_
 refine AD.op [65] rfl (by kernel_rfl) rfl rfl (fun _ _ h => AOp.load1 rfl rfl (ltb rfl) rfl agg69 rfl rfl h) ?_
 obtain ⟨q47, h0⟩ := need_elim h0
 refine AD.op [66] rfl (by kernel_rfl) rfl rfl (fun _ _ h => AOp.indexSl rfl rfl (ltb rfl) rfl rfl el69 q47.1 q47.2 h) ?_
 obtain ⟨x48, q49, h0⟩ := idx_elim h0
 refine AD.op [67] rfl (by kernel_rfl) rfl rfl (fun _ _ h => AOp.load1 rfl rfl (ltb rfl) rfl agg54 rfl (atO q49.2) h) ?_
 refine AD.op [0] rfl (by kernel_rfl) rfl rfl (fun _ _ h => AOp.move rfl rfl (ltb rfl) rfl h) ?_
 refine AD.op [69] rfl (by kernel_rfl) rfl rfl (fun _ _ h => AOp.nilCheck rfl rfl (ltb rfl) rfl rfl h) ?_
 refine AD.op [70] rfl (by kernel_rfl) rfl rfl (fun _ _ h => AOp.fieldAddr rfl rfl (ltb rfl) rfl fo82_7 h) ?_
 refine AD.op [71] rfl (by kernel_rfl) rfl rfl (fun _ _ h => AOp.load1 rfl rfl (ltb rfl) rfl agg54 rfl rfl h) ?_
 obtain ⟨z50, q51, h0⟩ := bind_elim h0
 refine AD.op [68, 72] rfl (by kernel_rfl) rfl rfl (fun _ _ h => AOp.farith rfl rfl (ltb rfl) rfl rfl q51 h) ?_
 obtain ⟨q52, h0⟩ := need_elim h0
 refine AD.op [62] rfl (by kernel_rfl) rfl rfl (fun _ _ h => AOp.indexSl rfl rfl (ltb rfl) rfl rfl el69 q52.1 q52.2 h) ?_
 refine AD.done ?_
 obtain ⟨q53, h0⟩ := need_elim h0
 refine AO.op rfl (AOp.storeL (f := fun z => SV.d (keS1 z)) (l := ((List.replicate (y2).toNat (0 : Nat)).set ((0 : Int)).toNat z43)) (i := ((1 : Int)).toNat) (v := z50) rfl rfl rfl rfl size54 rfl rfl rfl q53 ?_)
 refine AO.nil ?_
 change AC _ _ _ _
 refine AC.seq ?_
 refine AC.region ?_
 refine AO.op rfl (AOp.move rfl rfl (ltb rfl) rfl ?_)
 refine AO.op rfl (AOp.assign rfl rfl (ltb rfl) rfl ?_)
 refine AO.objs (obs' := [.fix 40 [.d (.v (.slice none 0 0))], .fix 4 [.d (dbool false)], .dead, .fix 54 (List.map (fun z => SV.d (keS1 z)) g15.1), .fix 54 (List.map (fun z => SV.d (keS1 z)) g15.2.1), .fix 54 (List.map (fun z => SV.d (keS1 z)) g15.2.2.1), .fix 82 [.d (di .i64 a0), .d (di .i64 y2), .d (oN eS1 g15.2.2.2.1), .sl 4 1 0 ((y7).toNat) ((y7).toNat), .d (dfl g15.2.2.2.2.1), .sl 5 1 0 ((y10).toNat) ((y10).toNat), .sl 3 1 0 ((y4).toNat) ((y4).toNat), .d (dfl g15.2.2.2.2.2)], .frame fr16 [(4, .ptr 0 0), (5, .ptr 1 0)], .fix 54 (List.map (fun z => SV.d (keS1 z)) (((List.replicate (y2).toNat (0 : Nat)).set ((0 : Int)).toNat z43).set ((1 : Int)).toNat z50))]) rfl ?_
 refine AO.nil ?_
 change AC _ _ _ _
 refine AC.ret ?_
 refine inlret (ob' := [.fix 40 [.d (.v (.slice none 0 0))], .fix 4 [.d (dbool false)], .dead, .fix 54 (List.map (fun z => SV.d (keS1 z)) g15.1), .fix 54 (List.map (fun z => SV.d (keS1 z)) g15.2.1), .fix 54 (List.map (fun z => SV.d (keS1 z)) g15.2.2.1), .fix 82 [.d (di .i64 a0), .d (di .i64 y2), .d (oN eS1 g15.2.2.2.1), .sl 4 1 0 ((y7).toNat) ((y7).toNat), .d (dfl g15.2.2.2.2.1), .sl 5 1 0 ((y10).toNat) ((y10).toNat), .sl 3 1 0 ((y4).toNat) ((y4).toNat), .d (dfl g15.2.2.2.2.2)], .dead, .fix 54 (List.map (fun z => SV.d (keS1 z)) (((List.replicate (y2).toNat (0 : Nat)).set ((0 : Int)).toNat z43).set ((1 : Int)).toNat z50))]) (e' := [(4, .ptr 0 0), (5, .ptr 1 0)]) (r := .sl 8 1 0 ((y2).toNat) ((y2).toNat)) rfl rfl rfl ?_
 change AO _ _ _ _ _
 obtain ⟨q54, h0⟩ := need_elim h0
 refine AO.freezeF (ds := (List.map keS1 (((List.replicate (y2).toNat (0 : Nat)).set ((0 : Int)).toNat z43).set ((1 : Int)).toNat z50))) 25 8 rfl rfl rfl (by rw [List.map_map]; rfl) (lenq q54 (len1 _ _)) (Nat.le_refl _) ?_
 obtain ⟨y55, q56, h0⟩ := bind_elim h0
 refine AO.op rfl (AOp.callD rfl rfl (ltb rfl) rfl rfl (w_floats (((List.replicate (y2).toNat (0 : Nat)).set ((0 : Int)).toNat z43).set ((1 : Int)).toNat z50) y55 q56) ?_)
 rintro _ rfl
 refine AO.op rfl (AOp.store rfl rfl rfl rfl size40 rfl rfl rfl (leb rfl) ?_)
 refine AO.op rfl (AOp.store rfl rfl rfl rfl size4 rfl rfl rfl (leb rfl) ?_)
 refine AO.objs (obs' := [.fix 40 [.d (eS1 y55)], .fix 4 [.d (dbool true)], .dead, .fix 54 (List.map (fun z => SV.d (keS1 z)) g15.1), .fix 54 (List.map (fun z => SV.d (keS1 z)) g15.2.1), .fix 54 (List.map (fun z => SV.d (keS1 z)) g15.2.2.1), .fix 82 [.d (di .i64 a0), .d (di .i64 y2), .d (oN eS1 g15.2.2.2.1), .sl 4 1 0 ((y7).toNat) ((y7).toNat), .d (dfl g15.2.2.2.2.1), .sl 5 1 0 ((y10).toNat) ((y10).toNat), .sl 3 1 0 ((y4).toNat) ((y4).toNat), .d (dfl g15.2.2.2.2.2)], .dead, .dead]) rfl ?_
 refine AO.nil ?_
 change AC _ _ _ _
 refine AC.ret ?_
 change RetQ _ _ _ .ret _
 obtain rfl := Option.some.inj h0
 refine retq rfl rfl

def row (l : List Nat) : D := .ds 1 (l.map dfl)
def rows (ls : List (List Nat)) : D := .ds 1 (ls.map row)
def finAll (l : List Nat) : Bool := (List.range l.length).all fun i => Flt.isFin (l.getD i 0)
def flat2l (pts : List (Nat × Nat)) : List Nat := pts.flatMap fun p => [p.1, p.2]
theorem fin_of {x z : Nat} (hz : floatBits .sub .f64 x x = some z ∨ (floatBits .sub .f64 x x = none ∧ Flt.nanB z)) : feq z 0 = Flt.isFin x := by
 cases hf : Flt.isFin x with
 | true =>
  obtain ⟨y, h1, h2⟩ := Flt.sub_self_zero hf
  rcases hz with h3 | ⟨h3, _⟩
  ·rw [h1] at h3; cases h3; exact h2
  ·rw [h1] at h3; cases h3
 | false =>
  have h1 := Flt.sub_self_none hf
  rcases hz with h3 | ⟨_, h3⟩
  ·rw [h1] at h3; cases h3
  ·exact Flt.feq_nan h3 _

end Go.Proofs.YtdchenbdnalbcaaGreatDoor.Wk
