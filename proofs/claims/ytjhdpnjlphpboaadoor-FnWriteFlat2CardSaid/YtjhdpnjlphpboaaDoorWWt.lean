/- Proved: more of it. -/
import Derived.Test.YtjhdpnjlphpboaaDoorWWt_1
namespace Go.Proofs.YtjhdpnjlphpboaaDoor.Wk
open Go.Vm
set_option linter.unusedVariables false
set_option linter.unusedSimpArgs false
set_option maxRecDepth 100000 in
set_option maxHeartbeats 4000000 in
/-- pub-orthodrome/laws.FnWriteFlat2 -/
theorem w_FnWriteFlat2 (F : Nat) (a0 : (List Nat)) (a1 : (List Int)) (a2 : Int) (a3 : Bool) (r0 : Bool) (h0 : p_FnWriteFlat2 F a0 a1 a2 a3 = some r0) : FnD Tryd.prog 4 [eS0 a0, eS1 a1, di .i64 a2, dbool a3] (fun r => r = dbool r0) := by
 refine FnD.of (by kernel_rfl) Tryd.func4 rfl Tryd.ntmps4 rfl (leb rfl) fun W ok => ?_
 unfold p_FnWriteFlat2 at h0
 refine AC.seq ?_
 refine AC.region ?_
 refine AO.op rfl (AOp.assign rfl rfl (ltb rfl) rfl ?_)
 refine AO.nil ?_
 change AC _ _ _ _
 refine AC.seq ?_
 refine AC.joinP (V := Bool) [0, 1, 2, 3] [27] 0 (fun g1 => [(27, .d (dbool g1))]) (fun g1 => []) (fun g1 => (p_FnWriteFlat2_k1 a0 a1 a2 a3 F) g1 = some r0) rfl ?_ ?_
 ·refine AC.region ?_
  refine AO.op rfl (AOp.move rfl rfl (ltb rfl) rfl ?_)
  refine AO.op rfl (AOp.lenDs (n := a0.length) (cells := (List.map keS0 a0)) rfl rfl (ltb rfl) rfl el24 (by decide) (len1 _ _) ?_)
  refine AO.op rfl (AOp.igtr rfl rfl (ltb rfl) rfl rfl ?_)
  refine AO.op rfl (AOp.move rfl rfl (ltb rfl) rfl ?_)
  refine AO.dec (decide ((2147483647 : Int) < ((a0.length : Nat) : Int))) (fun q42 => ?_) (fun q42 => ?_)
  ·replace h0 := cT h0 q42
   refine AO.guardN rfl rfl rfl (ltb rfl) rfl q42 ?_
   refine AO.guardN rfl rfl rfl (ltb rfl) rfl q42 ?_
   refine AO.guardN rfl rfl rfl (ltb rfl) rfl q42 ?_
   refine AO.op rfl (AOp.pick rfl rfl (ltb rfl) rfl q42 rfl ?_)
   refine AO.nil ?_
   exact ⟨true, _, rfl, (LeL.refl _), rfl, rfl, h0⟩
  replace h0 := cF h0 q42
  refine AO.guardY rfl rfl rfl q42 (AOp.move rfl rfl (ltb rfl) rfl ?_)
  refine AO.guardY rfl rfl rfl q42 (AOp.lenDs (n := a1.length) (cells := (List.map keS1 a1)) rfl rfl (ltb rfl) rfl el31 (by decide) (len1 _ _) ?_)
  refine AO.guardY rfl rfl rfl q42 (AOp.igtr rfl rfl (ltb rfl) rfl rfl ?_)
  refine AO.op rfl (AOp.pickN rfl rfl (ltb rfl) rfl q42 rfl ?_)
  refine AO.nil ?_
  exact ⟨(decide ((2147483647 : Int) < ((a1.length : Nat) : Int))), _, rfl, (LeL.refl _), rfl, rfl, h0⟩
 intro g1 h0
 unfold p_FnWriteFlat2_k1 at h0
 refine AC.cond rfl (fun q2 => ?_) (fun q2 => ?_)
 ·replace h0 := cT h0 q2
  refine AC.seq ?_
  refine AC.region ?_
  refine AO.op rfl (AOp.assign rfl rfl (ltb rfl) rfl ?_)
  refine AO.nil ?_
  change AC _ _ _ _
  refine AC.ret ?_
  change RetQ _ _ _ .ret _
  obtain rfl := Option.some.inj h0
  refine retq rfl rfl
 replace h0 := cF h0 q2
 refine AC.skip ?_
 change AC _ _ _ _
 refine AC.seq ?_
 refine AC.region ?_
 refine AO.op rfl (AOp.move rfl rfl (ltb rfl) rfl ?_)
 refine AO.op rfl (AOp.move rfl rfl (ltb rfl) rfl ?_)
 refine AO.op rfl (AOp.move rfl rfl (ltb rfl) rfl ?_)
 obtain ⟨y3, q4, h0⟩ := bind_elim h0
 refine AO.op rfl (AOp.callD rfl rfl (ltb rfl) rfl rfl (w_fRows F a0 a1 a2 y3 q4) ?_)
 rintro _ rfl
 refine AO.op rfl (AOp.move rfl rfl (ltb rfl) rfl ?_)
 first | refine AO.op rfl (AOp.extractD rfl rfl (ltb rfl) rfl rfl ?_) | refine AO.op rfl (AOp.extract rfl rfl (ltb rfl) rfl rfl ?_)
 first | refine AO.op rfl (AOp.extractD rfl rfl (ltb rfl) rfl rfl ?_) | refine AO.op rfl (AOp.extract rfl rfl (ltb rfl) rfl rfl ?_)
 refine AO.op rfl (AOp.alloc rfl rfl (ltb rfl) zero35 rfl ?_)
 refine AO.op rfl (AOp.store rfl rfl rfl rfl size35 rfl rfl rfl (leb rfl) ?_)
 refine AO.op rfl (AOp.assign rfl rfl (ltb rfl) rfl ?_)
 refine AO.nil ?_
 change AC _ _ _ _
 refine AC.seq ?_
 refine AC.seq ?_
 refine AC.region ?_
 refine AO.op rfl (AOp.move rfl rfl (ltb rfl) rfl ?_)
 refine AO.op rfl (AOp.bnot rfl rfl (ltb rfl) rfl ?_)
 refine AO.nil ?_
 change AC _ _ _ _
 refine AC.cond rfl (fun q5 => ?_) (fun q5 => ?_)
 ·replace h0 := cT h0 q5
  refine AC.seq ?_
  refine AC.region ?_
  refine AO.op rfl (AOp.assign rfl rfl (ltb rfl) rfl ?_)
  refine AO.nil ?_
  change AC _ _ _ _
  refine AC.ret ?_
  change RetQ _ _ _ .ret _
  obtain rfl := Option.some.inj h0
  refine retq rfl rfl
 replace h0 := cF h0 q5
 refine AC.skip ?_
 change AC _ _ _ _
 refine AC.seq ?_
 refine AC.region ?_
 refine AO.op rfl (AOp.move rfl rfl (ltb rfl) rfl ?_)
 refine AO.op rfl (AOp.move rfl rfl (ltb rfl) rfl ?_)
 refine AO.op rfl (AOp.move rfl rfl (ltb rfl) rfl ?_)
 refine AO.op rfl (AOp.move rfl rfl (ltb rfl) rfl ?_)
 obtain ⟨y6, q7, h0⟩ := bind_elim h0
 refine AO.op rfl (AOp.callD rfl rfl (ltb rfl) rfl rfl (w_WriteFlat2 F a0 a1 a2 a3 y6 q7) ?_)
 rintro _ rfl
 refine AO.op rfl (AOp.move rfl rfl (ltb rfl) rfl ?_)
 first | refine AO.op rfl (AOp.extractD rfl rfl (ltb rfl) rfl rfl ?_) | refine AO.op rfl (AOp.extract rfl rfl (ltb rfl) rfl rfl ?_)
 first | refine AO.op rfl (AOp.extractD rfl rfl (ltb rfl) rfl rfl ?_) | refine AO.op rfl (AOp.extract rfl rfl (ltb rfl) rfl rfl ?_)
 refine AO.op rfl (AOp.assign rfl rfl (ltb rfl) rfl ?_)
 refine AO.op rfl (AOp.assign rfl rfl (ltb rfl) rfl ?_)
 refine AO.nil ?_
 change AC _ _ _ _
 refine AC.seq ?_
 refine AC.region ?_
 refine AO.op rfl (AOp.move rfl rfl (ltb rfl) rfl ?_)
 refine AO.op rfl (AOp.move rfl rfl (ltb rfl) rfl ?_)
 refine AO.op rfl (AOp.move rfl rfl (ltb rfl) rfl ?_)
 obtain ⟨y8, q9, h0⟩ := bind_elim h0
 refine AO.op rfl (AOp.callD rfl rfl (ltb rfl) rfl rfl (w_ReadFlat2 F y6.1 a3 a2 y8 q9) ?_)
 rintro _ rfl
 refine AO.op rfl (AOp.move rfl rfl (ltb rfl) rfl ?_)
 first | refine AO.op rfl (AOp.extractD rfl rfl (ltb rfl) rfl rfl ?_) | refine AO.op rfl (AOp.extract rfl rfl (ltb rfl) rfl rfl ?_)
 first | refine AO.op rfl (AOp.extractD rfl rfl (ltb rfl) rfl rfl ?_) | refine AO.op rfl (AOp.extract rfl rfl (ltb rfl) rfl rfl ?_)
 first | refine AO.op rfl (AOp.extractD rfl rfl (ltb rfl) rfl rfl ?_) | refine AO.op rfl (AOp.extract rfl rfl (ltb rfl) rfl rfl ?_)
 first | refine AO.op rfl (AOp.extractD rfl rfl (ltb rfl) rfl rfl ?_) | refine AO.op rfl (AOp.extract rfl rfl (ltb rfl) rfl rfl ?_)
 refine AO.op rfl (AOp.assign rfl rfl (ltb rfl) rfl ?_)
 refine AO.op rfl (AOp.assign rfl rfl (ltb rfl) rfl ?_)
 refine AO.op rfl (AOp.assign rfl rfl (ltb rfl) rfl ?_)
 refine AO.op rfl (AOp.assign rfl rfl (ltb rfl) rfl ?_)
 refine AO.nil ?_
 change AC _ _ _ _
 refine AC.seq ?_
 refine AC.region ?_
 refine AO.op rfl (AOp.move rfl rfl (ltb rfl) rfl ?_)
 refine AO.op rfl (AOp.lenDs (n := a1.length) (cells := (List.map keS1 a1)) rfl rfl (ltb rfl) rfl el31 (by decide) (len1 _ _) ?_)
 refine AO.op rfl (AOp.i2i rfl rfl (ltb rfl) rfl Tryd.underlying3 Tryd.underlying43 rfl ?_)
 refine AO.op rfl (AOp.move rfl rfl (ltb rfl) rfl ?_)
 obtain ⟨y10, q11, h0⟩ := bind_elim h0
 refine AO.op rfl (AOp.callNew rfl rfl (ltb rfl) rfl rfl (wn_CountBytes F (IntKind.u32.wrap ((a1.length : Nat) : Int)) a3 y10 q11) ?_)
 refine AO.op rfl (AOp.assign rfl rfl (ltb rfl) rfl ?_)
 refine AO.nil ?_
 change AC _ _ _ _
 refine AC.seq ?_
 refine AC.seq ?_
 refine AC.region ?_
 refine AO.op rfl (AOp.loadN rfl rfl (ltb rfl) rfl agg35 size35 rfl (leb rfl) rfl ?_)
 obtain ⟨y12, q13, h0⟩ := bind_elim h0
 refine AO.op rfl (AOp.callD rfl rfl (ltb rfl) rfl rfl (w_Parts F y3.1 y12 q13) ?_)
 rintro _ rfl
 refine AO.op rfl (AOp.lenDs (n := y12.length) (cells := (List.flatMap c0_TImpl_Geom y12)) rfl rfl (ltb rfl) rfl el33 (by decide) (lenN _ 7 c0_TImpl_Geom_len _) ?_)
 refine AO.op rfl (AOp.move rfl rfl (ltb rfl) rfl ?_)
 refine AO.nil ?_
 change AC _ _ _ _
 obtain ⟨o14, l15, h0⟩ := bind_elim h0
 refine AC.joinE (V := (List Int)) [0, 1, 11, 12, 13, 14, 15, 16] [17] 2 (fun g16 => [(17, .own 1)]) (fun g16 => [.fix 35 [.d (di .i64 y3.1.Kind), .d (di .i64 y3.1.Layout), .d (di .i64 y3.1.SRID), .d (eS0 y3.1.Flat), .d (eS1 y3.1.Ends), .d (eS3 y3.1.Endss), .d (eS2 y3.1.Kids)], .grow 5 1 (List.map keS4 g16)]) (fun g16 => (p_FnWriteFlat2_k2 a0 a1 F y6 y8) g16 = some r0) rfl ?_ ?_
 ·refine AC.block ?_
  refine AC.loopP (V := (Int × (List Int))) (p_FnWriteFlat2_l3 a2 a3 F y12) o14 [0, 1, 2, 3, 11, 12, 13, 14, 15, 16, 60, 61] [17, 62] 2 (fun g28 => [(17, .own 1), (62, .d (di .i64 g28.1))]) (fun g28 => [.fix 35 [.d (di .i64 y3.1.Kind), .d (di .i64 y3.1.Layout), .d (di .i64 y3.1.SRID), .d (eS0 y3.1.Flat), .d (eS1 y3.1.Ends), .d (eS3 y3.1.Endss), .d (eS2 y3.1.Kids)], .grow 5 1 (List.map keS4 g28.2)]) F ((0 : Int), y10) l15 rfl rfl (LeL.refl _) rfl rfl ?_
  intro n30 g28 h1
  unfold p_FnWriteFlat2_l3 at h1
  refine AC.seq ?_
  refine AC.region ?_
  refine AO.op rfl (AOp.ilss rfl rfl (ltb rfl) rfl rfl ?_)
  refine AO.nil ?_
  change AC _ _ _ _
  refine AC.seq ?_
  refine AC.cond rfl (fun q31 => ?_) (fun q31 => ?_)
  ·replace h1 := cT h1 q31
   refine AC.skip ?_
   change AC _ _ _ _
   refine AC.seq ?_
   refine AC.block ?_
   refine AC.seq ?_
   refine AC.region ?_
   obtain ⟨x32, q33, h1⟩ := idx_elim h1
   refine AO.op rfl (AOp.indexDs (cells := (List.flatMap c0_TImpl_Geom y12)) rfl rfl (ltb rfl) rfl rfl el33 (by decide) q33.1 (ltN 7 c0_TImpl_Geom_len (by decide) q33.2) ?_)
   refine AO.op rfl (AOp.loadEpN rfl rfl (ltb rfl) rfl agg35 size35 (leN 7 c0_TImpl_Geom_len q33.2) ((atN 7 c0_TImpl_Geom_len q33.2).trans (c0_TImpl_Geom_eq x32)) ?_)
   refine AO.op rfl (AOp.alloc rfl rfl (ltb rfl) zero35 rfl ?_)
   refine AO.op rfl (AOp.store rfl rfl rfl rfl size35 rfl rfl rfl (leb rfl) ?_)
   refine AO.nil ?_
   change AC _ _ _ _
   obtain ⟨q34, h1⟩ := need_elim h1
   obtain ⟨y35, q36, h1⟩ := bind_elim h1
   obtain ⟨q37, h1⟩ := need_elim h1
   refine AC.drawS [0, 1, 2, 3, 4, 5, 6, 7, 8, 9, 10, 11, 12] [9] [13, 14, 15] (fun L => [.fix 35 [.d (di .i64 y3.1.Kind), .d (di .i64 y3.1.Layout), .d (di .i64 y3.1.SRID), .d (eS0 y3.1.Flat), .d (eS1 y3.1.Ends), .d (eS3 y3.1.Endss), .d (eS2 y3.1.Kids)], bif L 9 then .grow 5 1 (List.map keS4 (g28.2 ++ y35)) else .grow 5 1 (List.map keS4 g28.2), .fix 35 [.d (di .i64 x32.Kind), .d (di .i64 x32.Layout), .d (di .i64 x32.SRID), .d (eS0 x32.Flat), .d (eS1 x32.Ends), .d (eS3 x32.Endss), .d (eS2 x32.Kids)]]) [(9, SV.noO 1)] mixed (by kernel_rfl) (fun L L' h => by simp only [h 9 (by decide)]) rfl ?_
   refine AS.op [17] [] [9] [] rfl rfl rfl (by kernel_rfl) (by kernel_rfl) rfl rfl (fun _ _ _ h => AOp.move rfl rfl (ltb rfl) rfl h) (by kernel_rfl) ?_
   refine AS.op [19] [] [9] [] rfl rfl rfl (by kernel_rfl) (by kernel_rfl) rfl rfl (fun _ _ _ h => AOp.fieldAddr rfl rfl (ltb rfl) rfl fo35_3 h) (by kernel_rfl) ?_
   refine AS.op [67] [] [9] [] rfl rfl rfl (by kernel_rfl) (by kernel_rfl) rfl rfl (fun _ _ _ h => AOp.load1 rfl rfl (ltb rfl) rfl agg24 rfl rfl h) (by kernel_rfl) ?_
   refine AS.op [68] [] [9] [] rfl rfl rfl (by kernel_rfl) (by kernel_rfl) rfl rfl (fun _ _ _ h => AOp.lenDs (n := x32.Flat.length) (cells := (List.map keS0 x32.Flat)) rfl rfl (ltb rfl) rfl el24 (by decide) (len1 _ _) h) (by kernel_rfl) ?_
   refine AS.op [2] [] [9] [] rfl rfl rfl (by kernel_rfl) (by kernel_rfl) rfl rfl (fun _ _ _ h => AOp.move rfl rfl (ltb rfl) rfl h) (by kernel_rfl) ?_
   refine AS.op [69, 70] [] [9] [] rfl rfl rfl (by kernel_rfl) (by kernel_rfl) rfl rfl (fun _ _ _ h => AOp.iquo rfl rfl (ltb rfl) rfl rfl q34.1 rfl q34.2.1 q34.2.2 h) (by kernel_rfl) ?_
   refine AS.op [71] [] [9] [] rfl rfl rfl (by kernel_rfl) (by kernel_rfl) rfl rfl (fun _ _ _ h => AOp.i2i rfl rfl (ltb rfl) rfl Tryd.underlying3 Tryd.underlying43 rfl h) (by kernel_rfl) ?_
   refine AS.op [3] [] [9] [] rfl rfl rfl (by kernel_rfl) (by kernel_rfl) rfl rfl (fun _ _ _ h => AOp.move rfl rfl (ltb rfl) rfl h) (by kernel_rfl) ?_
   refine AS.op [72, 73] [] [9] [] rfl rfl rfl (by kernel_rfl) (by kernel_rfl) rfl rfl (fun _ _ _ h => AOp.callD rfl rfl (ltb rfl) rfl rfl (w_CountBytes F (IntKind.u32.wrap (Int.tdiv ((x32.Flat.length : Nat) : Int) a2)) a3 y35 q36) (by rintro _ rfl; exact h)) (by kernel_rfl) ?_
   refine AS.mid [66, 74] [] [9] [] rfl rfl rfl rfl (by kernel_rfl) (by kernel_rfl) rfl rfl (fun _ _ _ h => AOp.appendOwn' (p := 1) (n := g28.2.length) (m := y35.length) (news := (List.map keS4 y35)) rfl rfl (ltb rfl) rfl rfl el22 info5 rfl (by decide) rfl (len1 _ _) (len1 _ _) (one1 _ (fun _ => rfl) _) q37 (by decide) (allNo (.cons rfl (.cons rfl (.cons rfl .nil)))) rfl (cat1 _ _ _) (AO.dropped h)) (by kernel_rfl) rfl ?_
   refine AS.op [19] [] [] [9] rfl rfl rfl (by kernel_rfl) (by kernel_rfl) rfl rfl (fun _ _ _ h => AOp.fieldAddr rfl rfl (ltb rfl) rfl fo35_3 h) (by kernel_rfl) ?_
   refine AS.op [76] [] [] [9] rfl rfl rfl (by kernel_rfl) (by kernel_rfl) rfl rfl (fun _ _ _ h => AOp.load1 rfl rfl (ltb rfl) rfl agg24 rfl rfl h) (by kernel_rfl) ?_
   refine AS.op [3] [] [] [9] rfl rfl rfl (by kernel_rfl) (by kernel_rfl) rfl rfl (fun _ _ _ h => AOp.move rfl rfl (ltb rfl) rfl h) (by kernel_rfl) ?_
   refine AS.done ?_
   refine AO.objs (obs' := [.fix 35 [.d (di .i64 y3.1.Kind), .d (di .i64 y3.1.Layout), .d (di .i64 y3.1.SRID), .d (eS0 y3.1.Flat), .d (eS1 y3.1.Ends), .d (eS3 y3.1.Endss), .d (eS2 y3.1.Kids)], .grow 5 1 (List.map keS4 (g28.2 ++ y35)), .fix 35 [.d (di .i64 x32.Kind), .d (di .i64 x32.Layout), .d (di .i64 x32.SRID), .d (eS0 x32.Flat), .d (eS1 x32.Ends), .d (eS3 x32.Endss), .d (eS2 x32.Kids)]]) rfl ?_
   obtain ⟨y38, q39, h1⟩ := bind_elim h1
   refine AO.op rfl (AOp.callD rfl rfl (ltb rfl) rfl rfl (w_BytesOf F x32.Flat a3 y38 q39) ?_)
   rintro _ rfl
   obtain ⟨q40, h1⟩ := need_elim h1
   refine AO.op rfl (AOp.appendOwn' (p := 1) (n := (g28.2 ++ y35).length) (m := y38.length) (news := (List.map keS4 y38)) rfl rfl (ltb rfl) rfl rfl el22 info5 rfl (by decide) rfl (len1 _ _) (len1 _ _) (one1 _ (fun _ => rfl) _) q40 (by decide) rfl rfl (cat1 _ _ _) ?_)
   refine AO.op rfl (AOp.assign rfl rfl (ltb rfl) rfl ?_)
   refine AO.nil ?_
   change AC _ _ _ _
   refine AC.region ?_
   obtain ⟨q41, h1⟩ := need_elim h1
   refine AO.op rfl (AOp.iadd rfl rfl (ltb rfl) rfl rfl rfl q41.1 q41.2 ?_)
   refine AO.op rfl (AOp.move rfl rfl (ltb rfl) rfl ?_)
   refine AO.nil ?_
   exact ⟨((g28.1 + (1 : Int)), ((g28.2 ++ y35) ++ y38)), _, rfl, (LeL.refl _), rfl, rfl, h1⟩
  replace h1 := cF h1 q31
  refine AC.exit ?_
  obtain rfl := Option.some.inj h1
  exact ⟨g28.2, _, rfl, (LeL.refl _), rfl, rfl, aftL h0⟩
 intro g16 h0
 unfold p_FnWriteFlat2_k2 at h0
 change AC _ _ _ _
 refine AC.seq ?_
 refine AC.region ?_
 refine AO.op rfl (AOp.move rfl rfl (ltb rfl) rfl ?_)
 refine AO.op rfl (AOp.move rfl rfl (ltb rfl) rfl ?_)
 refine AO.dec y6.2 (fun q17 => ?_) (fun q17 => ?_)
 ·replace h0 := cT h0 q17
  refine AO.guardY rfl rfl rfl q17 (AOp.move rfl rfl (ltb rfl) rfl ?_)
  refine AO.op rfl (AOp.pick rfl rfl (ltb rfl) rfl q17 rfl ?_)
  refine AO.op rfl (AOp.move rfl rfl (ltb rfl) rfl ?_)
  refine AO.dec y8.2.2.2 (fun q18 => ?_) (fun q18 => ?_)
  ·replace h0 := cT h0 q18
   refine AO.guardY rfl rfl rfl q18 (AOp.move rfl rfl (ltb rfl) rfl ?_)
   refine AO.guardY rfl rfl rfl q18 (AOp.ieql rfl rfl (ltb rfl) rfl rfl ?_)
   refine AO.op rfl (AOp.pick rfl rfl (ltb rfl) rfl q18 rfl ?_)
   refine AO.op rfl (AOp.move rfl rfl (ltb rfl) rfl ?_)
   refine AO.dec (decide (y8.2.2.1 = (0 : Int))) (fun q19 => ?_) (fun q19 => ?_)
   ·replace h0 := cT h0 q19
    refine AO.guardY rfl rfl rfl q19 (AOp.move rfl rfl (ltb rfl) rfl ?_)
    refine AO.guardY rfl rfl rfl q19 (AOp.move rfl rfl (ltb rfl) rfl ?_)
    obtain ⟨y20, q21, h0⟩ := bind_elim h0
    refine AO.guardY rfl rfl rfl q19 (AOp.callD rfl rfl (ltb rfl) rfl rfl (w_SameFloats F y8.1 a0 y20 q21) ?_)
    rintro _ rfl
    refine AO.op rfl (AOp.pick rfl rfl (ltb rfl) rfl q19 rfl ?_)
    refine AO.op rfl (AOp.move rfl rfl (ltb rfl) rfl ?_)
    refine AO.dec y20 (fun q22 => ?_) (fun q22 => ?_)
    ·replace h0 := cT h0 q22
     refine AO.guardY rfl rfl rfl q22 (AOp.move rfl rfl (ltb rfl) rfl ?_)
     refine AO.guardY rfl rfl rfl q22 (AOp.move rfl rfl (ltb rfl) rfl ?_)
     obtain ⟨y23, q24, h0⟩ := bind_elim h0
     refine AO.guardY rfl rfl rfl q22 (AOp.callD rfl rfl (ltb rfl) rfl rfl (w_gInts F y8.2.1 a1 y23 q24) ?_)
     rintro _ rfl
     refine AO.op rfl (AOp.pick rfl rfl (ltb rfl) rfl q22 rfl ?_)
     refine AO.op rfl (AOp.move rfl rfl (ltb rfl) rfl ?_)
     refine AO.dec y23 (fun q25 => ?_) (fun q25 => ?_)
     ·replace h0 := cT h0 q25
      refine AO.guardY rfl rfl rfl q25 (AOp.move rfl rfl (ltb rfl) rfl ?_)
      refine AO.guardY rfl rfl rfl q25 (AOp.move rfl rfl (ltb rfl) rfl ?_)
      refine AO.freezeG 1 rfl rfl rfl ?_
      obtain ⟨y26, q27, h0⟩ := bind_elim h0
      refine AO.guardY rfl rfl rfl q25 (AOp.callD rfl rfl (ltb rfl) rfl rfl (w_ySame y6.1 g16 y26 q27) ?_)
      rintro _ rfl
      refine AO.op rfl (AOp.pick rfl rfl (ltb rfl) rfl q25 rfl ?_)
      refine AO.op rfl (AOp.assign rfl rfl (ltb rfl) rfl ?_)
      refine AO.nil ?_
      change AC _ _ _ _
      refine AC.ret ?_
      change RetQ _ _ _ .ret _
      obtain rfl := Option.some.inj h0
      refine retq rfl rfl
     replace h0 := cF h0 q25
     refine AO.guardN rfl rfl rfl (ltb rfl) rfl q25 ?_
     refine AO.guardN rfl rfl rfl (ltb rfl) rfl q25 ?_
     refine AO.guardN rfl rfl rfl (ltb rfl) rfl q25 ?_
     refine AO.op rfl (AOp.pickN rfl rfl (ltb rfl) rfl q25 rfl ?_)
     refine AO.op rfl (AOp.assign rfl rfl (ltb rfl) rfl ?_)
     refine AO.nil ?_
     change AC _ _ _ _
     refine AC.ret ?_
     change RetQ _ _ _ .ret _
     obtain rfl := Option.some.inj h0
     refine retq rfl rfl
    replace h0 := cF h0 q22
    refine AO.guardN rfl rfl rfl (ltb rfl) rfl q22 ?_
    refine AO.guardN rfl rfl rfl (ltb rfl) rfl q22 ?_
    refine AO.guardN rfl rfl rfl (ltb rfl) rfl q22 ?_
    refine AO.op rfl (AOp.pickN rfl rfl (ltb rfl) rfl q22 rfl ?_)
    refine AO.op rfl (AOp.move rfl rfl (ltb rfl) rfl ?_)
    refine AO.guardN rfl rfl rfl (ltb rfl) rfl rfl ?_
    refine AO.guardN rfl rfl rfl (ltb rfl) rfl rfl ?_
    refine AO.guardN rfl rfl rfl (ltb rfl) rfl rfl ?_
    refine AO.op rfl (AOp.pickN rfl rfl (ltb rfl) rfl rfl rfl ?_)
    refine AO.op rfl (AOp.assign rfl rfl (ltb rfl) rfl ?_)
    refine AO.nil ?_
    change AC _ _ _ _
    refine AC.ret ?_
    change RetQ _ _ _ .ret _
    obtain rfl := Option.some.inj h0
    refine retq rfl rfl
   replace h0 := cF h0 q19
   refine AO.guardN rfl rfl rfl (ltb rfl) rfl q19 ?_
   refine AO.guardN rfl rfl rfl (ltb rfl) rfl q19 ?_
   refine AO.guardN rfl rfl rfl (ltb rfl) rfl q19 ?_
   refine AO.op rfl (AOp.pickN rfl rfl (ltb rfl) rfl q19 rfl ?_)
   refine AO.op rfl (AOp.move rfl rfl (ltb rfl) rfl ?_)
   refine AO.guardN rfl rfl rfl (ltb rfl) rfl rfl ?_
   refine AO.guardN rfl rfl rfl (ltb rfl) rfl rfl ?_
   refine AO.guardN rfl rfl rfl (ltb rfl) rfl rfl ?_
   refine AO.op rfl (AOp.pickN rfl rfl (ltb rfl) rfl rfl rfl ?_)
   refine AO.op rfl (AOp.move rfl rfl (ltb rfl) rfl ?_)
   refine AO.guardN rfl rfl rfl (ltb rfl) rfl rfl ?_
   refine AO.guardN rfl rfl rfl (ltb rfl) rfl rfl ?_
   refine AO.guardN rfl rfl rfl (ltb rfl) rfl rfl ?_
   refine AO.op rfl (AOp.pickN rfl rfl (ltb rfl) rfl rfl rfl ?_)
   refine AO.op rfl (AOp.assign rfl rfl (ltb rfl) rfl ?_)
   refine AO.nil ?_
   change AC _ _ _ _
   refine AC.ret ?_
   change RetQ _ _ _ .ret _
   obtain rfl := Option.some.inj h0
   refine retq rfl rfl
  replace h0 := cF h0 q18
  refine AO.guardN rfl rfl rfl (ltb rfl) rfl q18 ?_
  refine AO.guardN rfl rfl rfl (ltb rfl) rfl q18 ?_
  refine AO.op rfl (AOp.pickN rfl rfl (ltb rfl) rfl q18 rfl ?_)
  refine AO.op rfl (AOp.move rfl rfl (ltb rfl) rfl ?_)
  refine AO.guardN rfl rfl rfl (ltb rfl) rfl rfl ?_
  refine AO.guardN rfl rfl rfl (ltb rfl) rfl rfl ?_
  refine AO.guardN rfl rfl rfl (ltb rfl) rfl rfl ?_
  refine AO.op rfl (AOp.pickN rfl rfl (ltb rfl) rfl rfl rfl ?_)
  refine AO.op rfl (AOp.move rfl rfl (ltb rfl) rfl ?_)
  refine AO.guardN rfl rfl rfl (ltb rfl) rfl rfl ?_
  refine AO.guardN rfl rfl rfl (ltb rfl) rfl rfl ?_
  refine AO.guardN rfl rfl rfl (ltb rfl) rfl rfl ?_
  refine AO.op rfl (AOp.pickN rfl rfl (ltb rfl) rfl rfl rfl ?_)
  refine AO.op rfl (AOp.move rfl rfl (ltb rfl) rfl ?_)
  refine AO.guardN rfl rfl rfl (ltb rfl) rfl rfl ?_
  refine AO.guardN rfl rfl rfl (ltb rfl) rfl rfl ?_
  refine AO.guardN rfl rfl rfl (ltb rfl) rfl rfl ?_
  refine AO.op rfl (AOp.pickN rfl rfl (ltb rfl) rfl rfl rfl ?_)
  refine AO.op rfl (AOp.assign rfl rfl (ltb rfl) rfl ?_)
  refine AO.nil ?_
  change AC _ _ _ _
  refine AC.ret ?_
  change RetQ _ _ _ .ret _
  obtain rfl := Option.some.inj h0
  refine retq rfl rfl
 replace h0 := cF h0 q17
 refine AO.guardN rfl rfl rfl (ltb rfl) rfl q17 ?_
 refine AO.op rfl (AOp.pickN rfl rfl (ltb rfl) rfl q17 rfl ?_)
 refine AO.op rfl (AOp.move rfl rfl (ltb rfl) rfl ?_)
 refine AO.guardN rfl rfl rfl (ltb rfl) rfl rfl ?_
 refine AO.guardN rfl rfl rfl (ltb rfl) rfl rfl ?_
 refine AO.op rfl (AOp.pickN rfl rfl (ltb rfl) rfl rfl rfl ?_)
 refine AO.op rfl (AOp.move rfl rfl (ltb rfl) rfl ?_)
 refine AO.guardN rfl rfl rfl (ltb rfl) rfl rfl ?_
 refine AO.guardN rfl rfl rfl (ltb rfl) rfl rfl ?_
 refine AO.guardN rfl rfl rfl (ltb rfl) rfl rfl ?_
 refine AO.op rfl (AOp.pickN rfl rfl (ltb rfl) rfl rfl rfl ?_)
 refine AO.op rfl (AOp.move rfl rfl (ltb rfl) rfl ?_)
 refine AO.guardN rfl rfl rfl (ltb rfl) rfl rfl ?_
 refine AO.guardN rfl rfl rfl (ltb rfl) rfl rfl ?_
 refine AO.guardN rfl rfl rfl (ltb rfl) rfl rfl ?_
 refine AO.op rfl (AOp.pickN rfl rfl (ltb rfl) rfl rfl rfl ?_)
 refine AO.op rfl (AOp.move rfl rfl (ltb rfl) rfl ?_)
 refine AO.guardN rfl rfl rfl (ltb rfl) rfl rfl ?_
 refine AO.guardN rfl rfl rfl (ltb rfl) rfl rfl ?_
 refine AO.guardN rfl rfl rfl (ltb rfl) rfl rfl ?_
 refine AO.op rfl (AOp.pickN rfl rfl (ltb rfl) rfl rfl rfl ?_)
 refine AO.op rfl (AOp.assign rfl rfl (ltb rfl) rfl ?_)
 refine AO.nil ?_
 change AC _ _ _ _
 refine AC.ret ?_
 change RetQ _ _ _ .ret _
 obtain rfl := Option.some.inj h0
 refine retq rfl rfl

end Go.Proofs.YtjhdpnjlphpboaaDoor.Wk
