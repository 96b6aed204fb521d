/- Proved: more of it. -/
import Derived.Test.YtohgipjhcgblfaaGreatWLx_0
namespace Go.Proofs.YtohgipjhcgblfaaGreat.Wk
open Go.Vm
set_option linter.unusedVariables false
set_option linter.unusedSimpArgs false
set_option maxRecDepth 100000 in
set_option maxHeartbeats 4000000 in
/-- pub-orthodrome/pub/gogeom/bigxy.OrientationIndex -/
theorem w_OrientationIndex (a0 : (List Nat)) (a1 : (List Nat)) (a2 : (List Nat)) (r0 : Int) (h0 : p_OrientationIndex a0 a1 a2 = some r0) : FnD Tryz.prog 92 [eS1 a0, eS1 a1, eS1 a2] (fun r => r = di .i64 r0) := by
 refine FnD.of (by kernel_rfl) Tryz.func92 rfl Tryz.ntmps92 rfl (leb rfl) fun W ok => ?_
 unfold p_OrientationIndex at h0
 refine AC.seq ?_
 refine AC.region ?_
 refine AO.op rfl (AOp.assign rfl rfl (ltb rfl) rfl ?_)
 refine AO.nil ?_
 change AC _ _ _ _
 refine AC.seq ?_
 refine AC.region ?_
 refine AO.op rfl (AOp.move rfl rfl (ltb rfl) rfl ?_)
 refine AO.op rfl (AOp.move rfl rfl (ltb rfl) rfl ?_)
 refine AO.op rfl (AOp.move rfl rfl (ltb rfl) rfl ?_)
 refine AO.op rfl (AOp.inl [0, 1, 2] (by kernel_rfl) Tryz.func96 rfl Tryz.ntmps96 rfl rfl (ltb rfl) rfl (leb rfl) rfl ?_)
 intro fr1
 refine AC.seq ?_
 refine AC.region ?_
 refine AO.op rfl (AOp.assign rfl rfl (ltb rfl) rfl ?_)
 refine AO.nil ?_
 change AC _ _ _ _
 refine AC.seq ?_
 refine AC.region ?_
 refine AO.op rfl (AOp.assign rfl rfl (ltb rfl) rfl ?_)
 refine AO.nil ?_
 change AC _ _ _ _
 refine AC.seq ?_
 refine AC.draw 16 mixed (by kernel_rfl) ?_
 refine AD.op [0] rfl (by kernel_rfl) rfl rfl (fun _ _ h => AOp.move rfl rfl (ltb rfl) rfl h) ?_
 obtain ⟨x2, q3, h0⟩ := idx_elim h0
 refine AD.op [12] rfl (by kernel_rfl) rfl rfl (fun _ _ h => AOp.indexDs (cells := (List.map keS1 a0)) rfl rfl (ltb rfl) rfl rfl el64 (by decide) q3.1 (lt1 q3.2) h) ?_
 refine AD.op [13] rfl (by kernel_rfl) rfl rfl (fun _ _ h => AOp.loadEp rfl rfl (ltb rfl) rfl agg22 (at1 q3.2) h) ?_
 refine AD.op [2] rfl (by kernel_rfl) rfl rfl (fun _ _ h => AOp.move rfl rfl (ltb rfl) rfl h) ?_
 obtain ⟨x4, q5, h0⟩ := idx_elim h0
 refine AD.op [15] rfl (by kernel_rfl) rfl rfl (fun _ _ h => AOp.indexDs (cells := (List.map keS1 a2)) rfl rfl (ltb rfl) rfl rfl el64 (by decide) q5.1 (lt1 q5.2) h) ?_
 refine AD.op [16] rfl (by kernel_rfl) rfl rfl (fun _ _ h => AOp.loadEp rfl rfl (ltb rfl) rfl agg22 (at1 q5.2) h) ?_
 obtain ⟨z6, q7, h0⟩ := bind_elim h0
 refine AD.op [14, 17] rfl (by kernel_rfl) rfl rfl (fun _ _ h => AOp.farith rfl rfl (ltb rfl) rfl rfl q7 h) ?_
 refine AD.op [1] rfl (by kernel_rfl) rfl rfl (fun _ _ h => AOp.move rfl rfl (ltb rfl) rfl h) ?_
 obtain ⟨x8, q9, h0⟩ := idx_elim h0
 refine AD.op [19] rfl (by kernel_rfl) rfl rfl (fun _ _ h => AOp.indexDs (cells := (List.map keS1 a1)) rfl rfl (ltb rfl) rfl rfl el64 (by decide) q9.1 (lt1 q9.2) h) ?_
 refine AD.op [20] rfl (by kernel_rfl) rfl rfl (fun _ _ h => AOp.loadEp rfl rfl (ltb rfl) rfl agg22 (at1 q9.2) h) ?_
 refine AD.op [2] rfl (by kernel_rfl) rfl rfl (fun _ _ h => AOp.move rfl rfl (ltb rfl) rfl h) ?_
 obtain ⟨x10, q11, h0⟩ := idx_elim h0
 refine AD.op [22] rfl (by kernel_rfl) rfl rfl (fun _ _ h => AOp.indexDs (cells := (List.map keS1 a2)) rfl rfl (ltb rfl) rfl rfl el64 (by decide) q11.1 (lt1 q11.2) h) ?_
 refine AD.op [23] rfl (by kernel_rfl) rfl rfl (fun _ _ h => AOp.loadEp rfl rfl (ltb rfl) rfl agg22 (at1 q11.2) h) ?_
 obtain ⟨z12, q13, h0⟩ := bind_elim h0
 refine AD.op [21, 24] rfl (by kernel_rfl) rfl rfl (fun _ _ h => AOp.farith rfl rfl (ltb rfl) rfl rfl q13 h) ?_
 obtain ⟨z14, q15, h0⟩ := bind_elim h0
 refine AD.op [18, 25] rfl (by kernel_rfl) rfl rfl (fun _ _ h => AOp.farith rfl rfl (ltb rfl) rfl rfl q15 h) ?_
 refine AD.op [26] rfl (by kernel_rfl) rfl rfl (fun _ _ h => AOp.assign rfl rfl (ltb rfl) rfl h) ?_
 refine AD.done ?_
 refine AO.nil ?_
 change AC _ _ _ _
 refine AC.seq ?_
 refine AC.draw 16 mixed (by kernel_rfl) ?_
 refine AD.op [0] rfl (by kernel_rfl) rfl rfl (fun _ _ h => AOp.move rfl rfl (ltb rfl) rfl h) ?_
 obtain ⟨x16, q17, h0⟩ := idx_elim h0
 refine AD.op [27] rfl (by kernel_rfl) rfl rfl (fun _ _ h => AOp.indexDs (cells := (List.map keS1 a0)) rfl rfl (ltb rfl) rfl rfl el64 (by decide) q17.1 (lt1 q17.2) h) ?_
 refine AD.op [28] rfl (by kernel_rfl) rfl rfl (fun _ _ h => AOp.loadEp rfl rfl (ltb rfl) rfl agg22 (at1 q17.2) h) ?_
 refine AD.op [2] rfl (by kernel_rfl) rfl rfl (fun _ _ h => AOp.move rfl rfl (ltb rfl) rfl h) ?_
 obtain ⟨x18, q19, h0⟩ := idx_elim h0
 refine AD.op [30] rfl (by kernel_rfl) rfl rfl (fun _ _ h => AOp.indexDs (cells := (List.map keS1 a2)) rfl rfl (ltb rfl) rfl rfl el64 (by decide) q19.1 (lt1 q19.2) h) ?_
 refine AD.op [31] rfl (by kernel_rfl) rfl rfl (fun _ _ h => AOp.loadEp rfl rfl (ltb rfl) rfl agg22 (at1 q19.2) h) ?_
 obtain ⟨z20, q21, h0⟩ := bind_elim h0
 refine AD.op [29, 32] rfl (by kernel_rfl) rfl rfl (fun _ _ h => AOp.farith rfl rfl (ltb rfl) rfl rfl q21 h) ?_
 refine AD.op [1] rfl (by kernel_rfl) rfl rfl (fun _ _ h => AOp.move rfl rfl (ltb rfl) rfl h) ?_
 obtain ⟨x22, q23, h0⟩ := idx_elim h0
 refine AD.op [34] rfl (by kernel_rfl) rfl rfl (fun _ _ h => AOp.indexDs (cells := (List.map keS1 a1)) rfl rfl (ltb rfl) rfl rfl el64 (by decide) q23.1 (lt1 q23.2) h) ?_
 refine AD.op [35] rfl (by kernel_rfl) rfl rfl (fun _ _ h => AOp.loadEp rfl rfl (ltb rfl) rfl agg22 (at1 q23.2) h) ?_
 refine AD.op [2] rfl (by kernel_rfl) rfl rfl (fun _ _ h => AOp.move rfl rfl (ltb rfl) rfl h) ?_
 obtain ⟨x24, q25, h0⟩ := idx_elim h0
 refine AD.op [37] rfl (by kernel_rfl) rfl rfl (fun _ _ h => AOp.indexDs (cells := (List.map keS1 a2)) rfl rfl (ltb rfl) rfl rfl el64 (by decide) q25.1 (lt1 q25.2) h) ?_
 refine AD.op [38] rfl (by kernel_rfl) rfl rfl (fun _ _ h => AOp.loadEp rfl rfl (ltb rfl) rfl agg22 (at1 q25.2) h) ?_
 obtain ⟨z26, q27, h0⟩ := bind_elim h0
 refine AD.op [36, 39] rfl (by kernel_rfl) rfl rfl (fun _ _ h => AOp.farith rfl rfl (ltb rfl) rfl rfl q27 h) ?_
 obtain ⟨z28, q29, h0⟩ := bind_elim h0
 refine AD.op [33, 40] rfl (by kernel_rfl) rfl rfl (fun _ _ h => AOp.farith rfl rfl (ltb rfl) rfl rfl q29 h) ?_
 refine AD.op [41] rfl (by kernel_rfl) rfl rfl (fun _ _ h => AOp.assign rfl rfl (ltb rfl) rfl h) ?_
 refine AD.done ?_
 refine AO.nil ?_
 change AC _ _ _ _
 refine AC.seq ?_
 refine AC.region ?_
 refine AO.op rfl (AOp.move rfl rfl (ltb rfl) rfl ?_)
 refine AO.op rfl (AOp.move rfl rfl (ltb rfl) rfl ?_)
 obtain ⟨z30, q31, h0⟩ := bind_elim h0
 refine AO.op rfl (AOp.farith rfl rfl (ltb rfl) rfl rfl q31 ?_)
 refine AO.op rfl (AOp.assign rfl rfl (ltb rfl) rfl ?_)
 refine AO.nil ?_
 change AC _ _ _ _
 refine AC.joinP (V := Nat) [10] [7] 1 (fun g32 => [(7, .d (dfl g32))]) (fun g32 => [.frame fr1 [(0, .d (eS1 a0)), (1, .d (eS1 a1)), (2, .d (eS1 a2))]]) (fun g32 => (p_OrientationIndex_k1 a0 a1 a2 z30) g32 = some r0) rfl ?_ ?_
 ·refine AC.block ?_
  refine AC.seq ?_
  refine AC.region ?_
  refine AO.op rfl (AOp.move rfl rfl (ltb rfl) rfl ?_)
  refine AO.op rfl (AOp.fgtr rfl rfl (ltb rfl) rfl rfl ?_)
  refine AO.op rfl (AOp.assign rfl rfl (ltb rfl) rfl ?_)
  refine AO.nil ?_
  change AC _ _ _ _
  refine AC.cond rfl (fun q106 => ?_) (fun q106 => ?_)
  ·replace h0 := cT h0 q106
   refine AC.seq ?_
   refine AC.seq ?_
   refine AC.region ?_
   refine AO.op rfl (AOp.move rfl rfl (ltb rfl) rfl ?_)
   refine AO.op rfl (AOp.fleq rfl rfl (ltb rfl) rfl rfl ?_)
   refine AO.nil ?_
   change AC _ _ _ _
   refine AC.cond rfl (fun q107 => ?_) (fun q107 => ?_)
   ·replace h0 := cT h0 q107
    refine AC.seq ?_
    refine AC.region ?_
    refine AO.op rfl (AOp.move rfl rfl (ltb rfl) rfl ?_)
    obtain ⟨y108, q109, h0⟩ := bind_elim h0
    refine AO.op rfl (AOp.callD rfl rfl (ltb rfl) rfl rfl (w_orientationBasedOnSign z30 y108 q109) ?_)
    rintro _ rfl
    refine AO.op rfl (AOp.assign rfl rfl (ltb rfl) rfl ?_)
    refine AO.nil ?_
    change AC _ _ _ _
    refine AC.ret ?_
    refine inlret (ob' := [.dead]) (e' := [(0, .d (eS1 a0)), (1, .d (eS1 a1)), (2, .d (eS1 a2))]) (r := .d (di .i64 y108)) rfl rfl rfl ?_
    change AO _ _ _ _ _
    refine AO.op rfl (AOp.assign rfl rfl (ltb rfl) rfl ?_)
    refine AO.nil ?_
    change AC _ _ _ _
    refine AC.seq ?_
    refine AC.seq ?_
    refine AC.region ?_
    refine AO.op rfl (AOp.move rfl rfl (ltb rfl) rfl ?_)
    refine AO.op rfl (AOp.ileq rfl rfl (ltb rfl) rfl rfl ?_)
    refine AO.nil ?_
    change AC _ _ _ _
    refine AC.cond rfl (fun q110 => ?_) (fun q110 => ?_)
    ·replace h0 := cT h0 q110
     refine AC.seq ?_
     refine AC.region ?_
     refine AO.op rfl (AOp.move rfl rfl (ltb rfl) rfl ?_)
     refine AO.op rfl (AOp.assign rfl rfl (ltb rfl) rfl ?_)
     refine AO.nil ?_
     change AC _ _ _ _
     refine AC.ret ?_
     change RetQ _ _ _ .ret _
     obtain rfl := Option.some.inj h0
     refine retq rfl rfl
    replace h0 := cF h0 q110
    refine AC.skip ?_
    change AC _ _ _ _
    refine AC.seq ?_
    refine AC.draw 8 mixed (by kernel_rfl) ?_
    refine AD.op [1] rfl (by kernel_rfl) rfl rfl (fun _ _ h => AOp.move rfl rfl (ltb rfl) rfl h) ?_
    obtain ⟨x111, q112, h0⟩ := idx_elim h0
    refine AD.op [21] rfl (by kernel_rfl) rfl rfl (fun _ _ h => AOp.indexDs (cells := (List.map keS1 a1)) rfl rfl (ltb rfl) rfl rfl el64 (by decide) q112.1 (lt1 q112.2) h) ?_
    refine AD.op [22] rfl (by kernel_rfl) rfl rfl (fun _ _ h => AOp.loadEp rfl rfl (ltb rfl) rfl agg22 (at1 q112.2) h) ?_
    refine AD.op [0] rfl (by kernel_rfl) rfl rfl (fun _ _ h => AOp.move rfl rfl (ltb rfl) rfl h) ?_
    obtain ⟨x113, q114, h0⟩ := idx_elim h0
    refine AD.op [24] rfl (by kernel_rfl) rfl rfl (fun _ _ h => AOp.indexDs (cells := (List.map keS1 a0)) rfl rfl (ltb rfl) rfl rfl el64 (by decide) q114.1 (lt1 q114.2) h) ?_
    refine AD.op [25] rfl (by kernel_rfl) rfl rfl (fun _ _ h => AOp.loadEp rfl rfl (ltb rfl) rfl agg22 (at1 q114.2) h) ?_
    obtain ⟨z115, q116, h0⟩ := bind_elim h0
    refine AD.op [23, 26] rfl (by kernel_rfl) rfl rfl (fun _ _ h => AOp.farith rfl rfl (ltb rfl) rfl rfl q116 h) ?_
    refine AD.op [27] rfl (by kernel_rfl) rfl rfl (fun _ _ h => AOp.assign rfl rfl (ltb rfl) rfl h) ?_
    refine AD.done ?_
    refine AO.nil ?_
    change AC _ _ _ _
    refine AC.seq ?_
    refine AC.draw 8 mixed (by kernel_rfl) ?_
    refine AD.op [1] rfl (by kernel_rfl) rfl rfl (fun _ _ h => AOp.move rfl rfl (ltb rfl) rfl h) ?_
    obtain ⟨x117, q118, h0⟩ := idx_elim h0
    refine AD.op [28] rfl (by kernel_rfl) rfl rfl (fun _ _ h => AOp.indexDs (cells := (List.map keS1 a1)) rfl rfl (ltb rfl) rfl rfl el64 (by decide) q118.1 (lt1 q118.2) h) ?_
    refine AD.op [29] rfl (by kernel_rfl) rfl rfl (fun _ _ h => AOp.loadEp rfl rfl (ltb rfl) rfl agg22 (at1 q118.2) h) ?_
    refine AD.op [0] rfl (by kernel_rfl) rfl rfl (fun _ _ h => AOp.move rfl rfl (ltb rfl) rfl h) ?_
    obtain ⟨x119, q120, h0⟩ := idx_elim h0
    refine AD.op [31] rfl (by kernel_rfl) rfl rfl (fun _ _ h => AOp.indexDs (cells := (List.map keS1 a0)) rfl rfl (ltb rfl) rfl rfl el64 (by decide) q120.1 (lt1 q120.2) h) ?_
    refine AD.op [32] rfl (by kernel_rfl) rfl rfl (fun _ _ h => AOp.loadEp rfl rfl (ltb rfl) rfl agg22 (at1 q120.2) h) ?_
    obtain ⟨z121, q122, h0⟩ := bind_elim h0
    refine AD.op [30, 33] rfl (by kernel_rfl) rfl rfl (fun _ _ h => AOp.farith rfl rfl (ltb rfl) rfl rfl q122 h) ?_
    refine AD.op [34] rfl (by kernel_rfl) rfl rfl (fun _ _ h => AOp.assign rfl rfl (ltb rfl) rfl h) ?_
    refine AD.done ?_
    refine AO.nil ?_
    change AC _ _ _ _
    refine AC.seq ?_
    refine AC.draw 8 mixed (by kernel_rfl) ?_
    refine AD.op [2] rfl (by kernel_rfl) rfl rfl (fun _ _ h => AOp.move rfl rfl (ltb rfl) rfl h) ?_
    obtain ⟨x123, q124, h0⟩ := idx_elim h0
    refine AD.op [35] rfl (by kernel_rfl) rfl rfl (fun _ _ h => AOp.indexDs (cells := (List.map keS1 a2)) rfl rfl (ltb rfl) rfl rfl el64 (by decide) q124.1 (lt1 q124.2) h) ?_
    refine AD.op [36] rfl (by kernel_rfl) rfl rfl (fun _ _ h => AOp.loadEp rfl rfl (ltb rfl) rfl agg22 (at1 q124.2) h) ?_
    refine AD.op [1] rfl (by kernel_rfl) rfl rfl (fun _ _ h => AOp.move rfl rfl (ltb rfl) rfl h) ?_
    obtain ⟨x125, q126, h0⟩ := idx_elim h0
    refine AD.op [38] rfl (by kernel_rfl) rfl rfl (fun _ _ h => AOp.indexDs (cells := (List.map keS1 a1)) rfl rfl (ltb rfl) rfl rfl el64 (by decide) q126.1 (lt1 q126.2) h) ?_
    refine AD.op [39] rfl (by kernel_rfl) rfl rfl (fun _ _ h => AOp.loadEp rfl rfl (ltb rfl) rfl agg22 (at1 q126.2) h) ?_
    obtain ⟨z127, q128, h0⟩ := bind_elim h0
    refine AD.op [37, 40] rfl (by kernel_rfl) rfl rfl (fun _ _ h => AOp.farith rfl rfl (ltb rfl) rfl rfl q128 h) ?_
    refine AD.op [41] rfl (by kernel_rfl) rfl rfl (fun _ _ h => AOp.assign rfl rfl (ltb rfl) rfl h) ?_
    refine AD.done ?_
    refine AO.nil ?_
    change AC _ _ _ _
    refine AC.seq ?_
    refine AC.draw 8 mixed (by kernel_rfl) ?_
    refine AD.op [2] rfl (by kernel_rfl) rfl rfl (fun _ _ h => AOp.move rfl rfl (ltb rfl) rfl h) ?_
    obtain ⟨x129, q130, h0⟩ := idx_elim h0
    refine AD.op [42] rfl (by kernel_rfl) rfl rfl (fun _ _ h => AOp.indexDs (cells := (List.map keS1 a2)) rfl rfl (ltb rfl) rfl rfl el64 (by decide) q130.1 (lt1 q130.2) h) ?_
    refine AD.op [43] rfl (by kernel_rfl) rfl rfl (fun _ _ h => AOp.loadEp rfl rfl (ltb rfl) rfl agg22 (at1 q130.2) h) ?_
    refine AD.op [1] rfl (by kernel_rfl) rfl rfl (fun _ _ h => AOp.move rfl rfl (ltb rfl) rfl h) ?_
    obtain ⟨x131, q132, h0⟩ := idx_elim h0
    refine AD.op [45] rfl (by kernel_rfl) rfl rfl (fun _ _ h => AOp.indexDs (cells := (List.map keS1 a1)) rfl rfl (ltb rfl) rfl rfl el64 (by decide) q132.1 (lt1 q132.2) h) ?_
    refine AD.op [46] rfl (by kernel_rfl) rfl rfl (fun _ _ h => AOp.loadEp rfl rfl (ltb rfl) rfl agg22 (at1 q132.2) h) ?_
    obtain ⟨z133, q134, h0⟩ := bind_elim h0
    refine AD.op [44, 47] rfl (by kernel_rfl) rfl rfl (fun _ _ h => AOp.farith rfl rfl (ltb rfl) rfl rfl q134 h) ?_
    refine AD.op [48] rfl (by kernel_rfl) rfl rfl (fun _ _ h => AOp.assign rfl rfl (ltb rfl) rfl h) ?_
    refine AD.done ?_
    refine AO.nil ?_
    change AC _ _ _ _
    refine AC.seq ?_
    refine AC.region ?_
    refine AO.op rfl (AOp.move rfl rfl (ltb rfl) rfl ?_)
    refine AO.op rfl (AOp.move rfl rfl (ltb rfl) rfl ?_)
    obtain ⟨z135, q136, h0⟩ := bind_elim h0
    refine AO.op rfl (AOp.farith rfl rfl (ltb rfl) rfl rfl q136 ?_)
    refine AO.op rfl (AOp.assign rfl rfl (ltb rfl) rfl ?_)
    refine AO.nil ?_
    change AC _ _ _ _
    refine AC.seq ?_
    refine AC.region ?_
    refine AO.op rfl (AOp.move rfl rfl (ltb rfl) rfl ?_)
    refine AO.op rfl (AOp.move rfl rfl (ltb rfl) rfl ?_)
    obtain ⟨z137, q138, h0⟩ := bind_elim h0
    refine AO.op rfl (AOp.farith rfl rfl (ltb rfl) rfl rfl q138 ?_)
    refine AO.op rfl (AOp.assign rfl rfl (ltb rfl) rfl ?_)
    refine AO.nil ?_
    change AC _ _ _ _
    refine AC.seq ?_
    refine AC.region ?_
    refine AO.op rfl (AOp.move rfl rfl (ltb rfl) rfl ?_)
    refine AO.op rfl (AOp.move rfl rfl (ltb rfl) rfl ?_)
    obtain ⟨z139, q140, h0⟩ := bind_elim h0
    refine AO.op rfl (AOp.farith rfl rfl (ltb rfl) rfl rfl q140 ?_)
    obtain ⟨y141, q142, h0⟩ := bind_elim h0
    refine AO.op rfl (AOp.callD rfl rfl (ltb rfl) rfl rfl (w_orientationBasedOnSign z139 y141 q142) ?_)
    rintro _ rfl
    refine AO.op rfl (AOp.assign rfl rfl (ltb rfl) rfl ?_)
    refine AO.nil ?_
    change AC _ _ _ _
    refine AC.ret ?_
    change RetQ _ _ _ .ret _
    obtain rfl := Option.some.inj h0
    refine retq rfl rfl
   replace h0 := cF h0 q107
   refine AC.skip ?_
   change AC _ _ _ _
   refine AC.region ?_
   refine AO.op rfl (AOp.move rfl rfl (ltb rfl) rfl ?_)
   refine AO.op rfl (AOp.move rfl rfl (ltb rfl) rfl ?_)
   obtain ⟨z143, q144, h0⟩ := bind_elim h0
   refine AO.op rfl (AOp.farith rfl rfl (ltb rfl) rfl rfl q144 ?_)
   refine AO.op rfl (AOp.assign rfl rfl (ltb rfl) rfl ?_)
   refine AO.nil ?_
   exact ⟨z143, _, rfl, (LeL.refl _), rfl, rfl, h0⟩
  replace h0 := cF h0 q106
  refine AC.seq ?_
  refine AC.region ?_
  refine AO.op rfl (AOp.move rfl rfl (ltb rfl) rfl ?_)
  refine AO.op rfl (AOp.flss rfl rfl (ltb rfl) rfl rfl ?_)
  refine AO.op rfl (AOp.assign rfl rfl (ltb rfl) rfl ?_)
  refine AO.nil ?_
  change AC _ _ _ _
  refine AC.cond rfl (fun q145 => ?_) (fun q145 => ?_)
  ·replace h0 := cT h0 q145
   refine AC.seq ?_
   refine AC.seq ?_
   refine AC.region ?_
   refine AO.op rfl (AOp.move rfl rfl (ltb rfl) rfl ?_)
   refine AO.op rfl (AOp.fgeq rfl rfl (ltb rfl) rfl rfl ?_)
   refine AO.nil ?_
   change AC _ _ _ _
   refine AC.cond rfl (fun q146 => ?_) (fun q146 => ?_)
   ·replace h0 := cT h0 q146
    refine AC.seq ?_
    refine AC.region ?_
    refine AO.op rfl (AOp.move rfl rfl (ltb rfl) rfl ?_)
    obtain ⟨y147, q148, h0⟩ := bind_elim h0
    refine AO.op rfl (AOp.callD rfl rfl (ltb rfl) rfl rfl (w_orientationBasedOnSign z30 y147 q148) ?_)
    rintro _ rfl
    refine AO.op rfl (AOp.assign rfl rfl (ltb rfl) rfl ?_)
    refine AO.nil ?_
    change AC _ _ _ _
    refine AC.ret ?_
    refine inlret (ob' := [.dead]) (e' := [(0, .d (eS1 a0)), (1, .d (eS1 a1)), (2, .d (eS1 a2))]) (r := .d (di .i64 y147)) rfl rfl rfl ?_
    change AO _ _ _ _ _
    refine AO.op rfl (AOp.assign rfl rfl (ltb rfl) rfl ?_)
    refine AO.nil ?_
    change AC _ _ _ _
    refine AC.seq ?_
    refine AC.seq ?_
    refine AC.region ?_
    refine AO.op rfl (AOp.move rfl rfl (ltb rfl) rfl ?_)
    refine AO.op rfl (AOp.ileq rfl rfl (ltb rfl) rfl rfl ?_)
    refine AO.nil ?_
    change AC _ _ _ _
    refine AC.cond rfl (fun q149 => ?_) (fun q149 => ?_)
    ·replace h0 := cT h0 q149
     refine AC.seq ?_
     refine AC.region ?_
     refine AO.op rfl (AOp.move rfl rfl (ltb rfl) rfl ?_)
     refine AO.op rfl (AOp.assign rfl rfl (ltb rfl) rfl ?_)
     refine AO.nil ?_
     change AC _ _ _ _
     refine AC.ret ?_
     change RetQ _ _ _ .ret _
     obtain rfl := Option.some.inj h0
     refine retq rfl rfl
    replace h0 := cF h0 q149
    refine AC.skip ?_
    change AC _ _ _ _
    refine AC.seq ?_
    refine AC.draw 8 mixed (by kernel_rfl) ?_
    refine AD.op [1] rfl (by kernel_rfl) rfl rfl (fun _ _ h => AOp.move rfl rfl (ltb rfl) rfl h) ?_
    obtain ⟨x150, q151, h0⟩ := idx_elim h0
    refine AD.op [21] rfl (by kernel_rfl) rfl rfl (fun _ _ h => AOp.indexDs (cells := (List.map keS1 a1)) rfl rfl (ltb rfl) rfl rfl el64 (by decide) q151.1 (lt1 q151.2) h) ?_
    refine AD.op [22] rfl (by kernel_rfl) rfl rfl (fun _ _ h => AOp.loadEp rfl rfl (ltb rfl) rfl agg22 (at1 q151.2) h) ?_
    refine AD.op [0] rfl (by kernel_rfl) rfl rfl (fun _ _ h => AOp.move rfl rfl (ltb rfl) rfl h) ?_
    obtain ⟨x152, q153, h0⟩ := idx_elim h0
    refine AD.op [24] rfl (by kernel_rfl) rfl rfl (fun _ _ h => AOp.indexDs (cells := (List.map keS1 a0)) rfl rfl (ltb rfl) rfl rfl el64 (by decide) q153.1 (lt1 q153.2) h) ?_
    refine AD.op [25] rfl (by kernel_rfl) rfl rfl (fun _ _ h => AOp.loadEp rfl rfl (ltb rfl) rfl agg22 (at1 q153.2) h) ?_
    obtain ⟨z154, q155, h0⟩ := bind_elim h0
    refine AD.op [23, 26] rfl (by kernel_rfl) rfl rfl (fun _ _ h => AOp.farith rfl rfl (ltb rfl) rfl rfl q155 h) ?_
    refine AD.op [27] rfl (by kernel_rfl) rfl rfl (fun _ _ h => AOp.assign rfl rfl (ltb rfl) rfl h) ?_
    refine AD.done ?_
    refine AO.nil ?_
    change AC _ _ _ _
    refine AC.seq ?_
    refine AC.draw 8 mixed (by kernel_rfl) ?_
    refine AD.op [1] rfl (by kernel_rfl) rfl rfl (fun _ _ h => AOp.move rfl rfl (ltb rfl) rfl h) ?_
    obtain ⟨x156, q157, h0⟩ := idx_elim h0
    refine AD.op [28] rfl (by kernel_rfl) rfl rfl (fun _ _ h => AOp.indexDs (cells := (List.map keS1 a1)) rfl rfl (ltb rfl) rfl rfl el64 (by decide) q157.1 (lt1 q157.2) h) ?_
    refine AD.op [29] rfl (by kernel_rfl) rfl rfl (fun _ _ h => AOp.loadEp rfl rfl (ltb rfl) rfl agg22 (at1 q157.2) h) ?_
    refine AD.op [0] rfl (by kernel_rfl) rfl rfl (fun _ _ h => AOp.move rfl rfl (ltb rfl) rfl h) ?_
    obtain ⟨x158, q159, h0⟩ := idx_elim h0
    refine AD.op [31] rfl (by kernel_rfl) rfl rfl (fun _ _ h => AOp.indexDs (cells := (List.map keS1 a0)) rfl rfl (ltb rfl) rfl rfl el64 (by decide) q159.1 (lt1 q159.2) h) ?_
    refine AD.op [32] rfl (by kernel_rfl) rfl rfl (fun _ _ h => AOp.loadEp rfl rfl (ltb rfl) rfl agg22 (at1 q159.2) h) ?_
    obtain ⟨z160, q161, h0⟩ := bind_elim h0
    refine AD.op [30, 33] rfl (by kernel_rfl) rfl rfl (fun _ _ h => AOp.farith rfl rfl (ltb rfl) rfl rfl q161 h) ?_
    refine AD.op [34] rfl (by kernel_rfl) rfl rfl (fun _ _ h => AOp.assign rfl rfl (ltb rfl) rfl h) ?_
    refine AD.done ?_
    refine AO.nil ?_
    change AC _ _ _ _
    refine AC.seq ?_
    refine AC.draw 8 mixed (by kernel_rfl) ?_
    refine AD.op [2] rfl (by kernel_rfl) rfl rfl (fun _ _ h => AOp.move rfl rfl (ltb rfl) rfl h) ?_
    obtain ⟨x162, q163, h0⟩ := idx_elim h0
    refine AD.op [35] rfl (by kernel_rfl) rfl rfl (fun _ _ h => AOp.indexDs (cells := (List.map keS1 a2)) rfl rfl (ltb rfl) rfl rfl el64 (by decide) q163.1 (lt1 q163.2) h) ?_
    refine AD.op [36] rfl (by kernel_rfl) rfl rfl (fun _ _ h => AOp.loadEp rfl rfl (ltb rfl) rfl agg22 (at1 q163.2) h) ?_
    refine AD.op [1] rfl (by kernel_rfl) rfl rfl (fun _ _ h => AOp.move rfl rfl (ltb rfl) rfl h) ?_
    obtain ⟨x164, q165, h0⟩ := idx_elim h0
    refine AD.op [38] rfl (by kernel_rfl) rfl rfl (fun _ _ h => AOp.indexDs (cells := (List.map keS1 a1)) rfl rfl (ltb rfl) rfl rfl el64 (by decide) q165.1 (lt1 q165.2) h) ?_
    refine AD.op [39] rfl (by kernel_rfl) rfl rfl (fun _ _ h => AOp.loadEp rfl rfl (ltb rfl) rfl agg22 (at1 q165.2) h) ?_
    obtain ⟨z166, q167, h0⟩ := bind_elim h0
    refine AD.op [37, 40] rfl (by kernel_rfl) rfl rfl (fun _ _ h => AOp.farith rfl rfl (ltb rfl) rfl rfl q167 h) ?_
    refine AD.op [41] rfl (by kernel_rfl) rfl rfl (fun _ _ h => AOp.assign rfl rfl (ltb rfl) rfl h) ?_
    refine AD.done ?_
    refine AO.nil ?_
    change AC _ _ _ _
    refine AC.seq ?_
    refine AC.draw 8 mixed (by kernel_rfl) ?_
    refine AD.op [2] rfl (by kernel_rfl) rfl rfl (fun _ _ h => AOp.move rfl rfl (ltb rfl) rfl h) ?_
    obtain ⟨x168, q169, h0⟩ := idx_elim h0
    refine AD.op [42] rfl (by kernel_rfl) rfl rfl (fun _ _ h => AOp.indexDs (cells := (List.map keS1 a2)) rfl rfl (ltb rfl) rfl rfl el64 (by decide) q169.1 (lt1 q169.2) h) ?_
    refine AD.op [43] rfl (by kernel_rfl) rfl rfl (fun _ _ h => AOp.loadEp rfl rfl (ltb rfl) rfl agg22 (at1 q169.2) h) ?_
    refine AD.op [1] rfl (by kernel_rfl) rfl rfl (fun _ _ h => AOp.move rfl rfl (ltb rfl) rfl h) ?_
    obtain ⟨x170, q171, h0⟩ := idx_elim h0
    refine AD.op [45] rfl (by kernel_rfl) rfl rfl (fun _ _ h => AOp.indexDs (cells := (List.map keS1 a1)) rfl rfl (ltb rfl) rfl rfl el64 (by decide) q171.1 (lt1 q171.2) h) ?_
    refine AD.op [46] rfl (by kernel_rfl) rfl rfl (fun _ _ h => AOp.loadEp rfl rfl (ltb rfl) rfl agg22 (at1 q171.2) h) ?_
    obtain ⟨z172, q173, h0⟩ := bind_elim h0
    refine AD.op [44, 47] rfl (by kernel_rfl) rfl rfl (fun _ _ h => AOp.farith rfl rfl (ltb rfl) rfl rfl q173 h) ?_
    refine AD.op [48] rfl (by kernel_rfl) rfl rfl (fun _ _ h => AOp.assign rfl rfl (ltb rfl) rfl h) ?_
    refine AD.done ?_
    refine AO.nil ?_
    change AC _ _ _ _
    refine AC.seq ?_
    refine AC.region ?_
    refine AO.op rfl (AOp.move rfl rfl (ltb rfl) rfl ?_)
    refine AO.op rfl (AOp.move rfl rfl (ltb rfl) rfl ?_)
    obtain ⟨z174, q175, h0⟩ := bind_elim h0
    refine AO.op rfl (AOp.farith rfl rfl (ltb rfl) rfl rfl q175 ?_)
    refine AO.op rfl (AOp.assign rfl rfl (ltb rfl) rfl ?_)
    refine AO.nil ?_
    change AC _ _ _ _
    refine AC.seq ?_
    refine AC.region ?_
    refine AO.op rfl (AOp.move rfl rfl (ltb rfl) rfl ?_)
    refine AO.op rfl (AOp.move rfl rfl (ltb rfl) rfl ?_)
    obtain ⟨z176, q177, h0⟩ := bind_elim h0
    refine AO.op rfl (AOp.farith rfl rfl (ltb rfl) rfl rfl q177 ?_)
    refine AO.op rfl (AOp.assign rfl rfl (ltb rfl) rfl ?_)
    refine AO.nil ?_
    change AC _ _ _ _
    refine AC.seq ?_
    refine AC.region ?_
    refine AO.op rfl (AOp.move rfl rfl (ltb rfl) rfl ?_)
    refine AO.op rfl (AOp.move rfl rfl (ltb rfl) rfl ?_)
    obtain ⟨z178, q179, h0⟩ := bind_elim h0
    refine AO.op rfl (AOp.farith rfl rfl (ltb rfl) rfl rfl q179 ?_)
    obtain ⟨y180, q181, h0⟩ := bind_elim h0
    refine AO.op rfl (AOp.callD rfl rfl (ltb rfl) rfl rfl (w_orientationBasedOnSign z178 y180 q181) ?_)
    rintro _ rfl
    refine AO.op rfl (AOp.assign rfl rfl (ltb rfl) rfl ?_)
    refine AO.nil ?_
    change AC _ _ _ _
    refine AC.ret ?_
    change RetQ _ _ _ .ret _
    obtain rfl := Option.some.inj h0
    refine retq rfl rfl
   replace h0 := cF h0 q146
   refine AC.skip ?_
   change AC _ _ _ _
   refine AC.region ?_
   refine AO.op rfl (AOp.move rfl rfl (ltb rfl) rfl ?_)
   refine AO.op rfl (AOp.fneg rfl rfl (ltb rfl) rfl ?_)
   refine AO.op rfl (AOp.move rfl rfl (ltb rfl) rfl ?_)
   obtain ⟨z182, q183, h0⟩ := bind_elim h0
   refine AO.op rfl (AOp.farith rfl rfl (ltb rfl) rfl rfl q183 ?_)
   refine AO.op rfl (AOp.assign rfl rfl (ltb rfl) rfl ?_)
   refine AO.nil ?_
   exact ⟨z182, _, rfl, (LeL.refl _), rfl, rfl, h0⟩
  replace h0 := cF h0 q145
  refine AC.seq ?_
  refine AC.region ?_
  refine AO.op rfl (AOp.move rfl rfl (ltb rfl) rfl ?_)
  obtain ⟨y184, q185, h0⟩ := bind_elim h0
  refine AO.op rfl (AOp.callD rfl rfl (ltb rfl) rfl rfl (w_orientationBasedOnSign z30 y184 q185) ?_)
  rintro _ rfl
  refine AO.op rfl (AOp.assign rfl rfl (ltb rfl) rfl ?_)
  refine AO.nil ?_
  change AC _ _ _ _
  refine AC.ret ?_
  refine inlret (ob' := [.dead]) (e' := [(0, .d (eS1 a0)), (1, .d (eS1 a1)), (2, .d (eS1 a2))]) (r := .d (di .i64 y184)) rfl rfl rfl ?_
  change AO _ _ _ _ _
  refine AO.op rfl (AOp.assign rfl rfl (ltb rfl) rfl ?_)
  refine AO.nil ?_
  change AC _ _ _ _
  refine AC.seq ?_
  refine AC.seq ?_
  refine AC.region ?_
  refine AO.op rfl (AOp.move rfl rfl (ltb rfl) rfl ?_)
  refine AO.op rfl (AOp.ileq rfl rfl (ltb rfl) rfl rfl ?_)
  refine AO.nil ?_
  change AC _ _ _ _
  refine AC.cond rfl (fun q186 => ?_) (fun q186 => ?_)
  ·replace h0 := cT h0 q186
   refine AC.seq ?_
   refine AC.region ?_
   refine AO.op rfl (AOp.move rfl rfl (ltb rfl) rfl ?_)
   refine AO.op rfl (AOp.assign rfl rfl (ltb rfl) rfl ?_)
   refine AO.nil ?_
   change AC _ _ _ _
   refine AC.ret ?_
   change RetQ _ _ _ .ret _
   obtain rfl := Option.some.inj h0
   refine retq rfl rfl
  replace h0 := cF h0 q186
  refine AC.skip ?_
  change AC _ _ _ _
  refine AC.seq ?_
  refine AC.draw 8 mixed (by kernel_rfl) ?_
  refine AD.op [1] rfl (by kernel_rfl) rfl rfl (fun _ _ h => AOp.move rfl rfl (ltb rfl) rfl h) ?_
  obtain ⟨x187, q188, h0⟩ := idx_elim h0
  refine AD.op [21] rfl (by kernel_rfl) rfl rfl (fun _ _ h => AOp.indexDs (cells := (List.map keS1 a1)) rfl rfl (ltb rfl) rfl rfl el64 (by decide) q188.1 (lt1 q188.2) h) ?_
  refine AD.op [22] rfl (by kernel_rfl) rfl rfl (fun _ _ h => AOp.loadEp rfl rfl (ltb rfl) rfl agg22 (at1 q188.2) h) ?_
  refine AD.op [0] rfl (by kernel_rfl) rfl rfl (fun _ _ h => AOp.move rfl rfl (ltb rfl) rfl h) ?_
  obtain ⟨x189, q190, h0⟩ := idx_elim h0
  refine AD.op [24] rfl (by kernel_rfl) rfl rfl (fun _ _ h => AOp.indexDs (cells := (List.map keS1 a0)) rfl rfl (ltb rfl) rfl rfl el64 (by decide) q190.1 (lt1 q190.2) h) ?_
  refine AD.op [25] rfl (by kernel_rfl) rfl rfl (fun _ _ h => AOp.loadEp rfl rfl (ltb rfl) rfl agg22 (at1 q190.2) h) ?_
  obtain ⟨z191, q192, h0⟩ := bind_elim h0
  refine AD.op [23, 26] rfl (by kernel_rfl) rfl rfl (fun _ _ h => AOp.farith rfl rfl (ltb rfl) rfl rfl q192 h) ?_
  refine AD.op [27] rfl (by kernel_rfl) rfl rfl (fun _ _ h => AOp.assign rfl rfl (ltb rfl) rfl h) ?_
  refine AD.done ?_
  refine AO.nil ?_
  change AC _ _ _ _
  refine AC.seq ?_
  refine AC.draw 8 mixed (by kernel_rfl) ?_
  refine AD.op [1] rfl (by kernel_rfl) rfl rfl (fun _ _ h => AOp.move rfl rfl (ltb rfl) rfl h) ?_
  obtain ⟨x193, q194, h0⟩ := idx_elim h0
  refine AD.op [28] rfl (by kernel_rfl) rfl rfl (fun _ _ h => AOp.indexDs (cells := (List.map keS1 a1)) rfl rfl (ltb rfl) rfl rfl el64 (by decide) q194.1 (lt1 q194.2) h) ?_
  refine AD.op [29] rfl (by kernel_rfl) rfl rfl (fun _ _ h => AOp.loadEp rfl rfl (ltb rfl) rfl agg22 (at1 q194.2) h) ?_
  refine AD.op [0] rfl (by kernel_rfl) rfl rfl (fun _ _ h => AOp.move rfl rfl (ltb rfl) rfl h) ?_
  obtain ⟨x195, q196, h0⟩ := idx_elim h0
  refine AD.op [31] rfl (by kernel_rfl) rfl rfl (fun _ _ h => AOp.indexDs (cells := (List.map keS1 a0)) rfl rfl (ltb rfl) rfl rfl el64 (by decide) q196.1 (lt1 q196.2) h) ?_
  refine AD.op [32] rfl (by kernel_rfl) rfl rfl (fun _ _ h => AOp.loadEp rfl rfl (ltb rfl) rfl agg22 (at1 q196.2) h) ?_
  obtain ⟨z197, q198, h0⟩ := bind_elim h0
  refine AD.op [30, 33] rfl (by kernel_rfl) rfl rfl (fun _ _ h => AOp.farith rfl rfl (ltb rfl) rfl rfl q198 h) ?_
  refine AD.op [34] rfl (by kernel_rfl) rfl rfl (fun _ _ h => AOp.assign rfl rfl (ltb rfl) rfl h) ?_
  refine AD.done ?_
  refine AO.nil ?_
  change AC _ _ _ _
  refine AC.seq ?_
  refine AC.draw 8 mixed (by kernel_rfl) ?_
  refine AD.op [2] rfl (by kernel_rfl) rfl rfl (fun _ _ h => AOp.move rfl rfl (ltb rfl) rfl h) ?_
  obtain ⟨x199, q200, h0⟩ := idx_elim h0
  refine AD.op [35] rfl (by kernel_rfl) rfl rfl (fun _ _ h => AOp.indexDs (cells := (List.map keS1 a2)) rfl rfl (ltb rfl) rfl rfl el64 (by decide) q200.1 (lt1 q200.2) h) ?_
  refine AD.op [36] rfl (by kernel_rfl) rfl rfl (fun _ _ h => AOp.loadEp rfl rfl (ltb rfl) rfl agg22 (at1 q200.2) h) ?_
  refine AD.op [1] rfl (by kernel_rfl) rfl rfl (fun _ _ h => AOp.move rfl rfl (ltb rfl) rfl h) ?_
  obtain ⟨x201, q202, h0⟩ := idx_elim h0
  refine AD.op [38] rfl (by kernel_rfl) rfl rfl (fun _ _ h => AOp.indexDs (cells := (List.map keS1 a1)) rfl rfl (ltb rfl) rfl rfl el64 (by decide) q202.1 (lt1 q202.2) h) ?_
  refine AD.op [39] rfl (by kernel_rfl) rfl rfl (fun _ _ h => AOp.loadEp rfl rfl (ltb rfl) rfl agg22 (at1 q202.2) h) ?_
  obtain ⟨z203, q204, h0⟩ := bind_elim h0
  refine AD.op [37, 40] rfl (by kernel_rfl) rfl rfl (fun _ _ h => AOp.farith rfl rfl (ltb rfl) rfl rfl q204 h) ?_
  refine AD.op [41] rfl (by kernel_rfl) rfl rfl (fun _ _ h => AOp.assign rfl rfl (ltb rfl) rfl h) ?_
  refine AD.done ?_
  refine AO.nil ?_
  change AC _ _ _ _
  refine AC.seq ?_
  refine AC.draw 8 mixed (by kernel_rfl) ?_
  refine AD.op [2] rfl (by kernel_rfl) rfl rfl (fun _ _ h => AOp.move rfl rfl (ltb rfl) rfl h) ?_
  obtain ⟨x205, q206, h0⟩ := idx_elim h0
  refine AD.op [42] rfl (by kernel_rfl) rfl rfl (fun _ _ h => AOp.indexDs (cells := (List.map keS1 a2)) rfl rfl (ltb rfl) rfl rfl el64 (by decide) q206.1 (lt1 q206.2) h) ?_
  refine AD.op [43] rfl (by kernel_rfl) rfl rfl (fun _ _ h => AOp.loadEp rfl rfl (ltb rfl) rfl agg22 (at1 q206.2) h) ?_
  refine AD.op [1] rfl (by kernel_rfl) rfl rfl (fun _ _ h => AOp.move rfl rfl (ltb rfl) rfl h) ?_
  obtain ⟨x207, q208, h0⟩ := idx_elim h0
  refine AD.op [45] rfl (by kernel_rfl) rfl rfl (fun _ _ h => AOp.indexDs (cells := (List.map keS1 a1)) rfl rfl (ltb rfl) rfl rfl el64 (by decide) q208.1 (lt1 q208.2) h) ?_
  refine AD.op [46] rfl (by kernel_rfl) rfl rfl (fun _ _ h => AOp.loadEp rfl rfl (ltb rfl) rfl agg22 (at1 q208.2) h) ?_
  obtain ⟨z209, q210, h0⟩ := bind_elim h0
  refine AD.op [44, 47] rfl (by kernel_rfl) rfl rfl (fun _ _ h => AOp.farith rfl rfl (ltb rfl) rfl rfl q210 h) ?_
  refine AD.op [48] rfl (by kernel_rfl) rfl rfl (fun _ _ h => AOp.assign rfl rfl (ltb rfl) rfl h) ?_
  refine AD.done ?_
  refine AO.nil ?_
  change AC _ _ _ _
  refine AC.seq ?_
  refine AC.region ?_
  refine AO.op rfl (AOp.move rfl rfl (ltb rfl) rfl ?_)
  refine AO.op rfl (AOp.move rfl rfl (ltb rfl) rfl ?_)
  obtain ⟨z211, q212, h0⟩ := bind_elim h0
  refine AO.op rfl (AOp.farith rfl rfl (ltb rfl) rfl rfl q212 ?_)
  refine AO.op rfl (AOp.assign rfl rfl (ltb rfl) rfl ?_)
  refine AO.nil ?_
  change AC _ _ _ _
  refine AC.seq ?_
  refine AC.region ?_
  refine AO.op rfl (AOp.move rfl rfl (ltb rfl) rfl ?_)
  refine AO.op rfl (AOp.move rfl rfl (ltb rfl) rfl ?_)
  obtain ⟨z213, q214, h0⟩ := bind_elim h0
  refine AO.op rfl (AOp.farith rfl rfl (ltb rfl) rfl rfl q214 ?_)
  refine AO.op rfl (AOp.assign rfl rfl (ltb rfl) rfl ?_)
  refine AO.nil ?_
  change AC _ _ _ _
  refine AC.seq ?_
  refine AC.region ?_
  refine AO.op rfl (AOp.move rfl rfl (ltb rfl) rfl ?_)
  refine AO.op rfl (AOp.move rfl rfl (ltb rfl) rfl ?_)
  obtain ⟨z215, q216, h0⟩ := bind_elim h0
  refine AO.op rfl (AOp.farith rfl rfl (ltb rfl) rfl rfl q216 ?_)
  obtain ⟨y217, q218, h0⟩ := bind_elim h0
  refine AO.op rfl (AOp.callD rfl rfl (ltb rfl) rfl rfl (w_orientationBasedOnSign z215 y217 q218) ?_)
  rintro _ rfl
  refine AO.op rfl (AOp.assign rfl rfl (ltb rfl) rfl ?_)
  refine AO.nil ?_
  change AC _ _ _ _
  refine AC.ret ?_
  change RetQ _ _ _ .ret _
  obtain rfl := Option.some.inj h0
  refine retq rfl rfl
 intro g32 h0
 unfold p_OrientationIndex_k1 at h0
 refine AC.seq ?_
 refine AC.region ?_
 refine AO.op rfl (AOp.loadF rfl rfl (ltb rfl) rfl agg22 (by simp [GlobsF]) ?_)
 rintro e33
 refine AO.op rfl (AOp.move rfl rfl (ltb rfl) rfl ?_)
 refine AO.op rfl (AOp.farithA (by simp) rfl rfl (ltb rfl) rfl rfl ?_)
 rintro z34 _
 replace h0 := anyN_at h0 z34
 refine AO.op rfl (AOp.assign rfl rfl (ltb rfl) rfl ?_)
 refine AO.nil ?_
 change AC _ _ _ _
 refine AC.seq ?_
 refine AC.joinP (V := Bool) [10] [79] 1 (fun g35 => [(79, .d (dbool g35))]) (fun g35 => [.frame fr1 [(0, .d (eS1 a0)), (1, .d (eS1 a1)), (2, .d (eS1 a2))]]) (fun g35 => (p_OrientationIndex_k2 a0 a1 a2 z30) g35 = some r0) rfl ?_ ?_
 ·refine AC.region ?_
  refine AO.op rfl (AOp.move rfl rfl (ltb rfl) rfl ?_)
  refine AO.op rfl (AOp.move rfl rfl (ltb rfl) rfl ?_)
  refine AO.op rfl (AOp.fgeq rfl rfl (ltb rfl) rfl rfl ?_)
  refine AO.op rfl (AOp.move rfl rfl (ltb rfl) rfl ?_)
  refine AO.dec (fge z30 z34) (fun q105 => ?_) (fun q105 => ?_)
  ·replace h0 := cT h0 q105
   refine AO.guardN rfl rfl rfl (ltb rfl) rfl q105 ?_
   refine AO.guardN rfl rfl rfl (ltb rfl) rfl q105 ?_
   refine AO.guardN rfl rfl rfl (ltb rfl) rfl q105 ?_
   refine AO.guardN rfl rfl rfl (ltb rfl) rfl q105 ?_
   refine AO.op rfl (AOp.pick rfl rfl (ltb rfl) rfl q105 rfl ?_)
   refine AO.nil ?_
   exact ⟨true, _, rfl, (LeL.refl _), rfl, rfl, h0⟩
  replace h0 := cF h0 q105
  refine AO.guardY rfl rfl rfl q105 (AOp.move rfl rfl (ltb rfl) rfl ?_)
  refine AO.guardY rfl rfl rfl q105 (AOp.fneg rfl rfl (ltb rfl) rfl ?_)
  refine AO.guardY rfl rfl rfl q105 (AOp.move rfl rfl (ltb rfl) rfl ?_)
  refine AO.guardY rfl rfl rfl q105 (AOp.fgeq rfl rfl (ltb rfl) rfl rfl ?_)
  refine AO.op rfl (AOp.pickN rfl rfl (ltb rfl) rfl q105 rfl ?_)
  refine AO.nil ?_
  exact ⟨(fge (fneg z30) z34), _, rfl, (LeL.refl _), rfl, rfl, h0⟩
 intro g35 h0
 unfold p_OrientationIndex_k2 at h0
 refine AC.cond rfl (fun q36 => ?_) (fun q36 => ?_)
 ·replace h0 := cT h0 q36
  refine AC.seq ?_
  refine AC.region ?_
  refine AO.op rfl (AOp.move rfl rfl (ltb rfl) rfl ?_)
  obtain ⟨y37, q38, h0⟩ := bind_elim h0
  refine AO.op rfl (AOp.callD rfl rfl (ltb rfl) rfl rfl (w_orientationBasedOnSign z30 y37 q38) ?_)
  rintro _ rfl
  refine AO.op rfl (AOp.assign rfl rfl (ltb rfl) rfl ?_)
  refine AO.nil ?_
  change AC _ _ _ _
  refine AC.ret ?_
  refine inlret (ob' := [.dead]) (e' := [(0, .d (eS1 a0)), (1, .d (eS1 a1)), (2, .d (eS1 a2))]) (r := .d (di .i64 y37)) rfl rfl rfl ?_
  change AO _ _ _ _ _
  refine AO.op rfl (AOp.assign rfl rfl (ltb rfl) rfl ?_)
  refine AO.nil ?_
  change AC _ _ _ _
  refine AC.seq ?_
  refine AC.seq ?_
  refine AC.region ?_
  refine AO.op rfl (AOp.move rfl rfl (ltb rfl) rfl ?_)
  refine AO.op rfl (AOp.ileq rfl rfl (ltb rfl) rfl rfl ?_)
  refine AO.nil ?_
  change AC _ _ _ _
  refine AC.cond rfl (fun q39 => ?_) (fun q39 => ?_)
  ·replace h0 := cT h0 q39
   refine AC.seq ?_
   refine AC.region ?_
   refine AO.op rfl (AOp.move rfl rfl (ltb rfl) rfl ?_)
   refine AO.op rfl (AOp.assign rfl rfl (ltb rfl) rfl ?_)
   refine AO.nil ?_
   change AC _ _ _ _
   refine AC.ret ?_
   change RetQ _ _ _ .ret _
   obtain rfl := Option.some.inj h0
   refine retq rfl rfl
  replace h0 := cF h0 q39
  refine AC.skip ?_
  change AC _ _ _ _
  refine AC.seq ?_
  refine AC.draw 8 mixed (by kernel_rfl) ?_
  refine AD.op [1] rfl (by kernel_rfl) rfl rfl (fun _ _ h => AOp.move rfl rfl (ltb rfl) rfl h) ?_
  obtain ⟨x40, q41, h0⟩ := idx_elim h0
  refine AD.op [21] rfl (by kernel_rfl) rfl rfl (fun _ _ h => AOp.indexDs (cells := (List.map keS1 a1)) rfl rfl (ltb rfl) rfl rfl el64 (by decide) q41.1 (lt1 q41.2) h) ?_
  refine AD.op [22] rfl (by kernel_rfl) rfl rfl (fun _ _ h => AOp.loadEp rfl rfl (ltb rfl) rfl agg22 (at1 q41.2) h) ?_
  refine AD.op [0] rfl (by kernel_rfl) rfl rfl (fun _ _ h => AOp.move rfl rfl (ltb rfl) rfl h) ?_
  obtain ⟨x42, q43, h0⟩ := idx_elim h0
  refine AD.op [24] rfl (by kernel_rfl) rfl rfl (fun _ _ h => AOp.indexDs (cells := (List.map keS1 a0)) rfl rfl (ltb rfl) rfl rfl el64 (by decide) q43.1 (lt1 q43.2) h) ?_
  refine AD.op [25] rfl (by kernel_rfl) rfl rfl (fun _ _ h => AOp.loadEp rfl rfl (ltb rfl) rfl agg22 (at1 q43.2) h) ?_
  obtain ⟨z44, q45, h0⟩ := bind_elim h0
  refine AD.op [23, 26] rfl (by kernel_rfl) rfl rfl (fun _ _ h => AOp.farith rfl rfl (ltb rfl) rfl rfl q45 h) ?_
  refine AD.op [27] rfl (by kernel_rfl) rfl rfl (fun _ _ h => AOp.assign rfl rfl (ltb rfl) rfl h) ?_
  refine AD.done ?_
  refine AO.nil ?_
  change AC _ _ _ _
  refine AC.seq ?_
  refine AC.draw 8 mixed (by kernel_rfl) ?_
  refine AD.op [1] rfl (by kernel_rfl) rfl rfl (fun _ _ h => AOp.move rfl rfl (ltb rfl) rfl h) ?_
  obtain ⟨x46, q47, h0⟩ := idx_elim h0
  refine AD.op [28] rfl (by kernel_rfl) rfl rfl (fun _ _ h => AOp.indexDs (cells := (List.map keS1 a1)) rfl rfl (ltb rfl) rfl rfl el64 (by decide) q47.1 (lt1 q47.2) h) ?_
  refine AD.op [29] rfl (by kernel_rfl) rfl rfl (fun _ _ h => AOp.loadEp rfl rfl (ltb rfl) rfl agg22 (at1 q47.2) h) ?_
  refine AD.op [0] rfl (by kernel_rfl) rfl rfl (fun _ _ h => AOp.move rfl rfl (ltb rfl) rfl h) ?_
  obtain ⟨x48, q49, h0⟩ := idx_elim h0
  refine AD.op [31] rfl (by kernel_rfl) rfl rfl (fun _ _ h => AOp.indexDs (cells := (List.map keS1 a0)) rfl rfl (ltb rfl) rfl rfl el64 (by decide) q49.1 (lt1 q49.2) h) ?_
  refine AD.op [32] rfl (by kernel_rfl) rfl rfl (fun _ _ h => AOp.loadEp rfl rfl (ltb rfl) rfl agg22 (at1 q49.2) h) ?_
  obtain ⟨z50, q51, h0⟩ := bind_elim h0
  refine AD.op [30, 33] rfl (by kernel_rfl) rfl rfl (fun _ _ h => AOp.farith rfl rfl (ltb rfl) rfl rfl q51 h) ?_
  refine AD.op [34] rfl (by kernel_rfl) rfl rfl (fun _ _ h => AOp.assign rfl rfl (ltb rfl) rfl h) ?_
  refine AD.done ?_
  refine AO.nil ?_
  change AC _ _ _ _
  refine AC.seq ?_
  refine AC.draw 8 mixed (by kernel_rfl) ?_
  refine AD.op [2] rfl (by kernel_rfl) rfl rfl (fun _ _ h => AOp.move rfl rfl (ltb rfl) rfl h) ?_
  obtain ⟨x52, q53, h0⟩ := idx_elim h0
  refine AD.op [35] rfl (by kernel_rfl) rfl rfl (fun _ _ h => AOp.indexDs (cells := (List.map keS1 a2)) rfl rfl (ltb rfl) rfl rfl el64 (by decide) q53.1 (lt1 q53.2) h) ?_
  refine AD.op [36] rfl (by kernel_rfl) rfl rfl (fun _ _ h => AOp.loadEp rfl rfl (ltb rfl) rfl agg22 (at1 q53.2) h) ?_
  refine AD.op [1] rfl (by kernel_rfl) rfl rfl (fun _ _ h => AOp.move rfl rfl (ltb rfl) rfl h) ?_
  obtain ⟨x54, q55, h0⟩ := idx_elim h0
  refine AD.op [38] rfl (by kernel_rfl) rfl rfl (fun _ _ h => AOp.indexDs (cells := (List.map keS1 a1)) rfl rfl (ltb rfl) rfl rfl el64 (by decide) q55.1 (lt1 q55.2) h) ?_
  refine AD.op [39] rfl (by kernel_rfl) rfl rfl (fun _ _ h => AOp.loadEp rfl rfl (ltb rfl) rfl agg22 (at1 q55.2) h) ?_
  obtain ⟨z56, q57, h0⟩ := bind_elim h0
  refine AD.op [37, 40] rfl (by kernel_rfl) rfl rfl (fun _ _ h => AOp.farith rfl rfl (ltb rfl) rfl rfl q57 h) ?_
  refine AD.op [41] rfl (by kernel_rfl) rfl rfl (fun _ _ h => AOp.assign rfl rfl (ltb rfl) rfl h) ?_
  refine AD.done ?_
  refine AO.nil ?_
  change AC _ _ _ _
  refine AC.seq ?_
  refine AC.draw 8 mixed (by kernel_rfl) ?_
  refine AD.op [2] rfl (by kernel_rfl) rfl rfl (fun _ _ h => AOp.move rfl rfl (ltb rfl) rfl h) ?_
  obtain ⟨x58, q59, h0⟩ := idx_elim h0
  refine AD.op [42] rfl (by kernel_rfl) rfl rfl (fun _ _ h => AOp.indexDs (cells := (List.map keS1 a2)) rfl rfl (ltb rfl) rfl rfl el64 (by decide) q59.1 (lt1 q59.2) h) ?_
  refine AD.op [43] rfl (by kernel_rfl) rfl rfl (fun _ _ h => AOp.loadEp rfl rfl (ltb rfl) rfl agg22 (at1 q59.2) h) ?_
  refine AD.op [1] rfl (by kernel_rfl) rfl rfl (fun _ _ h => AOp.move rfl rfl (ltb rfl) rfl h) ?_
  obtain ⟨x60, q61, h0⟩ := idx_elim h0
  refine AD.op [45] rfl (by kernel_rfl) rfl rfl (fun _ _ h => AOp.indexDs (cells := (List.map keS1 a1)) rfl rfl (ltb rfl) rfl rfl el64 (by decide) q61.1 (lt1 q61.2) h) ?_
  refine AD.op [46] rfl (by kernel_rfl) rfl rfl (fun _ _ h => AOp.loadEp rfl rfl (ltb rfl) rfl agg22 (at1 q61.2) h) ?_
  obtain ⟨z62, q63, h0⟩ := bind_elim h0
  refine AD.op [44, 47] rfl (by kernel_rfl) rfl rfl (fun _ _ h => AOp.farith rfl rfl (ltb rfl) rfl rfl q63 h) ?_
  refine AD.op [48] rfl (by kernel_rfl) rfl rfl (fun _ _ h => AOp.assign rfl rfl (ltb rfl) rfl h) ?_
  refine AD.done ?_
  refine AO.nil ?_
  change AC _ _ _ _
  refine AC.seq ?_
  refine AC.region ?_
  refine AO.op rfl (AOp.move rfl rfl (ltb rfl) rfl ?_)
  refine AO.op rfl (AOp.move rfl rfl (ltb rfl) rfl ?_)
  obtain ⟨z64, q65, h0⟩ := bind_elim h0
  refine AO.op rfl (AOp.farith rfl rfl (ltb rfl) rfl rfl q65 ?_)
  refine AO.op rfl (AOp.assign rfl rfl (ltb rfl) rfl ?_)
  refine AO.nil ?_
  change AC _ _ _ _
  refine AC.seq ?_
  refine AC.region ?_
  refine AO.op rfl (AOp.move rfl rfl (ltb rfl) rfl ?_)
  refine AO.op rfl (AOp.move rfl rfl (ltb rfl) rfl ?_)
  obtain ⟨z66, q67, h0⟩ := bind_elim h0
  refine AO.op rfl (AOp.farith rfl rfl (ltb rfl) rfl rfl q67 ?_)
  refine AO.op rfl (AOp.assign rfl rfl (ltb rfl) rfl ?_)
  refine AO.nil ?_
  change AC _ _ _ _
  refine AC.seq ?_
  refine AC.region ?_
  refine AO.op rfl (AOp.move rfl rfl (ltb rfl) rfl ?_)
  refine AO.op rfl (AOp.move rfl rfl (ltb rfl) rfl ?_)
  obtain ⟨z68, q69, h0⟩ := bind_elim h0
  refine AO.op rfl (AOp.farith rfl rfl (ltb rfl) rfl rfl q69 ?_)
  obtain ⟨y70, q71, h0⟩ := bind_elim h0
  refine AO.op rfl (AOp.callD rfl rfl (ltb rfl) rfl rfl (w_orientationBasedOnSign z68 y70 q71) ?_)
  rintro _ rfl
  refine AO.op rfl (AOp.assign rfl rfl (ltb rfl) rfl ?_)
  refine AO.nil ?_
  change AC _ _ _ _
  refine AC.ret ?_
  change RetQ _ _ _ .ret _
  obtain rfl := Option.some.inj h0
  refine retq rfl rfl
 replace h0 := cF h0 q36
 refine AC.skip ?_
 change AC _ _ _ _
 refine AC.seq ?_
 refine AC.region ?_
 refine AO.op rfl (AOp.assign rfl rfl (ltb rfl) rfl ?_)
 refine AO.nil ?_
 change AC _ _ _ _
 refine AC.ret ?_
 refine inlret (ob' := [.dead]) (e' := [(0, .d (eS1 a0)), (1, .d (eS1 a1)), (2, .d (eS1 a2))]) (r := .d (di .i64 (2 : Int))) rfl rfl rfl ?_
 change AO _ _ _ _ _
 refine AO.op rfl (AOp.assign rfl rfl (ltb rfl) rfl ?_)
 refine AO.nil ?_
 change AC _ _ _ _
 refine AC.seq ?_
 refine AC.seq ?_
 refine AC.region ?_
 refine AO.op rfl (AOp.move rfl rfl (ltb rfl) rfl ?_)
 refine AO.op rfl (AOp.ileq rfl rfl (ltb rfl) rfl rfl ?_)
 refine AO.nil ?_
 change AC _ _ _ _
 refine AC.cond rfl (fun q72 => ?_) (fun q72 => ?_)
 ·replace h0 := cT h0 q72
  refine AC.seq ?_
  refine AC.region ?_
  refine AO.op rfl (AOp.move rfl rfl (ltb rfl) rfl ?_)
  refine AO.op rfl (AOp.assign rfl rfl (ltb rfl) rfl ?_)
  refine AO.nil ?_
  change AC _ _ _ _
  refine AC.ret ?_
  change RetQ _ _ _ .ret _
  obtain rfl := Option.some.inj h0
  refine retq rfl rfl
 replace h0 := cF h0 q72
 refine AC.skip ?_
 change AC _ _ _ _
 refine AC.seq ?_
 refine AC.draw 8 mixed (by kernel_rfl) ?_
 refine AD.op [1] rfl (by kernel_rfl) rfl rfl (fun _ _ h => AOp.move rfl rfl (ltb rfl) rfl h) ?_
 obtain ⟨x73, q74, h0⟩ := idx_elim h0
 refine AD.op [21] rfl (by kernel_rfl) rfl rfl (fun _ _ h => AOp.indexDs (cells := (List.map keS1 a1)) rfl rfl (ltb rfl) rfl rfl el64 (by decide) q74.1 (lt1 q74.2) h) ?_
 refine AD.op [22] rfl (by kernel_rfl) rfl rfl (fun _ _ h => AOp.loadEp rfl rfl (ltb rfl) rfl agg22 (at1 q74.2) h) ?_
 refine AD.op [0] rfl (by kernel_rfl) rfl rfl (fun _ _ h => AOp.move rfl rfl (ltb rfl) rfl h) ?_
 obtain ⟨x75, q76, h0⟩ := idx_elim h0
 refine AD.op [24] rfl (by kernel_rfl) rfl rfl (fun _ _ h => AOp.indexDs (cells := (List.map keS1 a0)) rfl rfl (ltb rfl) rfl rfl el64 (by decide) q76.1 (lt1 q76.2) h) ?_
 refine AD.op [25] rfl (by kernel_rfl) rfl rfl (fun _ _ h => AOp.loadEp rfl rfl (ltb rfl) rfl agg22 (at1 q76.2) h) ?_
 obtain ⟨z77, q78, h0⟩ := bind_elim h0
 refine AD.op [23, 26] rfl (by kernel_rfl) rfl rfl (fun _ _ h => AOp.farith rfl rfl (ltb rfl) rfl rfl q78 h) ?_
 refine AD.op [27] rfl (by kernel_rfl) rfl rfl (fun _ _ h => AOp.assign rfl rfl (ltb rfl) rfl h) ?_
 refine AD.done ?_
 refine AO.nil ?_
 change AC _ _ _ _
 refine AC.seq ?_
 refine AC.draw 8 mixed (by kernel_rfl) ?_
 refine AD.op [1] rfl (by kernel_rfl) rfl rfl (fun _ _ h => AOp.move rfl rfl (ltb rfl) rfl h) ?_
 obtain ⟨x79, q80, h0⟩ := idx_elim h0
 refine AD.op [28] rfl (by kernel_rfl) rfl rfl (fun _ _ h => AOp.indexDs (cells := (List.map keS1 a1)) rfl rfl (ltb rfl) rfl rfl el64 (by decide) q80.1 (lt1 q80.2) h) ?_
 refine AD.op [29] rfl (by kernel_rfl) rfl rfl (fun _ _ h => AOp.loadEp rfl rfl (ltb rfl) rfl agg22 (at1 q80.2) h) ?_
 refine AD.op [0] rfl (by kernel_rfl) rfl rfl (fun _ _ h => AOp.move rfl rfl (ltb rfl) rfl h) ?_
 obtain ⟨x81, q82, h0⟩ := idx_elim h0
 refine AD.op [31] rfl (by kernel_rfl) rfl rfl (fun _ _ h => AOp.indexDs (cells := (List.map keS1 a0)) rfl rfl (ltb rfl) rfl rfl el64 (by decide) q82.1 (lt1 q82.2) h) ?_
 refine AD.op [32] rfl (by kernel_rfl) rfl rfl (fun _ _ h => AOp.loadEp rfl rfl (ltb rfl) rfl agg22 (at1 q82.2) h) ?_
 obtain ⟨z83, q84, h0⟩ := bind_elim h0
 refine AD.op [30, 33] rfl (by kernel_rfl) rfl rfl (fun _ _ h => AOp.farith rfl rfl (ltb rfl) rfl rfl q84 h) ?_
 refine AD.op [34] rfl (by kernel_rfl) rfl rfl (fun _ _ h => AOp.assign rfl rfl (ltb rfl) rfl h) ?_
 refine AD.done ?_
 refine AO.nil ?_
 change AC _ _ _ _
 refine AC.seq ?_
 refine AC.draw 8 mixed (by kernel_rfl) ?_
 refine AD.op [2] rfl (by kernel_rfl) rfl rfl (fun _ _ h => AOp.move rfl rfl (ltb rfl) rfl h) ?_
 obtain ⟨x85, q86, h0⟩ := idx_elim h0
 refine AD.op [35] rfl (by kernel_rfl) rfl rfl (fun _ _ h => AOp.indexDs (cells := (List.map keS1 a2)) rfl rfl (ltb rfl) rfl rfl el64 (by decide) q86.1 (lt1 q86.2) h) ?_
 refine AD.op [36] rfl (by kernel_rfl) rfl rfl (fun _ _ h => AOp.loadEp rfl rfl (ltb rfl) rfl agg22 (at1 q86.2) h) ?_
 refine AD.op [1] rfl (by kernel_rfl) rfl rfl (fun _ _ h => AOp.move rfl rfl (ltb rfl) rfl h) ?_
 obtain ⟨x87, q88, h0⟩ := idx_elim h0
 refine AD.op [38] rfl (by kernel_rfl) rfl rfl (fun _ _ h => AOp.indexDs (cells := (List.map keS1 a1)) rfl rfl (ltb rfl) rfl rfl el64 (by decide) q88.1 (lt1 q88.2) h) ?_
 refine AD.op [39] rfl (by kernel_rfl) rfl rfl (fun _ _ h => AOp.loadEp rfl rfl (ltb rfl) rfl agg22 (at1 q88.2) h) ?_
 obtain ⟨z89, q90, h0⟩ := bind_elim h0
 refine AD.op [37, 40] rfl (by kernel_rfl) rfl rfl (fun _ _ h => AOp.farith rfl rfl (ltb rfl) rfl rfl q90 h) ?_
 refine AD.op [41] rfl (by kernel_rfl) rfl rfl (fun _ _ h => AOp.assign rfl rfl (ltb rfl) rfl h) ?_
 refine AD.done ?_
 refine AO.nil ?_
 change AC _ _ _ _
 refine AC.seq ?_
 refine AC.draw 8 mixed (by kernel_rfl) ?_
 refine AD.op [2] rfl (by kernel_rfl) rfl rfl (fun _ _ h => AOp.move rfl rfl (ltb rfl) rfl h) ?_
 obtain ⟨x91, q92, h0⟩ := idx_elim h0
 refine AD.op [42] rfl (by kernel_rfl) rfl rfl (fun _ _ h => AOp.indexDs (cells := (List.map keS1 a2)) rfl rfl (ltb rfl) rfl rfl el64 (by decide) q92.1 (lt1 q92.2) h) ?_
 refine AD.op [43] rfl (by kernel_rfl) rfl rfl (fun _ _ h => AOp.loadEp rfl rfl (ltb rfl) rfl agg22 (at1 q92.2) h) ?_
 refine AD.op [1] rfl (by kernel_rfl) rfl rfl (fun _ _ h => AOp.move rfl rfl (ltb rfl) rfl h) ?_
 obtain ⟨x93, q94, h0⟩ := idx_elim h0
 refine AD.op [45] rfl (by kernel_rfl) rfl rfl (fun _ _ h => AOp.indexDs (cells := (List.map keS1 a1)) rfl rfl (ltb rfl) rfl rfl el64 (by decide) q94.1 (lt1 q94.2) h) ?_
 refine AD.op [46] rfl (by kernel_rfl) rfl rfl (fun _ _ h => AOp.loadEp rfl rfl (ltb rfl) rfl agg22 (at1 q94.2) h) ?_
 obtain ⟨z95, q96, h0⟩ := bind_elim h0
 refine AD.op [44, 47] rfl (by kernel_rfl) rfl rfl (fun _ _ h => AOp.farith rfl rfl (ltb rfl) rfl rfl q96 h) ?_
 refine AD.op [48] rfl (by kernel_rfl) rfl rfl (fun _ _ h => AOp.assign rfl rfl (ltb rfl) rfl h) ?_
 refine AD.done ?_
 refine AO.nil ?_
 change AC _ _ _ _
 refine AC.seq ?_
 refine AC.region ?_
 refine AO.op rfl (AOp.move rfl rfl (ltb rfl) rfl ?_)
 refine AO.op rfl (AOp.move rfl rfl (ltb rfl) rfl ?_)
 obtain ⟨z97, q98, h0⟩ := bind_elim h0
 refine AO.op rfl (AOp.farith rfl rfl (ltb rfl) rfl rfl q98 ?_)
 refine AO.op rfl (AOp.assign rfl rfl (ltb rfl) rfl ?_)
 refine AO.nil ?_
 change AC _ _ _ _
 refine AC.seq ?_
 refine AC.region ?_
 refine AO.op rfl (AOp.move rfl rfl (ltb rfl) rfl ?_)
 refine AO.op rfl (AOp.move rfl rfl (ltb rfl) rfl ?_)
 obtain ⟨z99, q100, h0⟩ := bind_elim h0
 refine AO.op rfl (AOp.farith rfl rfl (ltb rfl) rfl rfl q100 ?_)
 refine AO.op rfl (AOp.assign rfl rfl (ltb rfl) rfl ?_)
 refine AO.nil ?_
 change AC _ _ _ _
 refine AC.seq ?_
 refine AC.region ?_
 refine AO.op rfl (AOp.move rfl rfl (ltb rfl) rfl ?_)
 refine AO.op rfl (AOp.move rfl rfl (ltb rfl) rfl ?_)
 obtain ⟨z101, q102, h0⟩ := bind_elim h0
 refine AO.op rfl (AOp.farith rfl rfl (ltb rfl) rfl rfl q102 ?_)
 obtain ⟨y103, q104, h0⟩ := bind_elim h0
 refine AO.op rfl (AOp.callD rfl rfl (ltb rfl) rfl rfl (w_orientationBasedOnSign z101 y103 q104) ?_)
 rintro _ rfl
 refine AO.op rfl (AOp.assign rfl rfl (ltb rfl) rfl ?_)
 refine AO.nil ?_
 change AC _ _ _ _
 refine AC.ret ?_
 change RetQ _ _ _ .ret _
 obtain rfl := Option.some.inj h0
 refine retq rfl rfl

set_option maxRecDepth 100000 in
set_option maxHeartbeats 4000000 in
/-- math.IsNaN -/
theorem w_IsNaN (a0 : Nat) (r0 : Bool) (h0 : p_IsNaN a0 = some r0) : FnD Tryz.prog 67 [dfl a0] (fun r => r = dbool r0) := by
 refine FnD.of (by kernel_rfl) Tryz.func67 rfl Tryz.ntmps67 rfl (leb rfl) fun W ok => ?_
 unfold p_IsNaN at h0
 refine AC.seq ?_
 refine AC.region ?_
 refine AO.op rfl (AOp.assign rfl rfl (ltb rfl) rfl ?_)
 refine AO.nil ?_
 change AC _ _ _ _
 refine AC.seq ?_
 refine AC.region ?_
 refine AO.op rfl (AOp.move rfl rfl (ltb rfl) rfl ?_)
 refine AO.op rfl (AOp.move rfl rfl (ltb rfl) rfl ?_)
 refine AO.op rfl (AOp.fneq rfl rfl (ltb rfl) rfl rfl ?_)
 refine AO.op rfl (AOp.assign rfl rfl (ltb rfl) rfl ?_)
 refine AO.nil ?_
 change AC _ _ _ _
 refine AC.ret ?_
 change RetQ _ _ _ .ret _
 obtain rfl := Option.some.inj h0
 refine retq rfl rfl

set_option maxRecDepth 100000 in
set_option maxHeartbeats 4000000 in
/-- math.IsInf -/
theorem w_IsInf (a0 : Nat) (a1 : Int) (r0 : Bool) (h0 : p_IsInf a0 a1 = some r0) : FnD Tryz.prog 65 [dfl a0, di .i64 a1] (fun r => r = dbool r0) := by
 refine FnD.of (by kernel_rfl) Tryz.func65 rfl Tryz.ntmps65 rfl (leb rfl) fun W ok => ?_
 unfold p_IsInf at h0
 refine AC.seq ?_
 refine AC.region ?_
 refine AO.op rfl (AOp.assign rfl rfl (ltb rfl) rfl ?_)
 refine AO.nil ?_
 change AC _ _ _ _
 refine AC.seq ?_
 refine AC.seq ?_
 refine AC.region ?_
 refine AO.op rfl (AOp.move rfl rfl (ltb rfl) rfl ?_)
 refine AO.op rfl (AOp.ieql rfl rfl (ltb rfl) rfl rfl ?_)
 refine AO.nil ?_
 change AC _ _ _ _
 refine AC.cond rfl (fun q1 => ?_) (fun q1 => ?_)
 ·replace h0 := cT h0 q1
  refine AC.region ?_
  refine AO.op rfl (AOp.move rfl rfl (ltb rfl) rfl ?_)
  refine AO.op rfl (AOp.callD rfl rfl (ltb rfl) rfl rfl (mathAbs a0) ?_)
  rintro _ rfl
  refine AO.op rfl (AOp.assign rfl rfl (ltb rfl) rfl ?_)
  refine AO.nil ?_
  change AC _ _ _ _
  refine AC.seq ?_
  refine AC.region ?_
  refine AO.op rfl (AOp.move rfl rfl (ltb rfl) rfl ?_)
  refine AO.op rfl (AOp.fgtr rfl rfl (ltb rfl) rfl rfl ?_)
  refine AO.op rfl (AOp.assign rfl rfl (ltb rfl) rfl ?_)
  refine AO.nil ?_
  change AC _ _ _ _
  refine AC.ret ?_
  change RetQ _ _ _ .ret _
  obtain rfl := Option.some.inj h0
  refine retq rfl rfl
 replace h0 := cF h0 q1
 refine AC.seq ?_
 refine AC.region ?_
 refine AO.op rfl (AOp.move rfl rfl (ltb rfl) rfl ?_)
 refine AO.op rfl (AOp.ilss rfl rfl (ltb rfl) rfl rfl ?_)
 refine AO.nil ?_
 change AC _ _ _ _
 refine AC.cond rfl (fun q2 => ?_) (fun q2 => ?_)
 ·replace h0 := cT h0 q2
  refine AC.region ?_
  refine AO.op rfl (AOp.move rfl rfl (ltb rfl) rfl ?_)
  refine AO.op rfl (AOp.fneg rfl rfl (ltb rfl) rfl ?_)
  refine AO.op rfl (AOp.assign rfl rfl (ltb rfl) rfl ?_)
  refine AO.nil ?_
  change AC _ _ _ _
  refine AC.seq ?_
  refine AC.region ?_
  refine AO.op rfl (AOp.move rfl rfl (ltb rfl) rfl ?_)
  refine AO.op rfl (AOp.fgtr rfl rfl (ltb rfl) rfl rfl ?_)
  refine AO.op rfl (AOp.assign rfl rfl (ltb rfl) rfl ?_)
  refine AO.nil ?_
  change AC _ _ _ _
  refine AC.ret ?_
  change RetQ _ _ _ .ret _
  obtain rfl := Option.some.inj h0
  refine retq rfl rfl
 replace h0 := cF h0 q2
 refine AC.skip ?_
 change AC _ _ _ _
 refine AC.seq ?_
 refine AC.region ?_
 refine AO.op rfl (AOp.move rfl rfl (ltb rfl) rfl ?_)
 refine AO.op rfl (AOp.fgtr rfl rfl (ltb rfl) rfl rfl ?_)
 refine AO.op rfl (AOp.assign rfl rfl (ltb rfl) rfl ?_)
 refine AO.nil ?_
 change AC _ _ _ _
 refine AC.ret ?_
 change RetQ _ _ _ .ret _
 obtain rfl := Option.some.inj h0
 refine retq rfl rfl

set_option maxRecDepth 100000 in
set_option maxHeartbeats 4000000 in
/-- pub-orthodrome/pub/gogeom/xy/inner.IsPointWithinLineBounds -/
theorem w_IsPointWithinLineBounds (a0 : (List Nat)) (a1 : (List Nat)) (a2 : (List Nat)) (r0 : Bool) (h0 : p_IsPointWithinLineBounds a0 a1 a2 = some r0) : FnD Tryz.prog 47 [eS1 a0, eS1 a1, eS1 a2] (fun r => r = dbool r0) := by
 refine FnD.of (by kernel_rfl) Tryz.func47 rfl Tryz.ntmps47 rfl (leb rfl) fun W ok => ?_
 unfold p_IsPointWithinLineBounds at h0
 refine AC.seq ?_
 refine AC.region ?_
 refine AO.op rfl (AOp.assign rfl rfl (ltb rfl) rfl ?_)
 refine AO.nil ?_
 change AC _ _ _ _
 refine AC.seq ?_
 refine AC.draw 8 mixed (by kernel_rfl) ?_
 refine AD.op [1] rfl (by kernel_rfl) rfl rfl (fun _ _ h => AOp.move rfl rfl (ltb rfl) rfl h) ?_
 obtain ⟨x1, q2, h0⟩ := idx_elim h0
 refine AD.op [11] rfl (by kernel_rfl) rfl rfl (fun _ _ h => AOp.indexDs (cells := (List.map keS1 a1)) rfl rfl (ltb rfl) rfl rfl el64 (by decide) q2.1 (lt1 q2.2) h) ?_
 refine AD.op [12] rfl (by kernel_rfl) rfl rfl (fun _ _ h => AOp.loadEp rfl rfl (ltb rfl) rfl agg22 (at1 q2.2) h) ?_
 refine AD.op [2] rfl (by kernel_rfl) rfl rfl (fun _ _ h => AOp.move rfl rfl (ltb rfl) rfl h) ?_
 obtain ⟨x3, q4, h0⟩ := idx_elim h0
 refine AD.op [14] rfl (by kernel_rfl) rfl rfl (fun _ _ h => AOp.indexDs (cells := (List.map keS1 a2)) rfl rfl (ltb rfl) rfl rfl el64 (by decide) q4.1 (lt1 q4.2) h) ?_
 refine AD.op [15] rfl (by kernel_rfl) rfl rfl (fun _ _ h => AOp.loadEp rfl rfl (ltb rfl) rfl agg22 (at1 q4.2) h) ?_
 refine AD.op [13, 16] rfl (by kernel_rfl) rfl rfl (fun _ _ h => AOp.callD rfl rfl (ltb rfl) rfl rfl (mathMin x1 x3) (by rintro _ rfl; exact h)) ?_
 refine AD.op [17] rfl (by kernel_rfl) rfl rfl (fun _ _ h => AOp.assign rfl rfl (ltb rfl) rfl h) ?_
 refine AD.done ?_
 refine AO.nil ?_
 change AC _ _ _ _
 refine AC.seq ?_
 refine AC.draw 8 mixed (by kernel_rfl) ?_
 refine AD.op [1] rfl (by kernel_rfl) rfl rfl (fun _ _ h => AOp.move rfl rfl (ltb rfl) rfl h) ?_
 obtain ⟨x5, q6, h0⟩ := idx_elim h0
 refine AD.op [18] rfl (by kernel_rfl) rfl rfl (fun _ _ h => AOp.indexDs (cells := (List.map keS1 a1)) rfl rfl (ltb rfl) rfl rfl el64 (by decide) q6.1 (lt1 q6.2) h) ?_
 refine AD.op [19] rfl (by kernel_rfl) rfl rfl (fun _ _ h => AOp.loadEp rfl rfl (ltb rfl) rfl agg22 (at1 q6.2) h) ?_
 refine AD.op [2] rfl (by kernel_rfl) rfl rfl (fun _ _ h => AOp.move rfl rfl (ltb rfl) rfl h) ?_
 obtain ⟨x7, q8, h0⟩ := idx_elim h0
 refine AD.op [21] rfl (by kernel_rfl) rfl rfl (fun _ _ h => AOp.indexDs (cells := (List.map keS1 a2)) rfl rfl (ltb rfl) rfl rfl el64 (by decide) q8.1 (lt1 q8.2) h) ?_
 refine AD.op [22] rfl (by kernel_rfl) rfl rfl (fun _ _ h => AOp.loadEp rfl rfl (ltb rfl) rfl agg22 (at1 q8.2) h) ?_
 refine AD.op [20, 23] rfl (by kernel_rfl) rfl rfl (fun _ _ h => AOp.callD rfl rfl (ltb rfl) rfl rfl (mathMax x5 x7) (by rintro _ rfl; exact h)) ?_
 refine AD.op [24] rfl (by kernel_rfl) rfl rfl (fun _ _ h => AOp.assign rfl rfl (ltb rfl) rfl h) ?_
 refine AD.done ?_
 refine AO.nil ?_
 change AC _ _ _ _
 refine AC.seq ?_
 refine AC.draw 8 mixed (by kernel_rfl) ?_
 refine AD.op [1] rfl (by kernel_rfl) rfl rfl (fun _ _ h => AOp.move rfl rfl (ltb rfl) rfl h) ?_
 obtain ⟨x9, q10, h0⟩ := idx_elim h0
 refine AD.op [25] rfl (by kernel_rfl) rfl rfl (fun _ _ h => AOp.indexDs (cells := (List.map keS1 a1)) rfl rfl (ltb rfl) rfl rfl el64 (by decide) q10.1 (lt1 q10.2) h) ?_
 refine AD.op [26] rfl (by kernel_rfl) rfl rfl (fun _ _ h => AOp.loadEp rfl rfl (ltb rfl) rfl agg22 (at1 q10.2) h) ?_
 refine AD.op [2] rfl (by kernel_rfl) rfl rfl (fun _ _ h => AOp.move rfl rfl (ltb rfl) rfl h) ?_
 obtain ⟨x11, q12, h0⟩ := idx_elim h0
 refine AD.op [28] rfl (by kernel_rfl) rfl rfl (fun _ _ h => AOp.indexDs (cells := (List.map keS1 a2)) rfl rfl (ltb rfl) rfl rfl el64 (by decide) q12.1 (lt1 q12.2) h) ?_
 refine AD.op [29] rfl (by kernel_rfl) rfl rfl (fun _ _ h => AOp.loadEp rfl rfl (ltb rfl) rfl agg22 (at1 q12.2) h) ?_
 refine AD.op [27, 30] rfl (by kernel_rfl) rfl rfl (fun _ _ h => AOp.callD rfl rfl (ltb rfl) rfl rfl (mathMin x9 x11) (by rintro _ rfl; exact h)) ?_
 refine AD.op [31] rfl (by kernel_rfl) rfl rfl (fun _ _ h => AOp.assign rfl rfl (ltb rfl) rfl h) ?_
 refine AD.done ?_
 refine AO.nil ?_
 change AC _ _ _ _
 refine AC.seq ?_
 refine AC.draw 8 mixed (by kernel_rfl) ?_
 refine AD.op [1] rfl (by kernel_rfl) rfl rfl (fun _ _ h => AOp.move rfl rfl (ltb rfl) rfl h) ?_
 obtain ⟨x13, q14, h0⟩ := idx_elim h0
 refine AD.op [32] rfl (by kernel_rfl) rfl rfl (fun _ _ h => AOp.indexDs (cells := (List.map keS1 a1)) rfl rfl (ltb rfl) rfl rfl el64 (by decide) q14.1 (lt1 q14.2) h) ?_
 refine AD.op [33] rfl (by kernel_rfl) rfl rfl (fun _ _ h => AOp.loadEp rfl rfl (ltb rfl) rfl agg22 (at1 q14.2) h) ?_
 refine AD.op [2] rfl (by kernel_rfl) rfl rfl (fun _ _ h => AOp.move rfl rfl (ltb rfl) rfl h) ?_
 obtain ⟨x15, q16, h0⟩ := idx_elim h0
 refine AD.op [35] rfl (by kernel_rfl) rfl rfl (fun _ _ h => AOp.indexDs (cells := (List.map keS1 a2)) rfl rfl (ltb rfl) rfl rfl el64 (by decide) q16.1 (lt1 q16.2) h) ?_
 refine AD.op [36] rfl (by kernel_rfl) rfl rfl (fun _ _ h => AOp.loadEp rfl rfl (ltb rfl) rfl agg22 (at1 q16.2) h) ?_
 refine AD.op [34, 37] rfl (by kernel_rfl) rfl rfl (fun _ _ h => AOp.callD rfl rfl (ltb rfl) rfl rfl (mathMax x13 x15) (by rintro _ rfl; exact h)) ?_
 refine AD.op [38] rfl (by kernel_rfl) rfl rfl (fun _ _ h => AOp.assign rfl rfl (ltb rfl) rfl h) ?_
 refine AD.done ?_
 refine AO.nil ?_
 change AC _ _ _ _
 refine AC.seq ?_
 refine AC.region ?_
 refine AO.op rfl (AOp.move rfl rfl (ltb rfl) rfl ?_)
 refine AO.op rfl (AOp.move rfl rfl (ltb rfl) rfl ?_)
 obtain ⟨x17, q18, h0⟩ := idx_elim h0
 refine AO.op rfl (AOp.indexDs (cells := (List.map keS1 a0)) rfl rfl (ltb rfl) rfl rfl el64 (by decide) q18.1 (lt1 q18.2) ?_)
 refine AO.op rfl (AOp.loadEp rfl rfl (ltb rfl) rfl agg22 (at1 q18.2) ?_)
 refine AO.op rfl (AOp.fleq rfl rfl (ltb rfl) rfl rfl ?_)
 refine AO.op rfl (AOp.move rfl rfl (ltb rfl) rfl ?_)
 refine AO.dec (fle (Flt.amin x1 x3) x17) (fun q19 => ?_) (fun q19 => ?_)
 ·replace h0 := cT h0 q19
  refine AO.guardY rfl rfl rfl q19 (AOp.move rfl rfl (ltb rfl) rfl ?_)
  refine AO.guardY rfl rfl rfl q19 (AOp.move rfl rfl (ltb rfl) rfl ?_)
  obtain ⟨x20, q21, h0⟩ := idx_elim h0
  refine AO.guardY rfl rfl rfl q19 (AOp.indexDs (cells := (List.map keS1 a0)) rfl rfl (ltb rfl) rfl rfl el64 (by decide) q21.1 (lt1 q21.2) ?_)
  refine AO.guardY rfl rfl rfl q19 (AOp.loadEp rfl rfl (ltb rfl) rfl agg22 (at1 q21.2) ?_)
  refine AO.guardY rfl rfl rfl q19 (AOp.fgeq rfl rfl (ltb rfl) rfl rfl ?_)
  refine AO.op rfl (AOp.pick rfl rfl (ltb rfl) rfl q19 rfl ?_)
  refine AO.op rfl (AOp.move rfl rfl (ltb rfl) rfl ?_)
  refine AO.dec (fge (Flt.amax x5 x7) x20) (fun q22 => ?_) (fun q22 => ?_)
  ·replace h0 := cT h0 q22
   refine AO.guardY rfl rfl rfl q22 (AOp.move rfl rfl (ltb rfl) rfl ?_)
   refine AO.guardY rfl rfl rfl q22 (AOp.move rfl rfl (ltb rfl) rfl ?_)
   obtain ⟨x23, q24, h0⟩ := idx_elim h0
   refine AO.guardY rfl rfl rfl q22 (AOp.indexDs (cells := (List.map keS1 a0)) rfl rfl (ltb rfl) rfl rfl el64 (by decide) q24.1 (lt1 q24.2) ?_)
   refine AO.guardY rfl rfl rfl q22 (AOp.loadEp rfl rfl (ltb rfl) rfl agg22 (at1 q24.2) ?_)
   refine AO.guardY rfl rfl rfl q22 (AOp.fleq rfl rfl (ltb rfl) rfl rfl ?_)
   refine AO.op rfl (AOp.pick rfl rfl (ltb rfl) rfl q22 rfl ?_)
   refine AO.op rfl (AOp.move rfl rfl (ltb rfl) rfl ?_)
   refine AO.dec (fle (Flt.amin x9 x11) x23) (fun q25 => ?_) (fun q25 => ?_)
   ·replace h0 := cT h0 q25
    refine AO.guardY rfl rfl rfl q25 (AOp.move rfl rfl (ltb rfl) rfl ?_)
    refine AO.guardY rfl rfl rfl q25 (AOp.move rfl rfl (ltb rfl) rfl ?_)
    obtain ⟨x26, q27, h0⟩ := idx_elim h0
    refine AO.guardY rfl rfl rfl q25 (AOp.indexDs (cells := (List.map keS1 a0)) rfl rfl (ltb rfl) rfl rfl el64 (by decide) q27.1 (lt1 q27.2) ?_)
    refine AO.guardY rfl rfl rfl q25 (AOp.loadEp rfl rfl (ltb rfl) rfl agg22 (at1 q27.2) ?_)
    refine AO.guardY rfl rfl rfl q25 (AOp.fgeq rfl rfl (ltb rfl) rfl rfl ?_)
    refine AO.op rfl (AOp.pick rfl rfl (ltb rfl) rfl q25 rfl ?_)
    refine AO.op rfl (AOp.assign rfl rfl (ltb rfl) rfl ?_)
    refine AO.nil ?_
    change AC _ _ _ _
    refine AC.ret ?_
    change RetQ _ _ _ .ret _
    obtain rfl := Option.some.inj h0
    refine retq rfl rfl
   replace h0 := cF h0 q25
   refine AO.guardN rfl rfl rfl (ltb rfl) rfl q25 ?_
   refine AO.guardN rfl rfl rfl (ltb rfl) rfl q25 ?_
   refine AO.guardN rfl rfl rfl (ltb rfl) rfl q25 ?_
   refine AO.guardN rfl rfl rfl (ltb rfl) rfl q25 ?_
   refine AO.guardN rfl rfl rfl (ltb rfl) rfl q25 ?_
   refine AO.op rfl (AOp.pickN rfl rfl (ltb rfl) rfl q25 rfl ?_)
   refine AO.op rfl (AOp.assign rfl rfl (ltb rfl) rfl ?_)
   refine AO.nil ?_
   change AC _ _ _ _
   refine AC.ret ?_
   change RetQ _ _ _ .ret _
   obtain rfl := Option.some.inj h0
   refine retq rfl rfl
  replace h0 := cF h0 q22
  refine AO.guardN rfl rfl rfl (ltb rfl) rfl q22 ?_
  refine AO.guardN rfl rfl rfl (ltb rfl) rfl q22 ?_
  refine AO.guardN rfl rfl rfl (ltb rfl) rfl q22 ?_
  refine AO.guardN rfl rfl rfl (ltb rfl) rfl q22 ?_
  refine AO.guardN rfl rfl rfl (ltb rfl) rfl q22 ?_
  refine AO.op rfl (AOp.pickN rfl rfl (ltb rfl) rfl q22 rfl ?_)
  refine AO.op rfl (AOp.move rfl rfl (ltb rfl) rfl ?_)
  refine AO.guardN rfl rfl rfl (ltb rfl) rfl rfl ?_
  refine AO.guardN rfl rfl rfl (ltb rfl) rfl rfl ?_
  refine AO.guardN rfl rfl rfl (ltb rfl) rfl rfl ?_
  refine AO.guardN rfl rfl rfl (ltb rfl) rfl rfl ?_
  refine AO.guardN rfl rfl rfl (ltb rfl) rfl rfl ?_
  refine AO.op rfl (AOp.pickN rfl rfl (ltb rfl) rfl rfl rfl ?_)
  refine AO.op rfl (AOp.assign rfl rfl (ltb rfl) rfl ?_)
  refine AO.nil ?_
  change AC _ _ _ _
  refine AC.ret ?_
  change RetQ _ _ _ .ret _
  obtain rfl := Option.some.inj h0
  refine retq rfl rfl
 replace h0 := cF h0 q19
 refine AO.guardN rfl rfl rfl (ltb rfl) rfl q19 ?_
 refine AO.guardN rfl rfl rfl (ltb rfl) rfl q19 ?_
 refine AO.guardN rfl rfl rfl (ltb rfl) rfl q19 ?_
 refine AO.guardN rfl rfl rfl (ltb rfl) rfl q19 ?_
 refine AO.guardN rfl rfl rfl (ltb rfl) rfl q19 ?_
 refine AO.op rfl (AOp.pickN rfl rfl (ltb rfl) rfl q19 rfl ?_)
 refine AO.op rfl (AOp.move rfl rfl (ltb rfl) rfl ?_)
 refine AO.guardN rfl rfl rfl (ltb rfl) rfl rfl ?_
 refine AO.guardN rfl rfl rfl (ltb rfl) rfl rfl ?_
 refine AO.guardN rfl rfl rfl (ltb rfl) rfl rfl ?_
 refine AO.guardN rfl rfl rfl (ltb rfl) rfl rfl ?_
 refine AO.guardN rfl rfl rfl (ltb rfl) rfl rfl ?_
 refine AO.op rfl (AOp.pickN rfl rfl (ltb rfl) rfl rfl rfl ?_)
 refine AO.op rfl (AOp.move rfl rfl (ltb rfl) rfl ?_)
 refine AO.guardN rfl rfl rfl (ltb rfl) rfl rfl ?_
 refine AO.guardN rfl rfl rfl (ltb rfl) rfl rfl ?_
 refine AO.guardN rfl rfl rfl (ltb rfl) rfl rfl ?_
 refine AO.guardN rfl rfl rfl (ltb rfl) rfl rfl ?_
 refine AO.guardN rfl rfl rfl (ltb rfl) rfl rfl ?_
 refine AO.op rfl (AOp.pickN rfl rfl (ltb rfl) rfl rfl rfl ?_)
 refine AO.op rfl (AOp.assign rfl rfl (ltb rfl) rfl ?_)
 refine AO.nil ?_
 change AC _ _ _ _
 refine AC.ret ?_
 change RetQ _ _ _ .ret _
 obtain rfl := Option.some.inj h0
 refine retq rfl rfl

set_option maxRecDepth 100000 in
set_option maxHeartbeats 4000000 in
/-- pub-orthodrome/pub/gogeom/xy/lineintersector.intersection -/
theorem wh_intersection (a0 : (List Nat)) (a1 : (List Nat)) (a2 : (List Nat)) (a3 : (List Nat)) (b0 : (List Nat)) (b1 : (List Nat)) (b2 : (List Nat)) (b3 : (List Nat)) (b4 : (List Nat)) (b5 : (List Nat)) (b6 : Int) (b7 : Bool) (b8 : (List Nat)) (b9 : (List Nat)) (r0 : (List Nat)) (h0 : p_intersection a0 a1 a2 a3 b0 b1 b2 b3 b4 b5 b6 b7 b8 b9 = some r0) : FnH Tryz.prog 95 [.ptr 0 0, .d (eS1 a0), .d (eS1 a1), .d (eS1 a2), .d (eS1 a3)] [.fix 83 [.d (eS1 b0), .d (eS1 b1), .d (eS1 b2), .d (eS1 b3), .d (eS1 b4), .d (eS1 b5), .d (di .i64 b6), .d (dbool b7), .d (eS1 b8), .d (eS1 b9), .d (.ifc 87 (.ag []))]] [0] (fun r post => r = .d (eS1 r0) ∧ post = [.fix 83 [.d (eS1 b0), .d (eS1 b1), .d (eS1 b2), .d (eS1 b3), .d (eS1 b4), .d (eS1 b5), .d (di .i64 b6), .d (dbool b7), .d (eS1 b8), .d (eS1 b9), .d (.ifc 87 (.ag []))]]) := by
 refine FnH.of (by kernel_rfl) Tryz.func95 rfl Tryz.ntmps95 rfl (leb rfl) fun W ok may pv => ?_
 unfold p_intersection at h0
 refine AC.seq ?_
 refine AC.region ?_
 refine AO.op rfl (AOp.assign rfl rfl (ltb rfl) rfl ?_)
 refine AO.nil ?_
 change AC _ _ _ _
 refine AC.seq ?_
 refine AC.region ?_
 refine AO.op rfl (AOp.move rfl rfl (ltb rfl) rfl ?_)
 refine AO.op rfl (AOp.move rfl rfl (ltb rfl) rfl ?_)
 refine AO.op rfl (AOp.move rfl rfl (ltb rfl) rfl ?_)
 refine AO.op rfl (AOp.move rfl rfl (ltb rfl) rfl ?_)
 refine AO.op rfl (AOp.inl [0, 1, 2, 3, 4] (by kernel_rfl) Tryz.func99 rfl Tryz.ntmps99 rfl rfl (ltb rfl) rfl (leb rfl) rfl ?_)
 intro fr1
 refine AC.seq ?_
 refine AC.region ?_
 refine AO.op rfl (AOp.assign rfl rfl (ltb rfl) rfl ?_)
 refine AO.nil ?_
 change AC _ _ _ _
 refine AC.seq ?_
 refine AC.region ?_
 obtain ⟨q2, h0⟩ := need_elim h0
 refine AO.op rfl (AOp.makeL (f := fun z => SV.d (keS1 z)) (z0 := (0 : Nat)) rfl rfl (ltb rfl) rfl rfl el64 info22 rfl rfl (by decide) q2.1 q2.2 rfl ?_)
 refine AO.op rfl (AOp.assign rfl rfl (ltb rfl) rfl ?_)
 refine AO.nil ?_
 change AC _ _ _ _
 refine AC.seq ?_
 refine AC.region ?_
 obtain ⟨q3, h0⟩ := need_elim h0
 refine AO.op rfl (AOp.makeL (f := fun z => SV.d (keS1 z)) (z0 := (0 : Nat)) rfl rfl (ltb rfl) rfl rfl el64 info22 rfl rfl (by decide) q3.1 q3.2 rfl ?_)
 refine AO.op rfl (AOp.assign rfl rfl (ltb rfl) rfl ?_)
 refine AO.nil ?_
 change AC _ _ _ _
 refine AC.seq ?_
 refine AC.region ?_
 obtain ⟨q4, h0⟩ := need_elim h0
 refine AO.op rfl (AOp.makeL (f := fun z => SV.d (keS1 z)) (z0 := (0 : Nat)) rfl rfl (ltb rfl) rfl rfl el64 info22 rfl rfl (by decide) q4.1 q4.2 rfl ?_)
 refine AO.op rfl (AOp.assign rfl rfl (ltb rfl) rfl ?_)
 refine AO.objs (obs' := [.fix 83 [.d (eS1 b0), .d (eS1 b1), .d (eS1 b2), .d (eS1 b3), .d (eS1 b4), .d (eS1 b5), .d (di .i64 b6), .d (dbool b7), .d (eS1 b8), .d (eS1 b9), .d (.ifc 87 (.ag []))], .frame pv [(0, .ptr 0 0)], .frame fr1 [(0, .ptr 0 0), (1, .d (eS1 a0)), (2, .d (eS1 a1)), (3, .d (eS1 a2)), (4, .d (eS1 a3))], .fix 22 (List.map (fun z => SV.d (keS1 z)) (List.replicate ((2 : Int)).toNat (0 : Nat))), .fix 22 (List.map (fun z => SV.d (keS1 z)) (List.replicate ((2 : Int)).toNat (0 : Nat))), .fix 22 (List.map (fun z => SV.d (keS1 z)) (List.replicate ((2 : Int)).toNat (0 : Nat)))]) rfl ?_
 refine AO.nil ?_
 change AC _ _ _ _
 refine AC.seq ?_
 refine AC.region ?_
 obtain ⟨q5, h0⟩ := need_elim h0
 refine AO.op rfl (AOp.makeL (f := fun z => SV.d (keS1 z)) (z0 := (0 : Nat)) rfl rfl (ltb rfl) rfl rfl el64 info22 rfl rfl (by decide) q5.1 q5.2 rfl ?_)
 refine AO.op rfl (AOp.assign rfl rfl (ltb rfl) rfl ?_)
 refine AO.nil ?_
 change AC _ _ _ _
 refine AC.seq ?_
 refine AC.region ?_
 refine AO.op rfl (AOp.move rfl rfl (ltb rfl) rfl ?_)
 refine AO.op rfl (AOp.move rfl rfl (ltb rfl) rfl ?_)
 obtain ⟨q6, h0⟩ := need_elim h0
 obtain ⟨c7, q8, h0⟩ := bind_elim h0
 refine AO.op rfl (AOp.copyL2 (k := keS1) (l := (List.replicate ((2 : Int)).toNat (0 : Nat))) (l2 := a0) (m := (min a0.length (List.replicate ((2 : Int)).toNat (0 : Nat)).length)) rfl rfl (ltb rfl) rfl rfl el64 rfl q6 (fun _ => rfl) rfl (Option.some.inj q8) ?_)
 refine AO.nil ?_
 change AC _ _ _ _
 refine AC.seq ?_
 refine AC.region ?_
 refine AO.op rfl (AOp.move rfl rfl (ltb rfl) rfl ?_)
 refine AO.op rfl (AOp.move rfl rfl (ltb rfl) rfl ?_)
 obtain ⟨q9, h0⟩ := need_elim h0
 obtain ⟨c10, q11, h0⟩ := bind_elim h0
 refine AO.op rfl (AOp.copyL2 (k := keS1) (l := (List.replicate ((2 : Int)).toNat (0 : Nat))) (l2 := a1) (m := (min a1.length (List.replicate ((2 : Int)).toNat (0 : Nat)).length)) rfl rfl (ltb rfl) rfl rfl el64 rfl q9 (fun _ => rfl) rfl (Option.some.inj q11) ?_)
 refine AO.nil ?_
 change AC _ _ _ _
 refine AC.seq ?_
 refine AC.region ?_
 refine AO.op rfl (AOp.move rfl rfl (ltb rfl) rfl ?_)
 refine AO.op rfl (AOp.move rfl rfl (ltb rfl) rfl ?_)
 obtain ⟨q12, h0⟩ := need_elim h0
 obtain ⟨c13, q14, h0⟩ := bind_elim h0
 refine AO.op rfl (AOp.copyL2 (k := keS1) (l := (List.replicate ((2 : Int)).toNat (0 : Nat))) (l2 := a2) (m := (min a2.length (List.replicate ((2 : Int)).toNat (0 : Nat)).length)) rfl rfl (ltb rfl) rfl rfl el64 rfl q12 (fun _ => rfl) rfl (Option.some.inj q14) ?_)
 refine AO.nil ?_
 change AC _ _ _ _
 refine AC.seq ?_
 refine AC.region ?_
 refine AO.op rfl (AOp.move rfl rfl (ltb rfl) rfl ?_)
 refine AO.op rfl (AOp.move rfl rfl (ltb rfl) rfl ?_)
 obtain ⟨q15, h0⟩ := need_elim h0
 obtain ⟨c16, q17, h0⟩ := bind_elim h0
 refine AO.op rfl (AOp.copyL2 (k := keS1) (l := (List.replicate ((2 : Int)).toNat (0 : Nat))) (l2 := a3) (m := (min a3.length (List.replicate ((2 : Int)).toNat (0 : Nat)).length)) rfl rfl (ltb rfl) rfl rfl el64 rfl q15 (fun _ => rfl) rfl (Option.some.inj q17) ?_)
 refine AO.nil ?_
 change AC _ _ _ _
 refine AC.seq ?_
 refine AC.region ?_
 refine AO.op rfl (AOp.buildOwn rfl rfl (ltb rfl) el64 zero22 rfl (leb rfl) rfl rfl rfl rfl ?_)
 refine AO.op rfl (AOp.assign rfl rfl (ltb rfl) rfl ?_)
 refine AO.objs (obs' := [.fix 83 [.d (eS1 b0), .d (eS1 b1), .d (eS1 b2), .d (eS1 b3), .d (eS1 b4), .d (eS1 b5), .d (di .i64 b6), .d (dbool b7), .d (eS1 b8), .d (eS1 b9), .d (.ifc 87 (.ag []))], .frame pv [(0, .ptr 0 0)], .frame fr1 [(0, .ptr 0 0), (1, .d (eS1 a0)), (2, .d (eS1 a1)), (3, .d (eS1 a2)), (4, .d (eS1 a3))], .fix 22 (List.map (fun z => SV.d (keS1 z)) c7), .fix 22 (List.map (fun z => SV.d (keS1 z)) c10), .fix 22 (List.map (fun z => SV.d (keS1 z)) c13), .fix 22 (List.map (fun z => SV.d (keS1 z)) c16), .grow 22 1 (List.map keS1 [(0 : Nat), (0 : Nat)])]) rfl ?_
 refine AO.nil ?_
 change AC _ _ _ _
 refine AC.seq ?_
 refine AC.region ?_
 refine AO.op rfl (AOp.move rfl rfl (ltb rfl) rfl ?_)
 refine AO.op rfl (AOp.move rfl rfl (ltb rfl) rfl ?_)
 refine AO.op rfl (AOp.move rfl rfl (ltb rfl) rfl ?_)
 refine AO.op rfl (AOp.move rfl rfl (ltb rfl) rfl ?_)
 refine AO.op rfl (AOp.move rfl rfl (ltb rfl) rfl ?_)
 refine AO.op rfl (AOp.inl [9, 10, 11, 12, 13] (by kernel_rfl) Tryz.func102 rfl Tryz.ntmps102 rfl rfl (ltb rfl) rfl (leb rfl) rfl ?_)
 intro fr18
 refine AC.seq ?_
 refine AC.region ?_
 refine AO.op rfl (AOp.move rfl rfl (ltb rfl) rfl ?_)
 obtain ⟨q19, h0⟩ := need_elim h0
 refine AO.op rfl (AOp.indexSl rfl rfl (ltb rfl) rfl rfl el64 q19.1 q19.2 ?_)
 obtain ⟨x20, q21, h0⟩ := idx_elim h0
 refine AO.op rfl (AOp.load1 rfl rfl (ltb rfl) rfl agg22 rfl (atO q21.2) ?_)
 refine AO.op rfl (AOp.assign rfl rfl (ltb rfl) rfl ?_)
 refine AO.objs (obs' := [.fix 83 [.d (eS1 b0), .d (eS1 b1), .d (eS1 b2), .d (eS1 b3), .d (eS1 b4), .d (eS1 b5), .d (di .i64 b6), .d (dbool b7), .d (eS1 b8), .d (eS1 b9), .d (.ifc 87 (.ag []))], .frame pv [(0, .ptr 0 0)], .frame fr1 [(0, .ptr 0 0), (1, .d (eS1 a0)), (2, .d (eS1 a1)), (3, .d (eS1 a2)), (4, .d (eS1 a3))], .fix 22 (List.map (fun z => SV.d (keS1 z)) c7), .fix 22 (List.map (fun z => SV.d (keS1 z)) c10), .fix 22 (List.map (fun z => SV.d (keS1 z)) c13), .fix 22 (List.map (fun z => SV.d (keS1 z)) c16), .grow 22 1 (List.map keS1 [(0 : Nat), (0 : Nat)]), .frame fr18 [(9, .sl 3 1 0 (((2 : Int)).toNat) (((2 : Int)).toNat)), (10, .sl 4 1 0 (((2 : Int)).toNat) (((2 : Int)).toNat)), (11, .sl 5 1 0 (((2 : Int)).toNat) (((2 : Int)).toNat)), (12, .sl 6 1 0 (((2 : Int)).toNat) (((2 : Int)).toNat)), (13, .own 7)]]) rfl ?_
 refine AO.nil ?_
 change AC _ _ _ _
 refine AC.joinP (V := Nat) [0, 1, 2, 3, 4] [10] 9 (fun g22 => [(10, .d (dfl g22))]) (fun g22 => [.fix 83 [.d (eS1 b0), .d (eS1 b1), .d (eS1 b2), .d (eS1 b3), .d (eS1 b4), .d (eS1 b5), .d (di .i64 b6), .d (dbool b7), .d (eS1 b8), .d (eS1 b9), .d (.ifc 87 (.ag []))], .frame pv [(0, .ptr 0 0)], .frame fr1 [(0, .ptr 0 0), (1, .d (eS1 a0)), (2, .d (eS1 a1)), (3, .d (eS1 a2)), (4, .d (eS1 a3))], .fix 22 (List.map (fun z => SV.d (keS1 z)) c7), .fix 22 (List.map (fun z => SV.d (keS1 z)) c10), .fix 22 (List.map (fun z => SV.d (keS1 z)) c13), .fix 22 (List.map (fun z => SV.d (keS1 z)) c16), .grow 22 1 (List.map keS1 [(0 : Nat), (0 : Nat)]), .frame fr18 [(9, .sl 3 1 0 (((2 : Int)).toNat) (((2 : Int)).toNat)), (10, .sl 4 1 0 (((2 : Int)).toNat) (((2 : Int)).toNat)), (11, .sl 5 1 0 (((2 : Int)).toNat) (((2 : Int)).toNat)), (12, .sl 6 1 0 (((2 : Int)).toNat) (((2 : Int)).toNat)), (13, .own 7)]]) (fun g22 => (p_intersection_k1 b0 b1 b2 b3 c7 c10 c13 c16) g22 = some r0) rfl ?_ ?_
 ·refine AC.seq ?_
  refine AC.draw 7 mixed (by kernel_rfl) ?_
  refine AD.op [0] rfl (by kernel_rfl) rfl rfl (fun _ _ h => AOp.move rfl rfl (ltb rfl) rfl h) ?_
  obtain ⟨q355, h0⟩ := need_elim h0
  refine AD.op [27] rfl (by kernel_rfl) rfl rfl (fun _ _ h => AOp.indexSl rfl rfl (ltb rfl) rfl rfl el64 q355.1 q355.2 h) ?_
  obtain ⟨x356, q357, h0⟩ := idx_elim h0
  refine AD.op [28] rfl (by kernel_rfl) rfl rfl (fun _ _ h => AOp.load1 rfl rfl (ltb rfl) rfl agg22 rfl (atO q357.2) h) ?_
  refine AD.op [1] rfl (by kernel_rfl) rfl rfl (fun _ _ h => AOp.move rfl rfl (ltb rfl) rfl h) ?_
  obtain ⟨q358, h0⟩ := need_elim h0
  refine AD.op [30] rfl (by kernel_rfl) rfl rfl (fun _ _ h => AOp.indexSl rfl rfl (ltb rfl) rfl rfl el64 q358.1 q358.2 h) ?_
  obtain ⟨x359, q360, h0⟩ := idx_elim h0
  refine AD.op [31] rfl (by kernel_rfl) rfl rfl (fun _ _ h => AOp.load1 rfl rfl (ltb rfl) rfl agg22 rfl (atO q360.2) h) ?_
  refine AD.op [29, 32] rfl (by kernel_rfl) rfl rfl (fun _ _ h => AOp.flss rfl rfl (ltb rfl) rfl rfl h) ?_
  refine AD.done ?_
  refine AO.nil ?_
  change AC _ _ _ _
  refine AC.cond rfl (fun q361 => ?_) (fun q361 => ?_)
  ·replace h0 := cT h0 q361
   refine AC.region ?_
   refine AO.op rfl (AOp.move rfl rfl (ltb rfl) rfl ?_)
   obtain ⟨q362, h0⟩ := need_elim h0
   refine AO.op rfl (AOp.indexSl rfl rfl (ltb rfl) rfl rfl el64 q362.1 q362.2 ?_)
   obtain ⟨x363, q364, h0⟩ := idx_elim h0
   refine AO.op rfl (AOp.load1 rfl rfl (ltb rfl) rfl agg22 rfl (atO q364.2) ?_)
   refine AO.op rfl (AOp.assign rfl rfl (ltb rfl) rfl ?_)
   refine AO.nil ?_
   exact ⟨x363, _, rfl, (LeL.refl _), rfl, (okU_mk rfl (okU_cons rfl (okU_cons rfl (okU_cons rfl (okU_cons (okU_fixl (fun _ => rfl)) (okU_cons (okU_fixl (fun _ => rfl)) (okU_cons (okU_fixl (fun _ => rfl)) (okU_cons (okU_fixl (fun _ => rfl)) (okU_cons rfl (okU_cons rfl okU_nil)))))))))), h0⟩
  replace h0 := cF h0 q361
  refine AC.skip ?_
  exact ⟨x20, _, rfl, (LeL.refl _), rfl, (okU_mk rfl (okU_cons rfl (okU_cons rfl (okU_cons rfl (okU_cons (okU_fixl (fun _ => rfl)) (okU_cons (okU_fixl (fun _ => rfl)) (okU_cons (okU_fixl (fun _ => rfl)) (okU_cons (okU_fixl (fun _ => rfl)) (okU_cons rfl (okU_cons rfl okU_nil)))))))))), h0⟩
 intro g22 h0
 unfold p_intersection_k1 at h0
 refine AC.seq ?_
 refine AC.region ?_
 refine AO.op rfl (AOp.move rfl rfl (ltb rfl) rfl ?_)
 obtain ⟨q23, h0⟩ := need_elim h0
 refine AO.op rfl (AOp.indexSl rfl rfl (ltb rfl) rfl rfl el64 q23.1 q23.2 ?_)
 obtain ⟨x24, q25, h0⟩ := idx_elim h0
 refine AO.op rfl (AOp.load1 rfl rfl (ltb rfl) rfl agg22 rfl (atO q25.2) ?_)
 refine AO.op rfl (AOp.assign rfl rfl (ltb rfl) rfl ?_)
 refine AO.nil ?_
 change AC _ _ _ _
 refine AC.joinP (V := Nat) [0, 1, 2, 3, 4, 10] [11] 9 (fun g26 => [(11, .d (dfl g26))]) (fun g26 => [.fix 83 [.d (eS1 b0), .d (eS1 b1), .d (eS1 b2), .d (eS1 b3), .d (eS1 b4), .d (eS1 b5), .d (di .i64 b6), .d (dbool b7), .d (eS1 b8), .d (eS1 b9), .d (.ifc 87 (.ag []))], .frame pv [(0, .ptr 0 0)], .frame fr1 [(0, .ptr 0 0), (1, .d (eS1 a0)), (2, .d (eS1 a1)), (3, .d (eS1 a2)), (4, .d (eS1 a3))], .fix 22 (List.map (fun z => SV.d (keS1 z)) c7), .fix 22 (List.map (fun z => SV.d (keS1 z)) c10), .fix 22 (List.map (fun z => SV.d (keS1 z)) c13), .fix 22 (List.map (fun z => SV.d (keS1 z)) c16), .grow 22 1 (List.map keS1 [(0 : Nat), (0 : Nat)]), .frame fr18 [(9, .sl 3 1 0 (((2 : Int)).toNat) (((2 : Int)).toNat)), (10, .sl 4 1 0 (((2 : Int)).toNat) (((2 : Int)).toNat)), (11, .sl 5 1 0 (((2 : Int)).toNat) (((2 : Int)).toNat)), (12, .sl 6 1 0 (((2 : Int)).toNat) (((2 : Int)).toNat)), (13, .own 7)]]) (fun g26 => (p_intersection_k2 b0 b1 b2 b3 c7 c10 c13 c16 g22) g26 = some r0) rfl ?_ ?_
 ·refine AC.seq ?_
  refine AC.draw 7 mixed (by kernel_rfl) ?_
  refine AD.op [0] rfl (by kernel_rfl) rfl rfl (fun _ _ h => AOp.move rfl rfl (ltb rfl) rfl h) ?_
  obtain ⟨q345, h0⟩ := need_elim h0
  refine AD.op [40] rfl (by kernel_rfl) rfl rfl (fun _ _ h => AOp.indexSl rfl rfl (ltb rfl) rfl rfl el64 q345.1 q345.2 h) ?_
  obtain ⟨x346, q347, h0⟩ := idx_elim h0
  refine AD.op [41] rfl (by kernel_rfl) rfl rfl (fun _ _ h => AOp.load1 rfl rfl (ltb rfl) rfl agg22 rfl (atO q347.2) h) ?_
  refine AD.op [1] rfl (by kernel_rfl) rfl rfl (fun _ _ h => AOp.move rfl rfl (ltb rfl) rfl h) ?_
  obtain ⟨q348, h0⟩ := need_elim h0
  refine AD.op [43] rfl (by kernel_rfl) rfl rfl (fun _ _ h => AOp.indexSl rfl rfl (ltb rfl) rfl rfl el64 q348.1 q348.2 h) ?_
  obtain ⟨x349, q350, h0⟩ := idx_elim h0
  refine AD.op [44] rfl (by kernel_rfl) rfl rfl (fun _ _ h => AOp.load1 rfl rfl (ltb rfl) rfl agg22 rfl (atO q350.2) h) ?_
  refine AD.op [42, 45] rfl (by kernel_rfl) rfl rfl (fun _ _ h => AOp.flss rfl rfl (ltb rfl) rfl rfl h) ?_
  refine AD.done ?_
  refine AO.nil ?_
  change AC _ _ _ _
  refine AC.cond rfl (fun q351 => ?_) (fun q351 => ?_)
  ·replace h0 := cT h0 q351
   refine AC.region ?_
   refine AO.op rfl (AOp.move rfl rfl (ltb rfl) rfl ?_)
   obtain ⟨q352, h0⟩ := need_elim h0
   refine AO.op rfl (AOp.indexSl rfl rfl (ltb rfl) rfl rfl el64 q352.1 q352.2 ?_)
   obtain ⟨x353, q354, h0⟩ := idx_elim h0
   refine AO.op rfl (AOp.load1 rfl rfl (ltb rfl) rfl agg22 rfl (atO q354.2) ?_)
   refine AO.op rfl (AOp.assign rfl rfl (ltb rfl) rfl ?_)
   refine AO.nil ?_
   exact ⟨x353, _, rfl, (LeL.refl _), rfl, (okU_mk rfl (okU_cons rfl (okU_cons rfl (okU_cons rfl (okU_cons (okU_fixl (fun _ => rfl)) (okU_cons (okU_fixl (fun _ => rfl)) (okU_cons (okU_fixl (fun _ => rfl)) (okU_cons (okU_fixl (fun _ => rfl)) (okU_cons rfl (okU_cons rfl okU_nil)))))))))), h0⟩
  replace h0 := cF h0 q351
  refine AC.skip ?_
  exact ⟨x24, _, rfl, (LeL.refl _), rfl, (okU_mk rfl (okU_cons rfl (okU_cons rfl (okU_cons rfl (okU_cons (okU_fixl (fun _ => rfl)) (okU_cons (okU_fixl (fun _ => rfl)) (okU_cons (okU_fixl (fun _ => rfl)) (okU_cons (okU_fixl (fun _ => rfl)) (okU_cons rfl (okU_cons rfl okU_nil)))))))))), h0⟩
 intro g26 h0
 unfold p_intersection_k2 at h0
 refine AC.seq ?_
 refine AC.region ?_
 refine AO.op rfl (AOp.move rfl rfl (ltb rfl) rfl ?_)
 obtain ⟨q27, h0⟩ := need_elim h0
 refine AO.op rfl (AOp.indexSl rfl rfl (ltb rfl) rfl rfl el64 q27.1 q27.2 ?_)
 obtain ⟨x28, q29, h0⟩ := idx_elim h0
 refine AO.op rfl (AOp.load1 rfl rfl (ltb rfl) rfl agg22 rfl (atO q29.2) ?_)
 refine AO.op rfl (AOp.assign rfl rfl (ltb rfl) rfl ?_)
 refine AO.nil ?_
 change AC _ _ _ _
 refine AC.joinP (V := Nat) [0, 1, 2, 3, 4, 10, 11] [12] 9 (fun g30 => [(12, .d (dfl g30))]) (fun g30 => [.fix 83 [.d (eS1 b0), .d (eS1 b1), .d (eS1 b2), .d (eS1 b3), .d (eS1 b4), .d (eS1 b5), .d (di .i64 b6), .d (dbool b7), .d (eS1 b8), .d (eS1 b9), .d (.ifc 87 (.ag []))], .frame pv [(0, .ptr 0 0)], .frame fr1 [(0, .ptr 0 0), (1, .d (eS1 a0)), (2, .d (eS1 a1)), (3, .d (eS1 a2)), (4, .d (eS1 a3))], .fix 22 (List.map (fun z => SV.d (keS1 z)) c7), .fix 22 (List.map (fun z => SV.d (keS1 z)) c10), .fix 22 (List.map (fun z => SV.d (keS1 z)) c13), .fix 22 (List.map (fun z => SV.d (keS1 z)) c16), .grow 22 1 (List.map keS1 [(0 : Nat), (0 : Nat)]), .frame fr18 [(9, .sl 3 1 0 (((2 : Int)).toNat) (((2 : Int)).toNat)), (10, .sl 4 1 0 (((2 : Int)).toNat) (((2 : Int)).toNat)), (11, .sl 5 1 0 (((2 : Int)).toNat) (((2 : Int)).toNat)), (12, .sl 6 1 0 (((2 : Int)).toNat) (((2 : Int)).toNat)), (13, .own 7)]]) (fun g30 => (p_intersection_k3 b0 b1 b2 b3 c7 c10 c13 c16 g22 g26) g30 = some r0) rfl ?_ ?_
 ·refine AC.seq ?_
  refine AC.draw 7 mixed (by kernel_rfl) ?_
  refine AD.op [0] rfl (by kernel_rfl) rfl rfl (fun _ _ h => AOp.move rfl rfl (ltb rfl) rfl h) ?_
  obtain ⟨q335, h0⟩ := need_elim h0
  refine AD.op [53] rfl (by kernel_rfl) rfl rfl (fun _ _ h => AOp.indexSl rfl rfl (ltb rfl) rfl rfl el64 q335.1 q335.2 h) ?_
  obtain ⟨x336, q337, h0⟩ := idx_elim h0
  refine AD.op [54] rfl (by kernel_rfl) rfl rfl (fun _ _ h => AOp.load1 rfl rfl (ltb rfl) rfl agg22 rfl (atO q337.2) h) ?_
  refine AD.op [1] rfl (by kernel_rfl) rfl rfl (fun _ _ h => AOp.move rfl rfl (ltb rfl) rfl h) ?_
  obtain ⟨q338, h0⟩ := need_elim h0
  refine AD.op [56] rfl (by kernel_rfl) rfl rfl (fun _ _ h => AOp.indexSl rfl rfl (ltb rfl) rfl rfl el64 q338.1 q338.2 h) ?_
  obtain ⟨x339, q340, h0⟩ := idx_elim h0
  refine AD.op [57] rfl (by kernel_rfl) rfl rfl (fun _ _ h => AOp.load1 rfl rfl (ltb rfl) rfl agg22 rfl (atO q340.2) h) ?_
  refine AD.op [55, 58] rfl (by kernel_rfl) rfl rfl (fun _ _ h => AOp.fgtr rfl rfl (ltb rfl) rfl rfl h) ?_
  refine AD.done ?_
  refine AO.nil ?_
  change AC _ _ _ _
  refine AC.cond rfl (fun q341 => ?_) (fun q341 => ?_)
  ·replace h0 := cT h0 q341
   refine AC.region ?_
   refine AO.op rfl (AOp.move rfl rfl (ltb rfl) rfl ?_)
   obtain ⟨q342, h0⟩ := need_elim h0
   refine AO.op rfl (AOp.indexSl rfl rfl (ltb rfl) rfl rfl el64 q342.1 q342.2 ?_)
   obtain ⟨x343, q344, h0⟩ := idx_elim h0
   refine AO.op rfl (AOp.load1 rfl rfl (ltb rfl) rfl agg22 rfl (atO q344.2) ?_)
   refine AO.op rfl (AOp.assign rfl rfl (ltb rfl) rfl ?_)
   refine AO.nil ?_
   exact ⟨x343, _, rfl, (LeL.refl _), rfl, (okU_mk rfl (okU_cons rfl (okU_cons rfl (okU_cons rfl (okU_cons (okU_fixl (fun _ => rfl)) (okU_cons (okU_fixl (fun _ => rfl)) (okU_cons (okU_fixl (fun _ => rfl)) (okU_cons (okU_fixl (fun _ => rfl)) (okU_cons rfl (okU_cons rfl okU_nil)))))))))), h0⟩
  replace h0 := cF h0 q341
  refine AC.skip ?_
  exact ⟨x28, _, rfl, (LeL.refl _), rfl, (okU_mk rfl (okU_cons rfl (okU_cons rfl (okU_cons rfl (okU_cons (okU_fixl (fun _ => rfl)) (okU_cons (okU_fixl (fun _ => rfl)) (okU_cons (okU_fixl (fun _ => rfl)) (okU_cons (okU_fixl (fun _ => rfl)) (okU_cons rfl (okU_cons rfl okU_nil)))))))))), h0⟩
 intro g30 h0
 unfold p_intersection_k3 at h0
 refine AC.seq ?_
 refine AC.region ?_
 refine AO.op rfl (AOp.move rfl rfl (ltb rfl) rfl ?_)
 obtain ⟨q31, h0⟩ := need_elim h0
 refine AO.op rfl (AOp.indexSl rfl rfl (ltb rfl) rfl rfl el64 q31.1 q31.2 ?_)
 obtain ⟨x32, q33, h0⟩ := idx_elim h0
 refine AO.op rfl (AOp.load1 rfl rfl (ltb rfl) rfl agg22 rfl (atO q33.2) ?_)
 refine AO.op rfl (AOp.assign rfl rfl (ltb rfl) rfl ?_)
 refine AO.nil ?_
 change AC _ _ _ _
 refine AC.joinP (V := Nat) [0, 1, 2, 3, 4, 10, 11, 12] [13] 9 (fun g34 => [(13, .d (dfl g34))]) (fun g34 => [.fix 83 [.d (eS1 b0), .d (eS1 b1), .d (eS1 b2), .d (eS1 b3), .d (eS1 b4), .d (eS1 b5), .d (di .i64 b6), .d (dbool b7), .d (eS1 b8), .d (eS1 b9), .d (.ifc 87 (.ag []))], .frame pv [(0, .ptr 0 0)], .frame fr1 [(0, .ptr 0 0), (1, .d (eS1 a0)), (2, .d (eS1 a1)), (3, .d (eS1 a2)), (4, .d (eS1 a3))], .fix 22 (List.map (fun z => SV.d (keS1 z)) c7), .fix 22 (List.map (fun z => SV.d (keS1 z)) c10), .fix 22 (List.map (fun z => SV.d (keS1 z)) c13), .fix 22 (List.map (fun z => SV.d (keS1 z)) c16), .grow 22 1 (List.map keS1 [(0 : Nat), (0 : Nat)]), .frame fr18 [(9, .sl 3 1 0 (((2 : Int)).toNat) (((2 : Int)).toNat)), (10, .sl 4 1 0 (((2 : Int)).toNat) (((2 : Int)).toNat)), (11, .sl 5 1 0 (((2 : Int)).toNat) (((2 : Int)).toNat)), (12, .sl 6 1 0 (((2 : Int)).toNat) (((2 : Int)).toNat)), (13, .own 7)]]) (fun g34 => (p_intersection_k4 b0 b1 b2 b3 c7 c10 c13 c16 g22 g26 g30) g34 = some r0) rfl ?_ ?_
 ·refine AC.seq ?_
  refine AC.draw 7 mixed (by kernel_rfl) ?_
  refine AD.op [0] rfl (by kernel_rfl) rfl rfl (fun _ _ h => AOp.move rfl rfl (ltb rfl) rfl h) ?_
  obtain ⟨q325, h0⟩ := need_elim h0
  refine AD.op [66] rfl (by kernel_rfl) rfl rfl (fun _ _ h => AOp.indexSl rfl rfl (ltb rfl) rfl rfl el64 q325.1 q325.2 h) ?_
  obtain ⟨x326, q327, h0⟩ := idx_elim h0
  refine AD.op [67] rfl (by kernel_rfl) rfl rfl (fun _ _ h => AOp.load1 rfl rfl (ltb rfl) rfl agg22 rfl (atO q327.2) h) ?_
  refine AD.op [1] rfl (by kernel_rfl) rfl rfl (fun _ _ h => AOp.move rfl rfl (ltb rfl) rfl h) ?_
  obtain ⟨q328, h0⟩ := need_elim h0
  refine AD.op [69] rfl (by kernel_rfl) rfl rfl (fun _ _ h => AOp.indexSl rfl rfl (ltb rfl) rfl rfl el64 q328.1 q328.2 h) ?_
  obtain ⟨x329, q330, h0⟩ := idx_elim h0
  refine AD.op [70] rfl (by kernel_rfl) rfl rfl (fun _ _ h => AOp.load1 rfl rfl (ltb rfl) rfl agg22 rfl (atO q330.2) h) ?_
  refine AD.op [68, 71] rfl (by kernel_rfl) rfl rfl (fun _ _ h => AOp.fgtr rfl rfl (ltb rfl) rfl rfl h) ?_
  refine AD.done ?_
  refine AO.nil ?_
  change AC _ _ _ _
  refine AC.cond rfl (fun q331 => ?_) (fun q331 => ?_)
  ·replace h0 := cT h0 q331
   refine AC.region ?_
   refine AO.op rfl (AOp.move rfl rfl (ltb rfl) rfl ?_)
   obtain ⟨q332, h0⟩ := need_elim h0
   refine AO.op rfl (AOp.indexSl rfl rfl (ltb rfl) rfl rfl el64 q332.1 q332.2 ?_)
   obtain ⟨x333, q334, h0⟩ := idx_elim h0
   refine AO.op rfl (AOp.load1 rfl rfl (ltb rfl) rfl agg22 rfl (atO q334.2) ?_)
   refine AO.op rfl (AOp.assign rfl rfl (ltb rfl) rfl ?_)
   refine AO.nil ?_
   exact ⟨x333, _, rfl, (LeL.refl _), rfl, (okU_mk rfl (okU_cons rfl (okU_cons rfl (okU_cons rfl (okU_cons (okU_fixl (fun _ => rfl)) (okU_cons (okU_fixl (fun _ => rfl)) (okU_cons (okU_fixl (fun _ => rfl)) (okU_cons (okU_fixl (fun _ => rfl)) (okU_cons rfl (okU_cons rfl okU_nil)))))))))), h0⟩
  replace h0 := cF h0 q331
  refine AC.skip ?_
  exact ⟨x32, _, rfl, (LeL.refl _), rfl, (okU_mk rfl (okU_cons rfl (okU_cons rfl (okU_cons rfl (okU_cons (okU_fixl (fun _ => rfl)) (okU_cons (okU_fixl (fun _ => rfl)) (okU_cons (okU_fixl (fun _ => rfl)) (okU_cons (okU_fixl (fun _ => rfl)) (okU_cons rfl (okU_cons rfl okU_nil)))))))))), h0⟩
 intro g34 h0
 unfold p_intersection_k4 at h0
 refine AC.seq ?_
 refine AC.region ?_
 refine AO.op rfl (AOp.move rfl rfl (ltb rfl) rfl ?_)
 obtain ⟨q35, h0⟩ := need_elim h0
 refine AO.op rfl (AOp.indexSl rfl rfl (ltb rfl) rfl rfl el64 q35.1 q35.2 ?_)
 obtain ⟨x36, q37, h0⟩ := idx_elim h0
 refine AO.op rfl (AOp.load1 rfl rfl (ltb rfl) rfl agg22 rfl (atO q37.2) ?_)
 refine AO.op rfl (AOp.assign rfl rfl (ltb rfl) rfl ?_)
 refine AO.nil ?_
 change AC _ _ _ _
 refine AC.joinP (V := Nat) [0, 1, 2, 3, 4, 10, 11, 12, 13] [14] 9 (fun g38 => [(14, .d (dfl g38))]) (fun g38 => [.fix 83 [.d (eS1 b0), .d (eS1 b1), .d (eS1 b2), .d (eS1 b3), .d (eS1 b4), .d (eS1 b5), .d (di .i64 b6), .d (dbool b7), .d (eS1 b8), .d (eS1 b9), .d (.ifc 87 (.ag []))], .frame pv [(0, .ptr 0 0)], .frame fr1 [(0, .ptr 0 0), (1, .d (eS1 a0)), (2, .d (eS1 a1)), (3, .d (eS1 a2)), (4, .d (eS1 a3))], .fix 22 (List.map (fun z => SV.d (keS1 z)) c7), .fix 22 (List.map (fun z => SV.d (keS1 z)) c10), .fix 22 (List.map (fun z => SV.d (keS1 z)) c13), .fix 22 (List.map (fun z => SV.d (keS1 z)) c16), .grow 22 1 (List.map keS1 [(0 : Nat), (0 : Nat)]), .frame fr18 [(9, .sl 3 1 0 (((2 : Int)).toNat) (((2 : Int)).toNat)), (10, .sl 4 1 0 (((2 : Int)).toNat) (((2 : Int)).toNat)), (11, .sl 5 1 0 (((2 : Int)).toNat) (((2 : Int)).toNat)), (12, .sl 6 1 0 (((2 : Int)).toNat) (((2 : Int)).toNat)), (13, .own 7)]]) (fun g38 => (p_intersection_k5 b0 b1 b2 b3 c7 c10 c13 c16 g22 g26 g30 g34) g38 = some r0) rfl ?_ ?_
 ·refine AC.seq ?_
  refine AC.draw 7 mixed (by kernel_rfl) ?_
  refine AD.op [2] rfl (by kernel_rfl) rfl rfl (fun _ _ h => AOp.move rfl rfl (ltb rfl) rfl h) ?_
  obtain ⟨q315, h0⟩ := need_elim h0
  refine AD.op [79] rfl (by kernel_rfl) rfl rfl (fun _ _ h => AOp.indexSl rfl rfl (ltb rfl) rfl rfl el64 q315.1 q315.2 h) ?_
  obtain ⟨x316, q317, h0⟩ := idx_elim h0
  refine AD.op [80] rfl (by kernel_rfl) rfl rfl (fun _ _ h => AOp.load1 rfl rfl (ltb rfl) rfl agg22 rfl (atO q317.2) h) ?_
  refine AD.op [3] rfl (by kernel_rfl) rfl rfl (fun _ _ h => AOp.move rfl rfl (ltb rfl) rfl h) ?_
  obtain ⟨q318, h0⟩ := need_elim h0
  refine AD.op [82] rfl (by kernel_rfl) rfl rfl (fun _ _ h => AOp.indexSl rfl rfl (ltb rfl) rfl rfl el64 q318.1 q318.2 h) ?_
  obtain ⟨x319, q320, h0⟩ := idx_elim h0
  refine AD.op [83] rfl (by kernel_rfl) rfl rfl (fun _ _ h => AOp.load1 rfl rfl (ltb rfl) rfl agg22 rfl (atO q320.2) h) ?_
  refine AD.op [81, 84] rfl (by kernel_rfl) rfl rfl (fun _ _ h => AOp.flss rfl rfl (ltb rfl) rfl rfl h) ?_
  refine AD.done ?_
  refine AO.nil ?_
  change AC _ _ _ _
  refine AC.cond rfl (fun q321 => ?_) (fun q321 => ?_)
  ·replace h0 := cT h0 q321
   refine AC.region ?_
   refine AO.op rfl (AOp.move rfl rfl (ltb rfl) rfl ?_)
   obtain ⟨q322, h0⟩ := need_elim h0
   refine AO.op rfl (AOp.indexSl rfl rfl (ltb rfl) rfl rfl el64 q322.1 q322.2 ?_)
   obtain ⟨x323, q324, h0⟩ := idx_elim h0
   refine AO.op rfl (AOp.load1 rfl rfl (ltb rfl) rfl agg22 rfl (atO q324.2) ?_)
   refine AO.op rfl (AOp.assign rfl rfl (ltb rfl) rfl ?_)
   refine AO.nil ?_
   exact ⟨x323, _, rfl, (LeL.refl _), rfl, (okU_mk rfl (okU_cons rfl (okU_cons rfl (okU_cons rfl (okU_cons (okU_fixl (fun _ => rfl)) (okU_cons (okU_fixl (fun _ => rfl)) (okU_cons (okU_fixl (fun _ => rfl)) (okU_cons (okU_fixl (fun _ => rfl)) (okU_cons rfl (okU_cons rfl okU_nil)))))))))), h0⟩
  replace h0 := cF h0 q321
  refine AC.skip ?_
  exact ⟨x36, _, rfl, (LeL.refl _), rfl, (okU_mk rfl (okU_cons rfl (okU_cons rfl (okU_cons rfl (okU_cons (okU_fixl (fun _ => rfl)) (okU_cons (okU_fixl (fun _ => rfl)) (okU_cons (okU_fixl (fun _ => rfl)) (okU_cons (okU_fixl (fun _ => rfl)) (okU_cons rfl (okU_cons rfl okU_nil)))))))))), h0⟩
 intro g38 h0
 unfold p_intersection_k5 at h0
 refine AC.seq ?_
 refine AC.region ?_
 refine AO.op rfl (AOp.move rfl rfl (ltb rfl) rfl ?_)
 obtain ⟨q39, h0⟩ := need_elim h0
 refine AO.op rfl (AOp.indexSl rfl rfl (ltb rfl) rfl rfl el64 q39.1 q39.2 ?_)
 obtain ⟨x40, q41, h0⟩ := idx_elim h0
 refine AO.op rfl (AOp.load1 rfl rfl (ltb rfl) rfl agg22 rfl (atO q41.2) ?_)
 refine AO.op rfl (AOp.assign rfl rfl (ltb rfl) rfl ?_)
 refine AO.nil ?_
 change AC _ _ _ _
 refine AC.joinP (V := Nat) [0, 1, 2, 3, 4, 10, 11, 12, 13, 14] [15] 9 (fun g42 => [(15, .d (dfl g42))]) (fun g42 => [.fix 83 [.d (eS1 b0), .d (eS1 b1), .d (eS1 b2), .d (eS1 b3), .d (eS1 b4), .d (eS1 b5), .d (di .i64 b6), .d (dbool b7), .d (eS1 b8), .d (eS1 b9), .d (.ifc 87 (.ag []))], .frame pv [(0, .ptr 0 0)], .frame fr1 [(0, .ptr 0 0), (1, .d (eS1 a0)), (2, .d (eS1 a1)), (3, .d (eS1 a2)), (4, .d (eS1 a3))], .fix 22 (List.map (fun z => SV.d (keS1 z)) c7), .fix 22 (List.map (fun z => SV.d (keS1 z)) c10), .fix 22 (List.map (fun z => SV.d (keS1 z)) c13), .fix 22 (List.map (fun z => SV.d (keS1 z)) c16), .grow 22 1 (List.map keS1 [(0 : Nat), (0 : Nat)]), .frame fr18 [(9, .sl 3 1 0 (((2 : Int)).toNat) (((2 : Int)).toNat)), (10, .sl 4 1 0 (((2 : Int)).toNat) (((2 : Int)).toNat)), (11, .sl 5 1 0 (((2 : Int)).toNat) (((2 : Int)).toNat)), (12, .sl 6 1 0 (((2 : Int)).toNat) (((2 : Int)).toNat)), (13, .own 7)]]) (fun g42 => (p_intersection_k6 b0 b1 b2 b3 c7 c10 c13 c16 g22 g26 g30 g34 g38) g42 = some r0) rfl ?_ ?_
 ·refine AC.seq ?_
  refine AC.draw 7 mixed (by kernel_rfl) ?_
  refine AD.op [2] rfl (by kernel_rfl) rfl rfl (fun _ _ h => AOp.move rfl rfl (ltb rfl) rfl h) ?_
  obtain ⟨q305, h0⟩ := need_elim h0
  refine AD.op [92] rfl (by kernel_rfl) rfl rfl (fun _ _ h => AOp.indexSl rfl rfl (ltb rfl) rfl rfl el64 q305.1 q305.2 h) ?_
  obtain ⟨x306, q307, h0⟩ := idx_elim h0
  refine AD.op [93] rfl (by kernel_rfl) rfl rfl (fun _ _ h => AOp.load1 rfl rfl (ltb rfl) rfl agg22 rfl (atO q307.2) h) ?_
  refine AD.op [3] rfl (by kernel_rfl) rfl rfl (fun _ _ h => AOp.move rfl rfl (ltb rfl) rfl h) ?_
  obtain ⟨q308, h0⟩ := need_elim h0
  refine AD.op [95] rfl (by kernel_rfl) rfl rfl (fun _ _ h => AOp.indexSl rfl rfl (ltb rfl) rfl rfl el64 q308.1 q308.2 h) ?_
  obtain ⟨x309, q310, h0⟩ := idx_elim h0
  refine AD.op [96] rfl (by kernel_rfl) rfl rfl (fun _ _ h => AOp.load1 rfl rfl (ltb rfl) rfl agg22 rfl (atO q310.2) h) ?_
  refine AD.op [94, 97] rfl (by kernel_rfl) rfl rfl (fun _ _ h => AOp.flss rfl rfl (ltb rfl) rfl rfl h) ?_
  refine AD.done ?_
  refine AO.nil ?_
  change AC _ _ _ _
  refine AC.cond rfl (fun q311 => ?_) (fun q311 => ?_)
  ·replace h0 := cT h0 q311
   refine AC.region ?_
   refine AO.op rfl (AOp.move rfl rfl (ltb rfl) rfl ?_)
   obtain ⟨q312, h0⟩ := need_elim h0
   refine AO.op rfl (AOp.indexSl rfl rfl (ltb rfl) rfl rfl el64 q312.1 q312.2 ?_)
   obtain ⟨x313, q314, h0⟩ := idx_elim h0
   refine AO.op rfl (AOp.load1 rfl rfl (ltb rfl) rfl agg22 rfl (atO q314.2) ?_)
   refine AO.op rfl (AOp.assign rfl rfl (ltb rfl) rfl ?_)
   refine AO.nil ?_
   exact ⟨x313, _, rfl, (LeL.refl _), rfl, (okU_mk rfl (okU_cons rfl (okU_cons rfl (okU_cons rfl (okU_cons (okU_fixl (fun _ => rfl)) (okU_cons (okU_fixl (fun _ => rfl)) (okU_cons (okU_fixl (fun _ => rfl)) (okU_cons (okU_fixl (fun _ => rfl)) (okU_cons rfl (okU_cons rfl okU_nil)))))))))), h0⟩
  replace h0 := cF h0 q311
  refine AC.skip ?_
  exact ⟨x40, _, rfl, (LeL.refl _), rfl, (okU_mk rfl (okU_cons rfl (okU_cons rfl (okU_cons rfl (okU_cons (okU_fixl (fun _ => rfl)) (okU_cons (okU_fixl (fun _ => rfl)) (okU_cons (okU_fixl (fun _ => rfl)) (okU_cons (okU_fixl (fun _ => rfl)) (okU_cons rfl (okU_cons rfl okU_nil)))))))))), h0⟩
 intro g42 h0
 unfold p_intersection_k6 at h0
 refine AC.seq ?_
 refine AC.region ?_
 refine AO.op rfl (AOp.move rfl rfl (ltb rfl) rfl ?_)
 obtain ⟨q43, h0⟩ := need_elim h0
 refine AO.op rfl (AOp.indexSl rfl rfl (ltb rfl) rfl rfl el64 q43.1 q43.2 ?_)
 obtain ⟨x44, q45, h0⟩ := idx_elim h0
 refine AO.op rfl (AOp.load1 rfl rfl (ltb rfl) rfl agg22 rfl (atO q45.2) ?_)
 refine AO.op rfl (AOp.assign rfl rfl (ltb rfl) rfl ?_)
 refine AO.nil ?_
 change AC _ _ _ _
 refine AC.joinP (V := Nat) [0, 1, 2, 3, 4, 10, 11, 12, 13, 14, 15] [16] 9 (fun g46 => [(16, .d (dfl g46))]) (fun g46 => [.fix 83 [.d (eS1 b0), .d (eS1 b1), .d (eS1 b2), .d (eS1 b3), .d (eS1 b4), .d (eS1 b5), .d (di .i64 b6), .d (dbool b7), .d (eS1 b8), .d (eS1 b9), .d (.ifc 87 (.ag []))], .frame pv [(0, .ptr 0 0)], .frame fr1 [(0, .ptr 0 0), (1, .d (eS1 a0)), (2, .d (eS1 a1)), (3, .d (eS1 a2)), (4, .d (eS1 a3))], .fix 22 (List.map (fun z => SV.d (keS1 z)) c7), .fix 22 (List.map (fun z => SV.d (keS1 z)) c10), .fix 22 (List.map (fun z => SV.d (keS1 z)) c13), .fix 22 (List.map (fun z => SV.d (keS1 z)) c16), .grow 22 1 (List.map keS1 [(0 : Nat), (0 : Nat)]), .frame fr18 [(9, .sl 3 1 0 (((2 : Int)).toNat) (((2 : Int)).toNat)), (10, .sl 4 1 0 (((2 : Int)).toNat) (((2 : Int)).toNat)), (11, .sl 5 1 0 (((2 : Int)).toNat) (((2 : Int)).toNat)), (12, .sl 6 1 0 (((2 : Int)).toNat) (((2 : Int)).toNat)), (13, .own 7)]]) (fun g46 => (p_intersection_k7 b0 b1 b2 b3 c7 c10 c13 c16 g22 g26 g30 g34 g38 g42) g46 = some r0) rfl ?_ ?_
 ·refine AC.seq ?_
  refine AC.draw 7 mixed (by kernel_rfl) ?_
  refine AD.op [2] rfl (by kernel_rfl) rfl rfl (fun _ _ h => AOp.move rfl rfl (ltb rfl) rfl h) ?_
  obtain ⟨q295, h0⟩ := need_elim h0
  refine AD.op [105] rfl (by kernel_rfl) rfl rfl (fun _ _ h => AOp.indexSl rfl rfl (ltb rfl) rfl rfl el64 q295.1 q295.2 h) ?_
  obtain ⟨x296, q297, h0⟩ := idx_elim h0
  refine AD.op [106] rfl (by kernel_rfl) rfl rfl (fun _ _ h => AOp.load1 rfl rfl (ltb rfl) rfl agg22 rfl (atO q297.2) h) ?_
  refine AD.op [3] rfl (by kernel_rfl) rfl rfl (fun _ _ h => AOp.move rfl rfl (ltb rfl) rfl h) ?_
  obtain ⟨q298, h0⟩ := need_elim h0
  refine AD.op [108] rfl (by kernel_rfl) rfl rfl (fun _ _ h => AOp.indexSl rfl rfl (ltb rfl) rfl rfl el64 q298.1 q298.2 h) ?_
  obtain ⟨x299, q300, h0⟩ := idx_elim h0
  refine AD.op [109] rfl (by kernel_rfl) rfl rfl (fun _ _ h => AOp.load1 rfl rfl (ltb rfl) rfl agg22 rfl (atO q300.2) h) ?_
  refine AD.op [107, 110] rfl (by kernel_rfl) rfl rfl (fun _ _ h => AOp.fgtr rfl rfl (ltb rfl) rfl rfl h) ?_
  refine AD.done ?_
  refine AO.nil ?_
  change AC _ _ _ _
  refine AC.cond rfl (fun q301 => ?_) (fun q301 => ?_)
  ·replace h0 := cT h0 q301
   refine AC.region ?_
   refine AO.op rfl (AOp.move rfl rfl (ltb rfl) rfl ?_)
   obtain ⟨q302, h0⟩ := need_elim h0
   refine AO.op rfl (AOp.indexSl rfl rfl (ltb rfl) rfl rfl el64 q302.1 q302.2 ?_)
   obtain ⟨x303, q304, h0⟩ := idx_elim h0
   refine AO.op rfl (AOp.load1 rfl rfl (ltb rfl) rfl agg22 rfl (atO q304.2) ?_)
   refine AO.op rfl (AOp.assign rfl rfl (ltb rfl) rfl ?_)
   refine AO.nil ?_
   exact ⟨x303, _, rfl, (LeL.refl _), rfl, (okU_mk rfl (okU_cons rfl (okU_cons rfl (okU_cons rfl (okU_cons (okU_fixl (fun _ => rfl)) (okU_cons (okU_fixl (fun _ => rfl)) (okU_cons (okU_fixl (fun _ => rfl)) (okU_cons (okU_fixl (fun _ => rfl)) (okU_cons rfl (okU_cons rfl okU_nil)))))))))), h0⟩
  replace h0 := cF h0 q301
  refine AC.skip ?_
  exact ⟨x44, _, rfl, (LeL.refl _), rfl, (okU_mk rfl (okU_cons rfl (okU_cons rfl (okU_cons rfl (okU_cons (okU_fixl (fun _ => rfl)) (okU_cons (okU_fixl (fun _ => rfl)) (okU_cons (okU_fixl (fun _ => rfl)) (okU_cons (okU_fixl (fun _ => rfl)) (okU_cons rfl (okU_cons rfl okU_nil)))))))))), h0⟩
 intro g46 h0
 unfold p_intersection_k7 at h0
 refine AC.seq ?_
 refine AC.region ?_
 refine AO.op rfl (AOp.move rfl rfl (ltb rfl) rfl ?_)
 obtain ⟨q47, h0⟩ := need_elim h0
 refine AO.op rfl (AOp.indexSl rfl rfl (ltb rfl) rfl rfl el64 q47.1 q47.2 ?_)
 obtain ⟨x48, q49, h0⟩ := idx_elim h0
 refine AO.op rfl (AOp.load1 rfl rfl (ltb rfl) rfl agg22 rfl (atO q49.2) ?_)
 refine AO.op rfl (AOp.assign rfl rfl (ltb rfl) rfl ?_)
 refine AO.nil ?_
 change AC _ _ _ _
 refine AC.joinP (V := Nat) [0, 1, 2, 3, 4, 10, 11, 12, 13, 14, 15, 16] [17] 9 (fun g50 => [(17, .d (dfl g50))]) (fun g50 => [.fix 83 [.d (eS1 b0), .d (eS1 b1), .d (eS1 b2), .d (eS1 b3), .d (eS1 b4), .d (eS1 b5), .d (di .i64 b6), .d (dbool b7), .d (eS1 b8), .d (eS1 b9), .d (.ifc 87 (.ag []))], .frame pv [(0, .ptr 0 0)], .frame fr1 [(0, .ptr 0 0), (1, .d (eS1 a0)), (2, .d (eS1 a1)), (3, .d (eS1 a2)), (4, .d (eS1 a3))], .fix 22 (List.map (fun z => SV.d (keS1 z)) c7), .fix 22 (List.map (fun z => SV.d (keS1 z)) c10), .fix 22 (List.map (fun z => SV.d (keS1 z)) c13), .fix 22 (List.map (fun z => SV.d (keS1 z)) c16), .grow 22 1 (List.map keS1 [(0 : Nat), (0 : Nat)]), .frame fr18 [(9, .sl 3 1 0 (((2 : Int)).toNat) (((2 : Int)).toNat)), (10, .sl 4 1 0 (((2 : Int)).toNat) (((2 : Int)).toNat)), (11, .sl 5 1 0 (((2 : Int)).toNat) (((2 : Int)).toNat)), (12, .sl 6 1 0 (((2 : Int)).toNat) (((2 : Int)).toNat)), (13, .own 7)]]) (fun g50 => (p_intersection_k8 b0 b1 b2 b3 c7 c10 c13 c16 g22 g26 g30 g34 g38 g42 g46) g50 = some r0) rfl ?_ ?_
 ·refine AC.seq ?_
  refine AC.draw 7 mixed (by kernel_rfl) ?_
  refine AD.op [2] rfl (by kernel_rfl) rfl rfl (fun _ _ h => AOp.move rfl rfl (ltb rfl) rfl h) ?_
  obtain ⟨q285, h0⟩ := need_elim h0
  refine AD.op [118] rfl (by kernel_rfl) rfl rfl (fun _ _ h => AOp.indexSl rfl rfl (ltb rfl) rfl rfl el64 q285.1 q285.2 h) ?_
  obtain ⟨x286, q287, h0⟩ := idx_elim h0
  refine AD.op [119] rfl (by kernel_rfl) rfl rfl (fun _ _ h => AOp.load1 rfl rfl (ltb rfl) rfl agg22 rfl (atO q287.2) h) ?_
  refine AD.op [3] rfl (by kernel_rfl) rfl rfl (fun _ _ h => AOp.move rfl rfl (ltb rfl) rfl h) ?_
  obtain ⟨q288, h0⟩ := need_elim h0
  refine AD.op [121] rfl (by kernel_rfl) rfl rfl (fun _ _ h => AOp.indexSl rfl rfl (ltb rfl) rfl rfl el64 q288.1 q288.2 h) ?_
  obtain ⟨x289, q290, h0⟩ := idx_elim h0
  refine AD.op [122] rfl (by kernel_rfl) rfl rfl (fun _ _ h => AOp.load1 rfl rfl (ltb rfl) rfl agg22 rfl (atO q290.2) h) ?_
  refine AD.op [120, 123] rfl (by kernel_rfl) rfl rfl (fun _ _ h => AOp.fgtr rfl rfl (ltb rfl) rfl rfl h) ?_
  refine AD.done ?_
  refine AO.nil ?_
  change AC _ _ _ _
  refine AC.cond rfl (fun q291 => ?_) (fun q291 => ?_)
  ·replace h0 := cT h0 q291
   refine AC.region ?_
   refine AO.op rfl (AOp.move rfl rfl (ltb rfl) rfl ?_)
   obtain ⟨q292, h0⟩ := need_elim h0
   refine AO.op rfl (AOp.indexSl rfl rfl (ltb rfl) rfl rfl el64 q292.1 q292.2 ?_)
   obtain ⟨x293, q294, h0⟩ := idx_elim h0
   refine AO.op rfl (AOp.load1 rfl rfl (ltb rfl) rfl agg22 rfl (atO q294.2) ?_)
   refine AO.op rfl (AOp.assign rfl rfl (ltb rfl) rfl ?_)
   refine AO.nil ?_
   exact ⟨x293, _, rfl, (LeL.refl _), rfl, (okU_mk rfl (okU_cons rfl (okU_cons rfl (okU_cons rfl (okU_cons (okU_fixl (fun _ => rfl)) (okU_cons (okU_fixl (fun _ => rfl)) (okU_cons (okU_fixl (fun _ => rfl)) (okU_cons (okU_fixl (fun _ => rfl)) (okU_cons rfl (okU_cons rfl okU_nil)))))))))), h0⟩
  replace h0 := cF h0 q291
  refine AC.skip ?_
  exact ⟨x48, _, rfl, (LeL.refl _), rfl, (okU_mk rfl (okU_cons rfl (okU_cons rfl (okU_cons rfl (okU_cons (okU_fixl (fun _ => rfl)) (okU_cons (okU_fixl (fun _ => rfl)) (okU_cons (okU_fixl (fun _ => rfl)) (okU_cons (okU_fixl (fun _ => rfl)) (okU_cons rfl (okU_cons rfl okU_nil)))))))))), h0⟩
 intro g50 h0
 unfold p_intersection_k8 at h0
 refine AC.seq ?_
 refine AC.region ?_
 refine AO.op rfl (AOp.move rfl rfl (ltb rfl) rfl ?_)
 refine AO.op rfl (AOp.assign rfl rfl (ltb rfl) rfl ?_)
 refine AO.nil ?_
 change AC _ _ _ _
 refine AC.joinP (V := Nat) [0, 1, 2, 3, 4, 11, 12, 13, 15, 16, 17] [18] 9 (fun g51 => [(18, .d (dfl g51))]) (fun g51 => [.fix 83 [.d (eS1 b0), .d (eS1 b1), .d (eS1 b2), .d (eS1 b3), .d (eS1 b4), .d (eS1 b5), .d (di .i64 b6), .d (dbool b7), .d (eS1 b8), .d (eS1 b9), .d (.ifc 87 (.ag []))], .frame pv [(0, .ptr 0 0)], .frame fr1 [(0, .ptr 0 0), (1, .d (eS1 a0)), (2, .d (eS1 a1)), (3, .d (eS1 a2)), (4, .d (eS1 a3))], .fix 22 (List.map (fun z => SV.d (keS1 z)) c7), .fix 22 (List.map (fun z => SV.d (keS1 z)) c10), .fix 22 (List.map (fun z => SV.d (keS1 z)) c13), .fix 22 (List.map (fun z => SV.d (keS1 z)) c16), .grow 22 1 (List.map keS1 [(0 : Nat), (0 : Nat)]), .frame fr18 [(9, .sl 3 1 0 (((2 : Int)).toNat) (((2 : Int)).toNat)), (10, .sl 4 1 0 (((2 : Int)).toNat) (((2 : Int)).toNat)), (11, .sl 5 1 0 (((2 : Int)).toNat) (((2 : Int)).toNat)), (12, .sl 6 1 0 (((2 : Int)).toNat) (((2 : Int)).toNat)), (13, .own 7)]]) (fun g51 => (p_intersection_k9 b0 b1 b2 b3 c7 c10 c13 c16 g26 g30 g34 g42 g46 g50) g51 = some r0) rfl ?_ ?_
 ·refine AC.seq ?_
  refine AC.region ?_
  refine AO.op rfl (AOp.move rfl rfl (ltb rfl) rfl ?_)
  refine AO.op rfl (AOp.move rfl rfl (ltb rfl) rfl ?_)
  refine AO.op rfl (AOp.fgtr rfl rfl (ltb rfl) rfl rfl ?_)
  refine AO.nil ?_
  change AC _ _ _ _
  refine AC.cond rfl (fun q284 => ?_) (fun q284 => ?_)
  ·replace h0 := cT h0 q284
   refine AC.region ?_
   refine AO.op rfl (AOp.move rfl rfl (ltb rfl) rfl ?_)
   refine AO.op rfl (AOp.assign rfl rfl (ltb rfl) rfl ?_)
   refine AO.nil ?_
   exact ⟨g22, _, rfl, (LeL.refl _), rfl, (okU_mk rfl (okU_cons rfl (okU_cons rfl (okU_cons rfl (okU_cons (okU_fixl (fun _ => rfl)) (okU_cons (okU_fixl (fun _ => rfl)) (okU_cons (okU_fixl (fun _ => rfl)) (okU_cons (okU_fixl (fun _ => rfl)) (okU_cons rfl (okU_cons rfl okU_nil)))))))))), h0⟩
  replace h0 := cF h0 q284
  refine AC.skip ?_
  exact ⟨g38, _, rfl, (LeL.refl _), rfl, (okU_mk rfl (okU_cons rfl (okU_cons rfl (okU_cons rfl (okU_cons (okU_fixl (fun _ => rfl)) (okU_cons (okU_fixl (fun _ => rfl)) (okU_cons (okU_fixl (fun _ => rfl)) (okU_cons (okU_fixl (fun _ => rfl)) (okU_cons rfl (okU_cons rfl okU_nil)))))))))), h0⟩
 intro g51 h0
 unfold p_intersection_k9 at h0
 refine AC.seq ?_
 refine AC.region ?_
 refine AO.op rfl (AOp.move rfl rfl (ltb rfl) rfl ?_)
 refine AO.op rfl (AOp.assign rfl rfl (ltb rfl) rfl ?_)
 refine AO.nil ?_
 change AC _ _ _ _
 refine AC.joinP (V := Nat) [0, 1, 2, 3, 4, 11, 13, 15, 17, 18] [19] 9 (fun g52 => [(19, .d (dfl g52))]) (fun g52 => [.fix 83 [.d (eS1 b0), .d (eS1 b1), .d (eS1 b2), .d (eS1 b3), .d (eS1 b4), .d (eS1 b5), .d (di .i64 b6), .d (dbool b7), .d (eS1 b8), .d (eS1 b9), .d (.ifc 87 (.ag []))], .frame pv [(0, .ptr 0 0)], .frame fr1 [(0, .ptr 0 0), (1, .d (eS1 a0)), (2, .d (eS1 a1)), (3, .d (eS1 a2)), (4, .d (eS1 a3))], .fix 22 (List.map (fun z => SV.d (keS1 z)) c7), .fix 22 (List.map (fun z => SV.d (keS1 z)) c10), .fix 22 (List.map (fun z => SV.d (keS1 z)) c13), .fix 22 (List.map (fun z => SV.d (keS1 z)) c16), .grow 22 1 (List.map keS1 [(0 : Nat), (0 : Nat)]), .frame fr18 [(9, .sl 3 1 0 (((2 : Int)).toNat) (((2 : Int)).toNat)), (10, .sl 4 1 0 (((2 : Int)).toNat) (((2 : Int)).toNat)), (11, .sl 5 1 0 (((2 : Int)).toNat) (((2 : Int)).toNat)), (12, .sl 6 1 0 (((2 : Int)).toNat) (((2 : Int)).toNat)), (13, .own 7)]]) (fun g52 => (p_intersection_k10 b0 b1 b2 b3 c7 c10 c13 c16 g26 g34 g42 g50 g51) g52 = some r0) rfl ?_ ?_
 ·refine AC.seq ?_
  refine AC.region ?_
  refine AO.op rfl (AOp.move rfl rfl (ltb rfl) rfl ?_)
  refine AO.op rfl (AOp.move rfl rfl (ltb rfl) rfl ?_)
  refine AO.op rfl (AOp.flss rfl rfl (ltb rfl) rfl rfl ?_)
  refine AO.nil ?_
  change AC _ _ _ _
  refine AC.cond rfl (fun q283 => ?_) (fun q283 => ?_)
  ·replace h0 := cT h0 q283
   refine AC.region ?_
   refine AO.op rfl (AOp.move rfl rfl (ltb rfl) rfl ?_)
   refine AO.op rfl (AOp.assign rfl rfl (ltb rfl) rfl ?_)
   refine AO.nil ?_
   exact ⟨g30, _, rfl, (LeL.refl _), rfl, (okU_mk rfl (okU_cons rfl (okU_cons rfl (okU_cons rfl (okU_cons (okU_fixl (fun _ => rfl)) (okU_cons (okU_fixl (fun _ => rfl)) (okU_cons (okU_fixl (fun _ => rfl)) (okU_cons (okU_fixl (fun _ => rfl)) (okU_cons rfl (okU_cons rfl okU_nil)))))))))), h0⟩
  replace h0 := cF h0 q283
  refine AC.skip ?_
  exact ⟨g46, _, rfl, (LeL.refl _), rfl, (okU_mk rfl (okU_cons rfl (okU_cons rfl (okU_cons rfl (okU_cons (okU_fixl (fun _ => rfl)) (okU_cons (okU_fixl (fun _ => rfl)) (okU_cons (okU_fixl (fun _ => rfl)) (okU_cons (okU_fixl (fun _ => rfl)) (okU_cons rfl (okU_cons rfl okU_nil)))))))))), h0⟩
 intro g52 h0
 unfold p_intersection_k10 at h0
 refine AC.seq ?_
 refine AC.region ?_
 refine AO.op rfl (AOp.move rfl rfl (ltb rfl) rfl ?_)
 refine AO.op rfl (AOp.assign rfl rfl (ltb rfl) rfl ?_)
 refine AO.nil ?_
 change AC _ _ _ _
 refine AC.joinP (V := Nat) [0, 1, 2, 3, 4, 13, 17, 18, 19] [20] 9 (fun g53 => [(20, .d (dfl g53))]) (fun g53 => [.fix 83 [.d (eS1 b0), .d (eS1 b1), .d (eS1 b2), .d (eS1 b3), .d (eS1 b4), .d (eS1 b5), .d (di .i64 b6), .d (dbool b7), .d (eS1 b8), .d (eS1 b9), .d (.ifc 87 (.ag []))], .frame pv [(0, .ptr 0 0)], .frame fr1 [(0, .ptr 0 0), (1, .d (eS1 a0)), (2, .d (eS1 a1)), (3, .d (eS1 a2)), (4, .d (eS1 a3))], .fix 22 (List.map (fun z => SV.d (keS1 z)) c7), .fix 22 (List.map (fun z => SV.d (keS1 z)) c10), .fix 22 (List.map (fun z => SV.d (keS1 z)) c13), .fix 22 (List.map (fun z => SV.d (keS1 z)) c16), .grow 22 1 (List.map keS1 [(0 : Nat), (0 : Nat)]), .frame fr18 [(9, .sl 3 1 0 (((2 : Int)).toNat) (((2 : Int)).toNat)), (10, .sl 4 1 0 (((2 : Int)).toNat) (((2 : Int)).toNat)), (11, .sl 5 1 0 (((2 : Int)).toNat) (((2 : Int)).toNat)), (12, .sl 6 1 0 (((2 : Int)).toNat) (((2 : Int)).toNat)), (13, .own 7)]]) (fun g53 => (p_intersection_k11 b0 b1 b2 b3 c7 c10 c13 c16 g34 g50 g51 g52) g53 = some r0) rfl ?_ ?_
 ·refine AC.seq ?_
  refine AC.region ?_
  refine AO.op rfl (AOp.move rfl rfl (ltb rfl) rfl ?_)
  refine AO.op rfl (AOp.move rfl rfl (ltb rfl) rfl ?_)
  refine AO.op rfl (AOp.fgtr rfl rfl (ltb rfl) rfl rfl ?_)
  refine AO.nil ?_
  change AC _ _ _ _
  refine AC.cond rfl (fun q282 => ?_) (fun q282 => ?_)
  ·replace h0 := cT h0 q282
   refine AC.region ?_
   refine AO.op rfl (AOp.move rfl rfl (ltb rfl) rfl ?_)
   refine AO.op rfl (AOp.assign rfl rfl (ltb rfl) rfl ?_)
   refine AO.nil ?_
   exact ⟨g26, _, rfl, (LeL.refl _), rfl, (okU_mk rfl (okU_cons rfl (okU_cons rfl (okU_cons rfl (okU_cons (okU_fixl (fun _ => rfl)) (okU_cons (okU_fixl (fun _ => rfl)) (okU_cons (okU_fixl (fun _ => rfl)) (okU_cons (okU_fixl (fun _ => rfl)) (okU_cons rfl (okU_cons rfl okU_nil)))))))))), h0⟩
  replace h0 := cF h0 q282
  refine AC.skip ?_
  exact ⟨g42, _, rfl, (LeL.refl _), rfl, (okU_mk rfl (okU_cons rfl (okU_cons rfl (okU_cons rfl (okU_cons (okU_fixl (fun _ => rfl)) (okU_cons (okU_fixl (fun _ => rfl)) (okU_cons (okU_fixl (fun _ => rfl)) (okU_cons (okU_fixl (fun _ => rfl)) (okU_cons rfl (okU_cons rfl okU_nil)))))))))), h0⟩
 intro g53 h0
 unfold p_intersection_k11 at h0
 refine AC.seq ?_
 refine AC.region ?_
 refine AO.op rfl (AOp.move rfl rfl (ltb rfl) rfl ?_)
 refine AO.op rfl (AOp.assign rfl rfl (ltb rfl) rfl ?_)
 refine AO.nil ?_
 change AC _ _ _ _
 refine AC.joinP (V := Nat) [0, 1, 2, 3, 4, 18, 19, 20] [21] 9 (fun g54 => [(21, .d (dfl g54))]) (fun g54 => [.fix 83 [.d (eS1 b0), .d (eS1 b1), .d (eS1 b2), .d (eS1 b3), .d (eS1 b4), .d (eS1 b5), .d (di .i64 b6), .d (dbool b7), .d (eS1 b8), .d (eS1 b9), .d (.ifc 87 (.ag []))], .frame pv [(0, .ptr 0 0)], .frame fr1 [(0, .ptr 0 0), (1, .d (eS1 a0)), (2, .d (eS1 a1)), (3, .d (eS1 a2)), (4, .d (eS1 a3))], .fix 22 (List.map (fun z => SV.d (keS1 z)) c7), .fix 22 (List.map (fun z => SV.d (keS1 z)) c10), .fix 22 (List.map (fun z => SV.d (keS1 z)) c13), .fix 22 (List.map (fun z => SV.d (keS1 z)) c16), .grow 22 1 (List.map keS1 [(0 : Nat), (0 : Nat)]), .frame fr18 [(9, .sl 3 1 0 (((2 : Int)).toNat) (((2 : Int)).toNat)), (10, .sl 4 1 0 (((2 : Int)).toNat) (((2 : Int)).toNat)), (11, .sl 5 1 0 (((2 : Int)).toNat) (((2 : Int)).toNat)), (12, .sl 6 1 0 (((2 : Int)).toNat) (((2 : Int)).toNat)), (13, .own 7)]]) (fun g54 => (p_intersection_k12 b0 b1 b2 b3 c7 c10 c13 c16 g51 g52 g53) g54 = some r0) rfl ?_ ?_
 ·refine AC.seq ?_
  refine AC.region ?_
  refine AO.op rfl (AOp.move rfl rfl (ltb rfl) rfl ?_)
  refine AO.op rfl (AOp.move rfl rfl (ltb rfl) rfl ?_)
  refine AO.op rfl (AOp.flss rfl rfl (ltb rfl) rfl rfl ?_)
  refine AO.nil ?_
  change AC _ _ _ _
  refine AC.cond rfl (fun q281 => ?_) (fun q281 => ?_)
  ·replace h0 := cT h0 q281
   refine AC.region ?_
   refine AO.op rfl (AOp.move rfl rfl (ltb rfl) rfl ?_)
   refine AO.op rfl (AOp.assign rfl rfl (ltb rfl) rfl ?_)
   refine AO.nil ?_
   exact ⟨g34, _, rfl, (LeL.refl _), rfl, (okU_mk rfl (okU_cons rfl (okU_cons rfl (okU_cons rfl (okU_cons (okU_fixl (fun _ => rfl)) (okU_cons (okU_fixl (fun _ => rfl)) (okU_cons (okU_fixl (fun _ => rfl)) (okU_cons (okU_fixl (fun _ => rfl)) (okU_cons rfl (okU_cons rfl okU_nil)))))))))), h0⟩
  replace h0 := cF h0 q281
  refine AC.skip ?_
  exact ⟨g50, _, rfl, (LeL.refl _), rfl, (okU_mk rfl (okU_cons rfl (okU_cons rfl (okU_cons rfl (okU_cons (okU_fixl (fun _ => rfl)) (okU_cons (okU_fixl (fun _ => rfl)) (okU_cons (okU_fixl (fun _ => rfl)) (okU_cons (okU_fixl (fun _ => rfl)) (okU_cons rfl (okU_cons rfl okU_nil)))))))))), h0⟩
 intro g54 h0
 unfold p_intersection_k12 at h0
 refine AC.seq ?_
 refine AC.region ?_
 refine AO.op rfl (AOp.move rfl rfl (ltb rfl) rfl ?_)
 refine AO.op rfl (AOp.move rfl rfl (ltb rfl) rfl ?_)
 obtain ⟨z55, q56, h0⟩ := bind_elim h0
 refine AO.op rfl (AOp.farith rfl rfl (ltb rfl) rfl rfl q56 ?_)
 obtain ⟨z57, q58, h0⟩ := bind_elim h0
 refine AO.op rfl (AOp.farith rfl rfl (ltb rfl) rfl rfl q58 ?_)
 refine AO.op rfl (AOp.assign rfl rfl (ltb rfl) rfl ?_)
 refine AO.nil ?_
 change AC _ _ _ _
 refine AC.seq ?_
 refine AC.region ?_
 refine AO.op rfl (AOp.move rfl rfl (ltb rfl) rfl ?_)
 refine AO.op rfl (AOp.move rfl rfl (ltb rfl) rfl ?_)
 obtain ⟨z59, q60, h0⟩ := bind_elim h0
 refine AO.op rfl (AOp.farith rfl rfl (ltb rfl) rfl rfl q60 ?_)
 obtain ⟨z61, q62, h0⟩ := bind_elim h0
 refine AO.op rfl (AOp.farith rfl rfl (ltb rfl) rfl rfl q62 ?_)
 refine AO.op rfl (AOp.assign rfl rfl (ltb rfl) rfl ?_)
 refine AO.nil ?_
 change AC _ _ _ _
 refine AC.seq ?_
 refine AC.region ?_
 refine AO.op rfl (AOp.move rfl rfl (ltb rfl) rfl ?_)
 refine AO.op rfl (AOp.move rfl rfl (ltb rfl) rfl ?_)
 obtain ⟨q63, h0⟩ := need_elim h0
 refine AO.op rfl (AOp.indexOwn (cells := (List.map keS1 [(0 : Nat), (0 : Nat)])) (n := [(0 : Nat), (0 : Nat)].length) rfl rfl (ltb rfl) rfl rfl el64 rfl (by decide) (len1 _ _) q63.1 q63.2 ?_)
 obtain ⟨q64, h0⟩ := need_elim h0
 refine AO.op rfl (AOp.storeOL (f := keS1) (l := [(0 : Nat), (0 : Nat)]) (i := ((0 : Int)).toNat) (v := z57) rfl rfl rfl rfl size22 rfl rfl rfl q64 ?_)
 refine AO.nil ?_
 change AC _ _ _ _
 refine AC.seq ?_
 refine AC.region ?_
 refine AO.op rfl (AOp.move rfl rfl (ltb rfl) rfl ?_)
 refine AO.op rfl (AOp.move rfl rfl (ltb rfl) rfl ?_)
 obtain ⟨q65, h0⟩ := need_elim h0
 refine AO.op rfl (AOp.indexOwn (cells := (List.map keS1 ([(0 : Nat), (0 : Nat)].set ((0 : Int)).toNat z57))) (n := ([(0 : Nat), (0 : Nat)].set ((0 : Int)).toNat z57).length) rfl rfl (ltb rfl) rfl rfl el64 rfl (by decide) (len1 _ _) q65.1 q65.2 ?_)
 obtain ⟨q66, h0⟩ := need_elim h0
 refine AO.op rfl (AOp.storeOL (f := keS1) (l := ([(0 : Nat), (0 : Nat)].set ((0 : Int)).toNat z57)) (i := ((1 : Int)).toNat) (v := z61) rfl rfl rfl rfl size22 rfl rfl rfl q66 ?_)
 refine AO.nil ?_
 change AC _ _ _ _
 refine AC.seq ?_
 refine AC.draw 8 mixed (by kernel_rfl) ?_
 refine AD.op [0] rfl (by kernel_rfl) rfl rfl (fun _ _ h => AOp.move rfl rfl (ltb rfl) rfl h) ?_
 obtain ⟨q67, h0⟩ := need_elim h0
 refine AD.op [162] rfl (by kernel_rfl) rfl rfl (fun _ _ h => AOp.indexSl rfl rfl (ltb rfl) rfl rfl el64 q67.1 q67.2 h) ?_
 obtain ⟨x68, q69, h0⟩ := idx_elim h0
 refine AD.op [163] rfl (by kernel_rfl) rfl rfl (fun _ _ h => AOp.load1 rfl rfl (ltb rfl) rfl agg22 rfl (atO q69.2) h) ?_
 refine AD.op [4] rfl (by kernel_rfl) rfl rfl (fun _ _ h => AOp.move rfl rfl (ltb rfl) rfl h) ?_
 obtain ⟨q70, h0⟩ := need_elim h0
 refine AD.op [165] rfl (by kernel_rfl) rfl rfl (fun _ _ h => AOp.indexOwn (cells := (List.map keS1 (([(0 : Nat), (0 : Nat)].set ((0 : Int)).toNat z57).set ((1 : Int)).toNat z61))) (n := (([(0 : Nat), (0 : Nat)].set ((0 : Int)).toNat z57).set ((1 : Int)).toNat z61).length) rfl rfl (ltb rfl) rfl rfl el64 rfl (by decide) (len1 _ _) q70.1 q70.2 h) ?_
 obtain ⟨x71, q72, h0⟩ := idx_elim h0
 refine AD.op [166] rfl (by kernel_rfl) rfl rfl (fun _ _ h => AOp.loadO1 rfl rfl (ltb rfl) rfl agg22 rfl (at1 q72.2) h) ?_
 obtain ⟨z73, q74, h0⟩ := bind_elim h0
 refine AD.op [164, 167] rfl (by kernel_rfl) rfl rfl (fun _ _ h => AOp.farith rfl rfl (ltb rfl) rfl rfl q74 h) ?_
 obtain ⟨q75, h0⟩ := need_elim h0
 refine AD.op [162] rfl (by kernel_rfl) rfl rfl (fun _ _ h => AOp.indexSl rfl rfl (ltb rfl) rfl rfl el64 q75.1 q75.2 h) ?_
 refine AD.done ?_
 obtain ⟨q76, h0⟩ := need_elim h0
 refine AO.op rfl (AOp.storeL (f := fun z => SV.d (keS1 z)) (l := c7) (i := ((0 : Int)).toNat) (v := z73) rfl rfl rfl rfl size22 rfl rfl rfl q76 ?_)
 refine AO.nil ?_
 change AC _ _ _ _
 refine AC.seq ?_
 refine AC.draw 8 mixed (by kernel_rfl) ?_
 refine AD.op [0] rfl (by kernel_rfl) rfl rfl (fun _ _ h => AOp.move rfl rfl (ltb rfl) rfl h) ?_
 obtain ⟨q77, h0⟩ := need_elim h0
 refine AD.op [170] rfl (by kernel_rfl) rfl rfl (fun _ _ h => AOp.indexSl rfl rfl (ltb rfl) rfl rfl el64 q77.1 q77.2 h) ?_
 obtain ⟨x78, q79, h0⟩ := idx_elim h0
 refine AD.op [171] rfl (by kernel_rfl) rfl rfl (fun _ _ h => AOp.load1 rfl rfl (ltb rfl) rfl agg22 rfl (atO q79.2) h) ?_
 refine AD.op [4] rfl (by kernel_rfl) rfl rfl (fun _ _ h => AOp.move rfl rfl (ltb rfl) rfl h) ?_
 obtain ⟨q80, h0⟩ := need_elim h0
 refine AD.op [173] rfl (by kernel_rfl) rfl rfl (fun _ _ h => AOp.indexOwn (cells := (List.map keS1 (([(0 : Nat), (0 : Nat)].set ((0 : Int)).toNat z57).set ((1 : Int)).toNat z61))) (n := (([(0 : Nat), (0 : Nat)].set ((0 : Int)).toNat z57).set ((1 : Int)).toNat z61).length) rfl rfl (ltb rfl) rfl rfl el64 rfl (by decide) (len1 _ _) q80.1 q80.2 h) ?_
 obtain ⟨x81, q82, h0⟩ := idx_elim h0
 refine AD.op [174] rfl (by kernel_rfl) rfl rfl (fun _ _ h => AOp.loadO1 rfl rfl (ltb rfl) rfl agg22 rfl (at1 q82.2) h) ?_
 obtain ⟨z83, q84, h0⟩ := bind_elim h0
 refine AD.op [172, 175] rfl (by kernel_rfl) rfl rfl (fun _ _ h => AOp.farith rfl rfl (ltb rfl) rfl rfl q84 h) ?_
 obtain ⟨q85, h0⟩ := need_elim h0
 refine AD.op [170] rfl (by kernel_rfl) rfl rfl (fun _ _ h => AOp.indexSl rfl rfl (ltb rfl) rfl rfl el64 q85.1 q85.2 h) ?_
 refine AD.done ?_
 obtain ⟨q86, h0⟩ := need_elim h0
 refine AO.op rfl (AOp.storeL (f := fun z => SV.d (keS1 z)) (l := (c7.set ((0 : Int)).toNat z73)) (i := ((1 : Int)).toNat) (v := z83) rfl rfl rfl rfl size22 rfl rfl rfl q86 ?_)
 refine AO.nil ?_
 change AC _ _ _ _
 refine AC.seq ?_
 refine AC.draw 8 mixed (by kernel_rfl) ?_
 refine AD.op [1] rfl (by kernel_rfl) rfl rfl (fun _ _ h => AOp.move rfl rfl (ltb rfl) rfl h) ?_
 obtain ⟨q87, h0⟩ := need_elim h0
 refine AD.op [178] rfl (by kernel_rfl) rfl rfl (fun _ _ h => AOp.indexSl rfl rfl (ltb rfl) rfl rfl el64 q87.1 q87.2 h) ?_
 obtain ⟨x88, q89, h0⟩ := idx_elim h0
 refine AD.op [179] rfl (by kernel_rfl) rfl rfl (fun _ _ h => AOp.load1 rfl rfl (ltb rfl) rfl agg22 rfl (atO q89.2) h) ?_
 refine AD.op [4] rfl (by kernel_rfl) rfl rfl (fun _ _ h => AOp.move rfl rfl (ltb rfl) rfl h) ?_
 obtain ⟨q90, h0⟩ := need_elim h0
 refine AD.op [181] rfl (by kernel_rfl) rfl rfl (fun _ _ h => AOp.indexOwn (cells := (List.map keS1 (([(0 : Nat), (0 : Nat)].set ((0 : Int)).toNat z57).set ((1 : Int)).toNat z61))) (n := (([(0 : Nat), (0 : Nat)].set ((0 : Int)).toNat z57).set ((1 : Int)).toNat z61).length) rfl rfl (ltb rfl) rfl rfl el64 rfl (by decide) (len1 _ _) q90.1 q90.2 h) ?_
 obtain ⟨x91, q92, h0⟩ := idx_elim h0
 refine AD.op [182] rfl (by kernel_rfl) rfl rfl (fun _ _ h => AOp.loadO1 rfl rfl (ltb rfl) rfl agg22 rfl (at1 q92.2) h) ?_
 obtain ⟨z93, q94, h0⟩ := bind_elim h0
 refine AD.op [180, 183] rfl (by kernel_rfl) rfl rfl (fun _ _ h => AOp.farith rfl rfl (ltb rfl) rfl rfl q94 h) ?_
 obtain ⟨q95, h0⟩ := need_elim h0
 refine AD.op [178] rfl (by kernel_rfl) rfl rfl (fun _ _ h => AOp.indexSl rfl rfl (ltb rfl) rfl rfl el64 q95.1 q95.2 h) ?_
 refine AD.done ?_
 obtain ⟨q96, h0⟩ := need_elim h0
 refine AO.op rfl (AOp.storeL (f := fun z => SV.d (keS1 z)) (l := c10) (i := ((0 : Int)).toNat) (v := z93) rfl rfl rfl rfl size22 rfl rfl rfl q96 ?_)
 refine AO.nil ?_
 change AC _ _ _ _
 refine AC.seq ?_
 refine AC.draw 8 mixed (by kernel_rfl) ?_
 refine AD.op [1] rfl (by kernel_rfl) rfl rfl (fun _ _ h => AOp.move rfl rfl (ltb rfl) rfl h) ?_
 obtain ⟨q97, h0⟩ := need_elim h0
 refine AD.op [186] rfl (by kernel_rfl) rfl rfl (fun _ _ h => AOp.indexSl rfl rfl (ltb rfl) rfl rfl el64 q97.1 q97.2 h) ?_
 obtain ⟨x98, q99, h0⟩ := idx_elim h0
 refine AD.op [187] rfl (by kernel_rfl) rfl rfl (fun _ _ h => AOp.load1 rfl rfl (ltb rfl) rfl agg22 rfl (atO q99.2) h) ?_
 refine AD.op [4] rfl (by kernel_rfl) rfl rfl (fun _ _ h => AOp.move rfl rfl (ltb rfl) rfl h) ?_
 obtain ⟨q100, h0⟩ := need_elim h0
 refine AD.op [189] rfl (by kernel_rfl) rfl rfl (fun _ _ h => AOp.indexOwn (cells := (List.map keS1 (([(0 : Nat), (0 : Nat)].set ((0 : Int)).toNat z57).set ((1 : Int)).toNat z61))) (n := (([(0 : Nat), (0 : Nat)].set ((0 : Int)).toNat z57).set ((1 : Int)).toNat z61).length) rfl rfl (ltb rfl) rfl rfl el64 rfl (by decide) (len1 _ _) q100.1 q100.2 h) ?_
 obtain ⟨x101, q102, h0⟩ := idx_elim h0
 refine AD.op [190] rfl (by kernel_rfl) rfl rfl (fun _ _ h => AOp.loadO1 rfl rfl (ltb rfl) rfl agg22 rfl (at1 q102.2) h) ?_
 obtain ⟨z103, q104, h0⟩ := bind_elim h0
 refine AD.op [188, 191] rfl (by kernel_rfl) rfl rfl (fun _ _ h => AOp.farith rfl rfl (ltb rfl) rfl rfl q104 h) ?_
 obtain ⟨q105, h0⟩ := need_elim h0
 refine AD.op [186] rfl (by kernel_rfl) rfl rfl (fun _ _ h => AOp.indexSl rfl rfl (ltb rfl) rfl rfl el64 q105.1 q105.2 h) ?_
 refine AD.done ?_
 obtain ⟨q106, h0⟩ := need_elim h0
 refine AO.op rfl (AOp.storeL (f := fun z => SV.d (keS1 z)) (l := (c10.set ((0 : Int)).toNat z93)) (i := ((1 : Int)).toNat) (v := z103) rfl rfl rfl rfl size22 rfl rfl rfl q106 ?_)
 refine AO.objs (obs' := [.fix 83 [.d (eS1 b0), .d (eS1 b1), .d (eS1 b2), .d (eS1 b3), .d (eS1 b4), .d (eS1 b5), .d (di .i64 b6), .d (dbool b7), .d (eS1 b8), .d (eS1 b9), .d (.ifc 87 (.ag []))], .frame pv [(0, .ptr 0 0)], .frame fr1 [(0, .ptr 0 0), (1, .d (eS1 a0)), (2, .d (eS1 a1)), (3, .d (eS1 a2)), (4, .d (eS1 a3))], .fix 22 (List.map (fun z => SV.d (keS1 z)) ((c7.set ((0 : Int)).toNat z73).set ((1 : Int)).toNat z83)), .fix 22 (List.map (fun z => SV.d (keS1 z)) ((c10.set ((0 : Int)).toNat z93).set ((1 : Int)).toNat z103)), .fix 22 (List.map (fun z => SV.d (keS1 z)) c13), .fix 22 (List.map (fun z => SV.d (keS1 z)) c16), .grow 22 1 (List.map keS1 (([(0 : Nat), (0 : Nat)].set ((0 : Int)).toNat z57).set ((1 : Int)).toNat z61)), .frame fr18 [(9, .sl 3 1 0 (((2 : Int)).toNat) (((2 : Int)).toNat)), (10, .sl 4 1 0 (((2 : Int)).toNat) (((2 : Int)).toNat)), (11, .sl 5 1 0 (((2 : Int)).toNat) (((2 : Int)).toNat)), (12, .sl 6 1 0 (((2 : Int)).toNat) (((2 : Int)).toNat)), (13, .own 7)]]) rfl ?_
 refine AO.nil ?_
 change AC _ _ _ _
 refine AC.seq ?_
 refine AC.draw 8 mixed (by kernel_rfl) ?_
 refine AD.op [2] rfl (by kernel_rfl) rfl rfl (fun _ _ h => AOp.move rfl rfl (ltb rfl) rfl h) ?_
 obtain ⟨q107, h0⟩ := need_elim h0
 refine AD.op [194] rfl (by kernel_rfl) rfl rfl (fun _ _ h => AOp.indexSl rfl rfl (ltb rfl) rfl rfl el64 q107.1 q107.2 h) ?_
 obtain ⟨x108, q109, h0⟩ := idx_elim h0
 refine AD.op [195] rfl (by kernel_rfl) rfl rfl (fun _ _ h => AOp.load1 rfl rfl (ltb rfl) rfl agg22 rfl (atO q109.2) h) ?_
 refine AD.op [4] rfl (by kernel_rfl) rfl rfl (fun _ _ h => AOp.move rfl rfl (ltb rfl) rfl h) ?_
 obtain ⟨q110, h0⟩ := need_elim h0
 refine AD.op [197] rfl (by kernel_rfl) rfl rfl (fun _ _ h => AOp.indexOwn (cells := (List.map keS1 (([(0 : Nat), (0 : Nat)].set ((0 : Int)).toNat z57).set ((1 : Int)).toNat z61))) (n := (([(0 : Nat), (0 : Nat)].set ((0 : Int)).toNat z57).set ((1 : Int)).toNat z61).length) rfl rfl (ltb rfl) rfl rfl el64 rfl (by decide) (len1 _ _) q110.1 q110.2 h) ?_
 obtain ⟨x111, q112, h0⟩ := idx_elim h0
 refine AD.op [198] rfl (by kernel_rfl) rfl rfl (fun _ _ h => AOp.loadO1 rfl rfl (ltb rfl) rfl agg22 rfl (at1 q112.2) h) ?_
 obtain ⟨z113, q114, h0⟩ := bind_elim h0
 refine AD.op [196, 199] rfl (by kernel_rfl) rfl rfl (fun _ _ h => AOp.farith rfl rfl (ltb rfl) rfl rfl q114 h) ?_
 obtain ⟨q115, h0⟩ := need_elim h0
 refine AD.op [194] rfl (by kernel_rfl) rfl rfl (fun _ _ h => AOp.indexSl rfl rfl (ltb rfl) rfl rfl el64 q115.1 q115.2 h) ?_
 refine AD.done ?_
 obtain ⟨q116, h0⟩ := need_elim h0
 refine AO.op rfl (AOp.storeL (f := fun z => SV.d (keS1 z)) (l := c13) (i := ((0 : Int)).toNat) (v := z113) rfl rfl rfl rfl size22 rfl rfl rfl q116 ?_)
 refine AO.nil ?_
 change AC _ _ _ _
 refine AC.seq ?_
 refine AC.draw 8 mixed (by kernel_rfl) ?_
 refine AD.op [2] rfl (by kernel_rfl) rfl rfl (fun _ _ h => AOp.move rfl rfl (ltb rfl) rfl h) ?_
 obtain ⟨q117, h0⟩ := need_elim h0
 refine AD.op [202] rfl (by kernel_rfl) rfl rfl (fun _ _ h => AOp.indexSl rfl rfl (ltb rfl) rfl rfl el64 q117.1 q117.2 h) ?_
 obtain ⟨x118, q119, h0⟩ := idx_elim h0
 refine AD.op [203] rfl (by kernel_rfl) rfl rfl (fun _ _ h => AOp.load1 rfl rfl (ltb rfl) rfl agg22 rfl (atO q119.2) h) ?_
 refine AD.op [4] rfl (by kernel_rfl) rfl rfl (fun _ _ h => AOp.move rfl rfl (ltb rfl) rfl h) ?_
 obtain ⟨q120, h0⟩ := need_elim h0
 refine AD.op [205] rfl (by kernel_rfl) rfl rfl (fun _ _ h => AOp.indexOwn (cells := (List.map keS1 (([(0 : Nat), (0 : Nat)].set ((0 : Int)).toNat z57).set ((1 : Int)).toNat z61))) (n := (([(0 : Nat), (0 : Nat)].set ((0 : Int)).toNat z57).set ((1 : Int)).toNat z61).length) rfl rfl (ltb rfl) rfl rfl el64 rfl (by decide) (len1 _ _) q120.1 q120.2 h) ?_
 obtain ⟨x121, q122, h0⟩ := idx_elim h0
 refine AD.op [206] rfl (by kernel_rfl) rfl rfl (fun _ _ h => AOp.loadO1 rfl rfl (ltb rfl) rfl agg22 rfl (at1 q122.2) h) ?_
 obtain ⟨z123, q124, h0⟩ := bind_elim h0
 refine AD.op [204, 207] rfl (by kernel_rfl) rfl rfl (fun _ _ h => AOp.farith rfl rfl (ltb rfl) rfl rfl q124 h) ?_
 obtain ⟨q125, h0⟩ := need_elim h0
 refine AD.op [202] rfl (by kernel_rfl) rfl rfl (fun _ _ h => AOp.indexSl rfl rfl (ltb rfl) rfl rfl el64 q125.1 q125.2 h) ?_
 refine AD.done ?_
 obtain ⟨q126, h0⟩ := need_elim h0
 refine AO.op rfl (AOp.storeL (f := fun z => SV.d (keS1 z)) (l := (c13.set ((0 : Int)).toNat z113)) (i := ((1 : Int)).toNat) (v := z123) rfl rfl rfl rfl size22 rfl rfl rfl q126 ?_)
 refine AO.nil ?_
 change AC _ _ _ _
 refine AC.seq ?_
 refine AC.draw 8 mixed (by kernel_rfl) ?_
 refine AD.op [3] rfl (by kernel_rfl) rfl rfl (fun _ _ h => AOp.move rfl rfl (ltb rfl) rfl h) ?_
 obtain ⟨q127, h0⟩ := need_elim h0
 refine AD.op [210] rfl (by kernel_rfl) rfl rfl (fun _ _ h => AOp.indexSl rfl rfl (ltb rfl) rfl rfl el64 q127.1 q127.2 h) ?_
 obtain ⟨x128, q129, h0⟩ := idx_elim h0
 refine AD.op [211] rfl (by kernel_rfl) rfl rfl (fun _ _ h => AOp.load1 rfl rfl (ltb rfl) rfl agg22 rfl (atO q129.2) h) ?_
 refine AD.op [4] rfl (by kernel_rfl) rfl rfl (fun _ _ h => AOp.move rfl rfl (ltb rfl) rfl h) ?_
 obtain ⟨q130, h0⟩ := need_elim h0
 refine AD.op [213] rfl (by kernel_rfl) rfl rfl (fun _ _ h => AOp.indexOwn (cells := (List.map keS1 (([(0 : Nat), (0 : Nat)].set ((0 : Int)).toNat z57).set ((1 : Int)).toNat z61))) (n := (([(0 : Nat), (0 : Nat)].set ((0 : Int)).toNat z57).set ((1 : Int)).toNat z61).length) rfl rfl (ltb rfl) rfl rfl el64 rfl (by decide) (len1 _ _) q130.1 q130.2 h) ?_
 obtain ⟨x131, q132, h0⟩ := idx_elim h0
 refine AD.op [214] rfl (by kernel_rfl) rfl rfl (fun _ _ h => AOp.loadO1 rfl rfl (ltb rfl) rfl agg22 rfl (at1 q132.2) h) ?_
 obtain ⟨z133, q134, h0⟩ := bind_elim h0
 refine AD.op [212, 215] rfl (by kernel_rfl) rfl rfl (fun _ _ h => AOp.farith rfl rfl (ltb rfl) rfl rfl q134 h) ?_
 obtain ⟨q135, h0⟩ := need_elim h0
 refine AD.op [210] rfl (by kernel_rfl) rfl rfl (fun _ _ h => AOp.indexSl rfl rfl (ltb rfl) rfl rfl el64 q135.1 q135.2 h) ?_
 refine AD.done ?_
 obtain ⟨q136, h0⟩ := need_elim h0
 refine AO.op rfl (AOp.storeL (f := fun z => SV.d (keS1 z)) (l := c16) (i := ((0 : Int)).toNat) (v := z133) rfl rfl rfl rfl size22 rfl rfl rfl q136 ?_)
 refine AO.nil ?_
 change AC _ _ _ _
 refine AC.draw 8 mixed (by kernel_rfl) ?_
 refine AD.op [3] rfl (by kernel_rfl) rfl rfl (fun _ _ h => AOp.move rfl rfl (ltb rfl) rfl h) ?_
 obtain ⟨q137, h0⟩ := need_elim h0
 refine AD.op [218] rfl (by kernel_rfl) rfl rfl (fun _ _ h => AOp.indexSl rfl rfl (ltb rfl) rfl rfl el64 q137.1 q137.2 h) ?_
 obtain ⟨x138, q139, h0⟩ := idx_elim h0
 refine AD.op [219] rfl (by kernel_rfl) rfl rfl (fun _ _ h => AOp.load1 rfl rfl (ltb rfl) rfl agg22 rfl (atO q139.2) h) ?_
 refine AD.op [4] rfl (by kernel_rfl) rfl rfl (fun _ _ h => AOp.move rfl rfl (ltb rfl) rfl h) ?_
 obtain ⟨q140, h0⟩ := need_elim h0
 refine AD.op [221] rfl (by kernel_rfl) rfl rfl (fun _ _ h => AOp.indexOwn (cells := (List.map keS1 (([(0 : Nat), (0 : Nat)].set ((0 : Int)).toNat z57).set ((1 : Int)).toNat z61))) (n := (([(0 : Nat), (0 : Nat)].set ((0 : Int)).toNat z57).set ((1 : Int)).toNat z61).length) rfl rfl (ltb rfl) rfl rfl el64 rfl (by decide) (len1 _ _) q140.1 q140.2 h) ?_
 obtain ⟨x141, q142, h0⟩ := idx_elim h0
 refine AD.op [222] rfl (by kernel_rfl) rfl rfl (fun _ _ h => AOp.loadO1 rfl rfl (ltb rfl) rfl agg22 rfl (at1 q142.2) h) ?_
 obtain ⟨z143, q144, h0⟩ := bind_elim h0
 refine AD.op [220, 223] rfl (by kernel_rfl) rfl rfl (fun _ _ h => AOp.farith rfl rfl (ltb rfl) rfl rfl q144 h) ?_
 obtain ⟨q145, h0⟩ := need_elim h0
 refine AD.op [218] rfl (by kernel_rfl) rfl rfl (fun _ _ h => AOp.indexSl rfl rfl (ltb rfl) rfl rfl el64 q145.1 q145.2 h) ?_
 refine AD.done ?_
 obtain ⟨q146, h0⟩ := need_elim h0
 refine AO.op rfl (AOp.storeL (f := fun z => SV.d (keS1 z)) (l := (c16.set ((0 : Int)).toNat z133)) (i := ((1 : Int)).toNat) (v := z143) rfl rfl rfl rfl size22 rfl rfl rfl q146 ?_)
 refine AO.nil ?_
 refine inlend (ob' := [.fix 83 [.d (eS1 b0), .d (eS1 b1), .d (eS1 b2), .d (eS1 b3), .d (eS1 b4), .d (eS1 b5), .d (di .i64 b6), .d (dbool b7), .d (eS1 b8), .d (eS1 b9), .d (.ifc 87 (.ag []))], .frame pv [(0, .ptr 0 0)], .frame fr1 [(0, .ptr 0 0), (1, .d (eS1 a0)), (2, .d (eS1 a1)), (3, .d (eS1 a2)), (4, .d (eS1 a3))], .fix 22 (List.map (fun z => SV.d (keS1 z)) ((c7.set ((0 : Int)).toNat z73).set ((1 : Int)).toNat z83)), .fix 22 (List.map (fun z => SV.d (keS1 z)) ((c10.set ((0 : Int)).toNat z93).set ((1 : Int)).toNat z103)), .fix 22 (List.map (fun z => SV.d (keS1 z)) ((c13.set ((0 : Int)).toNat z113).set ((1 : Int)).toNat z123)), .fix 22 (List.map (fun z => SV.d (keS1 z)) ((c16.set ((0 : Int)).toNat z133).set ((1 : Int)).toNat z143)), .grow 22 1 (List.map keS1 (([(0 : Nat), (0 : Nat)].set ((0 : Int)).toNat z57).set ((1 : Int)).toNat z61)), .dead]) (e' := [(9, .sl 3 1 0 (((2 : Int)).toNat) (((2 : Int)).toNat)), (10, .sl 4 1 0 (((2 : Int)).toNat) (((2 : Int)).toNat)), (11, .sl 5 1 0 (((2 : Int)).toNat) (((2 : Int)).toNat)), (12, .sl 6 1 0 (((2 : Int)).toNat) (((2 : Int)).toNat)), (13, .own 7)]) (r := .tu []) rfl rfl rfl ?_
 change AO _ _ _ _ _
 refine AO.objs (obs' := [.fix 83 [.d (eS1 b0), .d (eS1 b1), .d (eS1 b2), .d (eS1 b3), .d (eS1 b4), .d (eS1 b5), .d (di .i64 b6), .d (dbool b7), .d (eS1 b8), .d (eS1 b9), .d (.ifc 87 (.ag []))], .frame pv [(0, .ptr 0 0)], .frame fr1 [(0, .ptr 0 0), (1, .d (eS1 a0)), (2, .d (eS1 a1)), (3, .d (eS1 a2)), (4, .d (eS1 a3))], .fix 22 (List.map (fun z => SV.d (keS1 z)) ((c7.set ((0 : Int)).toNat z73).set ((1 : Int)).toNat z83)), .fix 22 (List.map (fun z => SV.d (keS1 z)) ((c10.set ((0 : Int)).toNat z93).set ((1 : Int)).toNat z103)), .fix 22 (List.map (fun z => SV.d (keS1 z)) ((c13.set ((0 : Int)).toNat z113).set ((1 : Int)).toNat z123)), .fix 22 (List.map (fun z => SV.d (keS1 z)) ((c16.set ((0 : Int)).toNat z133).set ((1 : Int)).toNat z143)), .grow 22 1 (List.map keS1 (([(0 : Nat), (0 : Nat)].set ((0 : Int)).toNat z57).set ((1 : Int)).toNat z61)), .dead]) rfl ?_
 refine AO.nil ?_
 change AC _ _ _ _
 refine AC.seq ?_
 refine AC.region ?_
 refine AO.op rfl (AOp.move rfl rfl (ltb rfl) rfl ?_)
 refine AO.op rfl (AOp.move rfl rfl (ltb rfl) rfl ?_)
 refine AO.op rfl (AOp.move rfl rfl (ltb rfl) rfl ?_)
 refine AO.op rfl (AOp.move rfl rfl (ltb rfl) rfl ?_)
 refine AO.op rfl (AOp.inl [13] (by kernel_rfl) Tryz.func103 rfl Tryz.ntmps103 rfl rfl (ltb rfl) rfl (leb rfl) rfl ?_)
 intro fr147
 refine AC.seq ?_
 refine AC.region ?_
 refine AO.op rfl (AOp.assign rfl rfl (ltb rfl) rfl ?_)
 refine AO.objs (obs' := [.fix 83 [.d (eS1 b0), .d (eS1 b1), .d (eS1 b2), .d (eS1 b3), .d (eS1 b4), .d (eS1 b5), .d (di .i64 b6), .d (dbool b7), .d (eS1 b8), .d (eS1 b9), .d (.ifc 87 (.ag []))], .frame pv [(0, .ptr 0 0)], .frame fr1 [(0, .ptr 0 0), (1, .d (eS1 a0)), (2, .d (eS1 a1)), (3, .d (eS1 a2)), (4, .d (eS1 a3))], .fix 22 (List.map (fun z => SV.d (keS1 z)) ((c7.set ((0 : Int)).toNat z73).set ((1 : Int)).toNat z83)), .fix 22 (List.map (fun z => SV.d (keS1 z)) ((c10.set ((0 : Int)).toNat z93).set ((1 : Int)).toNat z103)), .fix 22 (List.map (fun z => SV.d (keS1 z)) ((c13.set ((0 : Int)).toNat z113).set ((1 : Int)).toNat z123)), .fix 22 (List.map (fun z => SV.d (keS1 z)) ((c16.set ((0 : Int)).toNat z133).set ((1 : Int)).toNat z143)), .grow 22 1 (List.map keS1 (([(0 : Nat), (0 : Nat)].set ((0 : Int)).toNat z57).set ((1 : Int)).toNat z61)), .dead, .frame fr147 [(13, .own 7)]]) rfl ?_
 refine AO.nil ?_
 change AC _ _ _ _
 refine AC.seq ?_
 refine AC.region ?_
 refine AO.op rfl (AOp.move rfl rfl (ltb rfl) rfl ?_)
 refine AO.op rfl (AOp.move rfl rfl (ltb rfl) rfl ?_)
 refine AO.op rfl (AOp.move rfl rfl (ltb rfl) rfl ?_)
 refine AO.op rfl (AOp.move rfl rfl (ltb rfl) rfl ?_)
 refine AO.op rfl (AOp.inl [0, 1, 2, 3] (by kernel_rfl) Tryz.func105 rfl Tryz.ntmps105 rfl rfl (ltb rfl) rfl (leb rfl) rfl ?_)
 intro fr148
 refine AC.seq ?_
 refine AC.region ?_
 refine AO.op rfl (AOp.assign rfl rfl (ltb rfl) rfl ?_)
 refine AO.op rfl (AOp.assign rfl rfl (ltb rfl) rfl ?_)
 refine AO.objs (obs' := [.fix 83 [.d (eS1 b0), .d (eS1 b1), .d (eS1 b2), .d (eS1 b3), .d (eS1 b4), .d (eS1 b5), .d (di .i64 b6), .d (dbool b7), .d (eS1 b8), .d (eS1 b9), .d (.ifc 87 (.ag []))], .frame pv [(0, .ptr 0 0)], .frame fr1 [(0, .ptr 0 0), (1, .d (eS1 a0)), (2, .d (eS1 a1)), (3, .d (eS1 a2)), (4, .d (eS1 a3))], .fix 22 (List.map (fun z => SV.d (keS1 z)) ((c7.set ((0 : Int)).toNat z73).set ((1 : Int)).toNat z83)), .fix 22 (List.map (fun z => SV.d (keS1 z)) ((c10.set ((0 : Int)).toNat z93).set ((1 : Int)).toNat z103)), .fix 22 (List.map (fun z => SV.d (keS1 z)) ((c13.set ((0 : Int)).toNat z113).set ((1 : Int)).toNat z123)), .fix 22 (List.map (fun z => SV.d (keS1 z)) ((c16.set ((0 : Int)).toNat z133).set ((1 : Int)).toNat z143)), .grow 22 1 (List.map keS1 (([(0 : Nat), (0 : Nat)].set ((0 : Int)).toNat z57).set ((1 : Int)).toNat z61)), .dead, .frame fr147 [(13, .own 7)], .frame fr148 [(0, .sl 3 1 0 (((2 : Int)).toNat) (((2 : Int)).toNat)), (1, .sl 4 1 0 (((2 : Int)).toNat) (((2 : Int)).toNat)), (2, .sl 5 1 0 (((2 : Int)).toNat) (((2 : Int)).toNat)), (3, .sl 6 1 0 (((2 : Int)).toNat) (((2 : Int)).toNat))]]) rfl ?_
 refine AO.nil ?_
 change AC _ _ _ _
 refine AC.seq ?_
 refine AC.draw 8 mixed (by kernel_rfl) ?_
 refine AD.op [0] rfl (by kernel_rfl) rfl rfl (fun _ _ h => AOp.move rfl rfl (ltb rfl) rfl h) ?_
 obtain ⟨q149, h0⟩ := need_elim h0
 refine AD.op [21] rfl (by kernel_rfl) rfl rfl (fun _ _ h => AOp.indexSl rfl rfl (ltb rfl) rfl rfl el64 q149.1 q149.2 h) ?_
 obtain ⟨x150, q151, h0⟩ := idx_elim h0
 refine AD.op [22] rfl (by kernel_rfl) rfl rfl (fun _ _ h => AOp.load1 rfl rfl (ltb rfl) rfl agg22 rfl (atO q151.2) h) ?_
 refine AD.op [1] rfl (by kernel_rfl) rfl rfl (fun _ _ h => AOp.move rfl rfl (ltb rfl) rfl h) ?_
 obtain ⟨q152, h0⟩ := need_elim h0
 refine AD.op [24] rfl (by kernel_rfl) rfl rfl (fun _ _ h => AOp.indexSl rfl rfl (ltb rfl) rfl rfl el64 q152.1 q152.2 h) ?_
 obtain ⟨x153, q154, h0⟩ := idx_elim h0
 refine AD.op [25] rfl (by kernel_rfl) rfl rfl (fun _ _ h => AOp.load1 rfl rfl (ltb rfl) rfl agg22 rfl (atO q154.2) h) ?_
 obtain ⟨z155, q156, h0⟩ := bind_elim h0
 refine AD.op [23, 26] rfl (by kernel_rfl) rfl rfl (fun _ _ h => AOp.farith rfl rfl (ltb rfl) rfl rfl q156 h) ?_
 refine AD.op [27] rfl (by kernel_rfl) rfl rfl (fun _ _ h => AOp.assign rfl rfl (ltb rfl) rfl h) ?_
 refine AD.done ?_
 refine AO.nil ?_
 change AC _ _ _ _
 refine AC.seq ?_
 refine AC.draw 8 mixed (by kernel_rfl) ?_
 refine AD.op [1] rfl (by kernel_rfl) rfl rfl (fun _ _ h => AOp.move rfl rfl (ltb rfl) rfl h) ?_
 obtain ⟨q157, h0⟩ := need_elim h0
 refine AD.op [28] rfl (by kernel_rfl) rfl rfl (fun _ _ h => AOp.indexSl rfl rfl (ltb rfl) rfl rfl el64 q157.1 q157.2 h) ?_
 obtain ⟨x158, q159, h0⟩ := idx_elim h0
 refine AD.op [29] rfl (by kernel_rfl) rfl rfl (fun _ _ h => AOp.load1 rfl rfl (ltb rfl) rfl agg22 rfl (atO q159.2) h) ?_
 refine AD.op [0] rfl (by kernel_rfl) rfl rfl (fun _ _ h => AOp.move rfl rfl (ltb rfl) rfl h) ?_
 obtain ⟨q160, h0⟩ := need_elim h0
 refine AD.op [31] rfl (by kernel_rfl) rfl rfl (fun _ _ h => AOp.indexSl rfl rfl (ltb rfl) rfl rfl el64 q160.1 q160.2 h) ?_
 obtain ⟨x161, q162, h0⟩ := idx_elim h0
 refine AD.op [32] rfl (by kernel_rfl) rfl rfl (fun _ _ h => AOp.load1 rfl rfl (ltb rfl) rfl agg22 rfl (atO q162.2) h) ?_
 obtain ⟨z163, q164, h0⟩ := bind_elim h0
 refine AD.op [30, 33] rfl (by kernel_rfl) rfl rfl (fun _ _ h => AOp.farith rfl rfl (ltb rfl) rfl rfl q164 h) ?_
 refine AD.op [34] rfl (by kernel_rfl) rfl rfl (fun _ _ h => AOp.assign rfl rfl (ltb rfl) rfl h) ?_
 refine AD.done ?_
 refine AO.nil ?_
 change AC _ _ _ _
 refine AC.seq ?_
 refine AC.draw 16 mixed (by kernel_rfl) ?_
 refine AD.op [0] rfl (by kernel_rfl) rfl rfl (fun _ _ h => AOp.move rfl rfl (ltb rfl) rfl h) ?_
 obtain ⟨q165, h0⟩ := need_elim h0
 refine AD.op [35] rfl (by kernel_rfl) rfl rfl (fun _ _ h => AOp.indexSl rfl rfl (ltb rfl) rfl rfl el64 q165.1 q165.2 h) ?_
 obtain ⟨x166, q167, h0⟩ := idx_elim h0
 refine AD.op [36] rfl (by kernel_rfl) rfl rfl (fun _ _ h => AOp.load1 rfl rfl (ltb rfl) rfl agg22 rfl (atO q167.2) h) ?_
 refine AD.op [1] rfl (by kernel_rfl) rfl rfl (fun _ _ h => AOp.move rfl rfl (ltb rfl) rfl h) ?_
 obtain ⟨q168, h0⟩ := need_elim h0
 refine AD.op [38] rfl (by kernel_rfl) rfl rfl (fun _ _ h => AOp.indexSl rfl rfl (ltb rfl) rfl rfl el64 q168.1 q168.2 h) ?_
 obtain ⟨x169, q170, h0⟩ := idx_elim h0
 refine AD.op [39] rfl (by kernel_rfl) rfl rfl (fun _ _ h => AOp.load1 rfl rfl (ltb rfl) rfl agg22 rfl (atO q170.2) h) ?_
 obtain ⟨z171, q172, h0⟩ := bind_elim h0
 refine AD.op [37, 40] rfl (by kernel_rfl) rfl rfl (fun _ _ h => AOp.farith rfl rfl (ltb rfl) rfl rfl q172 h) ?_
 refine AD.op [1] rfl (by kernel_rfl) rfl rfl (fun _ _ h => AOp.move rfl rfl (ltb rfl) rfl h) ?_
 obtain ⟨q173, h0⟩ := need_elim h0
 refine AD.op [42] rfl (by kernel_rfl) rfl rfl (fun _ _ h => AOp.indexSl rfl rfl (ltb rfl) rfl rfl el64 q173.1 q173.2 h) ?_
 obtain ⟨x174, q175, h0⟩ := idx_elim h0
 refine AD.op [43] rfl (by kernel_rfl) rfl rfl (fun _ _ h => AOp.load1 rfl rfl (ltb rfl) rfl agg22 rfl (atO q175.2) h) ?_
 refine AD.op [0] rfl (by kernel_rfl) rfl rfl (fun _ _ h => AOp.move rfl rfl (ltb rfl) rfl h) ?_
 obtain ⟨q176, h0⟩ := need_elim h0
 refine AD.op [45] rfl (by kernel_rfl) rfl rfl (fun _ _ h => AOp.indexSl rfl rfl (ltb rfl) rfl rfl el64 q176.1 q176.2 h) ?_
 obtain ⟨x177, q178, h0⟩ := idx_elim h0
 refine AD.op [46] rfl (by kernel_rfl) rfl rfl (fun _ _ h => AOp.load1 rfl rfl (ltb rfl) rfl agg22 rfl (atO q178.2) h) ?_
 obtain ⟨z179, q180, h0⟩ := bind_elim h0
 refine AD.op [44, 47] rfl (by kernel_rfl) rfl rfl (fun _ _ h => AOp.farith rfl rfl (ltb rfl) rfl rfl q180 h) ?_
 obtain ⟨z181, q182, h0⟩ := bind_elim h0
 refine AD.op [41, 48] rfl (by kernel_rfl) rfl rfl (fun _ _ h => AOp.farith rfl rfl (ltb rfl) rfl rfl q182 h) ?_
 refine AD.op [49] rfl (by kernel_rfl) rfl rfl (fun _ _ h => AOp.assign rfl rfl (ltb rfl) rfl h) ?_
 refine AD.done ?_
 refine AO.nil ?_
 change AC _ _ _ _
 refine AC.seq ?_
 refine AC.draw 8 mixed (by kernel_rfl) ?_
 refine AD.op [2] rfl (by kernel_rfl) rfl rfl (fun _ _ h => AOp.move rfl rfl (ltb rfl) rfl h) ?_
 obtain ⟨q183, h0⟩ := need_elim h0
 refine AD.op [50] rfl (by kernel_rfl) rfl rfl (fun _ _ h => AOp.indexSl rfl rfl (ltb rfl) rfl rfl el64 q183.1 q183.2 h) ?_
 obtain ⟨x184, q185, h0⟩ := idx_elim h0
 refine AD.op [51] rfl (by kernel_rfl) rfl rfl (fun _ _ h => AOp.load1 rfl rfl (ltb rfl) rfl agg22 rfl (atO q185.2) h) ?_
 refine AD.op [3] rfl (by kernel_rfl) rfl rfl (fun _ _ h => AOp.move rfl rfl (ltb rfl) rfl h) ?_
 obtain ⟨q186, h0⟩ := need_elim h0
 refine AD.op [53] rfl (by kernel_rfl) rfl rfl (fun _ _ h => AOp.indexSl rfl rfl (ltb rfl) rfl rfl el64 q186.1 q186.2 h) ?_
 obtain ⟨x187, q188, h0⟩ := idx_elim h0
 refine AD.op [54] rfl (by kernel_rfl) rfl rfl (fun _ _ h => AOp.load1 rfl rfl (ltb rfl) rfl agg22 rfl (atO q188.2) h) ?_
 obtain ⟨z189, q190, h0⟩ := bind_elim h0
 refine AD.op [52, 55] rfl (by kernel_rfl) rfl rfl (fun _ _ h => AOp.farith rfl rfl (ltb rfl) rfl rfl q190 h) ?_
 refine AD.op [56] rfl (by kernel_rfl) rfl rfl (fun _ _ h => AOp.assign rfl rfl (ltb rfl) rfl h) ?_
 refine AD.done ?_
 refine AO.nil ?_
 change AC _ _ _ _
 refine AC.seq ?_
 refine AC.draw 8 mixed (by kernel_rfl) ?_
 refine AD.op [3] rfl (by kernel_rfl) rfl rfl (fun _ _ h => AOp.move rfl rfl (ltb rfl) rfl h) ?_
 obtain ⟨q191, h0⟩ := need_elim h0
 refine AD.op [57] rfl (by kernel_rfl) rfl rfl (fun _ _ h => AOp.indexSl rfl rfl (ltb rfl) rfl rfl el64 q191.1 q191.2 h) ?_
 obtain ⟨x192, q193, h0⟩ := idx_elim h0
 refine AD.op [58] rfl (by kernel_rfl) rfl rfl (fun _ _ h => AOp.load1 rfl rfl (ltb rfl) rfl agg22 rfl (atO q193.2) h) ?_
 refine AD.op [2] rfl (by kernel_rfl) rfl rfl (fun _ _ h => AOp.move rfl rfl (ltb rfl) rfl h) ?_
 obtain ⟨q194, h0⟩ := need_elim h0
 refine AD.op [60] rfl (by kernel_rfl) rfl rfl (fun _ _ h => AOp.indexSl rfl rfl (ltb rfl) rfl rfl el64 q194.1 q194.2 h) ?_
 obtain ⟨x195, q196, h0⟩ := idx_elim h0
 refine AD.op [61] rfl (by kernel_rfl) rfl rfl (fun _ _ h => AOp.load1 rfl rfl (ltb rfl) rfl agg22 rfl (atO q196.2) h) ?_
 obtain ⟨z197, q198, h0⟩ := bind_elim h0
 refine AD.op [59, 62] rfl (by kernel_rfl) rfl rfl (fun _ _ h => AOp.farith rfl rfl (ltb rfl) rfl rfl q198 h) ?_
 refine AD.op [63] rfl (by kernel_rfl) rfl rfl (fun _ _ h => AOp.assign rfl rfl (ltb rfl) rfl h) ?_
 refine AD.done ?_
 refine AO.nil ?_
 change AC _ _ _ _
 refine AC.seq ?_
 refine AC.draw 16 mixed (by kernel_rfl) ?_
 refine AD.op [2] rfl (by kernel_rfl) rfl rfl (fun _ _ h => AOp.move rfl rfl (ltb rfl) rfl h) ?_
 obtain ⟨q199, h0⟩ := need_elim h0
 refine AD.op [64] rfl (by kernel_rfl) rfl rfl (fun _ _ h => AOp.indexSl rfl rfl (ltb rfl) rfl rfl el64 q199.1 q199.2 h) ?_
 obtain ⟨x200, q201, h0⟩ := idx_elim h0
 refine AD.op [65] rfl (by kernel_rfl) rfl rfl (fun _ _ h => AOp.load1 rfl rfl (ltb rfl) rfl agg22 rfl (atO q201.2) h) ?_
 refine AD.op [3] rfl (by kernel_rfl) rfl rfl (fun _ _ h => AOp.move rfl rfl (ltb rfl) rfl h) ?_
 obtain ⟨q202, h0⟩ := need_elim h0
 refine AD.op [67] rfl (by kernel_rfl) rfl rfl (fun _ _ h => AOp.indexSl rfl rfl (ltb rfl) rfl rfl el64 q202.1 q202.2 h) ?_
 obtain ⟨x203, q204, h0⟩ := idx_elim h0
 refine AD.op [68] rfl (by kernel_rfl) rfl rfl (fun _ _ h => AOp.load1 rfl rfl (ltb rfl) rfl agg22 rfl (atO q204.2) h) ?_
 obtain ⟨z205, q206, h0⟩ := bind_elim h0
 refine AD.op [66, 69] rfl (by kernel_rfl) rfl rfl (fun _ _ h => AOp.farith rfl rfl (ltb rfl) rfl rfl q206 h) ?_
 refine AD.op [3] rfl (by kernel_rfl) rfl rfl (fun _ _ h => AOp.move rfl rfl (ltb rfl) rfl h) ?_
 obtain ⟨q207, h0⟩ := need_elim h0
 refine AD.op [71] rfl (by kernel_rfl) rfl rfl (fun _ _ h => AOp.indexSl rfl rfl (ltb rfl) rfl rfl el64 q207.1 q207.2 h) ?_
 obtain ⟨x208, q209, h0⟩ := idx_elim h0
 refine AD.op [72] rfl (by kernel_rfl) rfl rfl (fun _ _ h => AOp.load1 rfl rfl (ltb rfl) rfl agg22 rfl (atO q209.2) h) ?_
 refine AD.op [2] rfl (by kernel_rfl) rfl rfl (fun _ _ h => AOp.move rfl rfl (ltb rfl) rfl h) ?_
 obtain ⟨q210, h0⟩ := need_elim h0
 refine AD.op [74] rfl (by kernel_rfl) rfl rfl (fun _ _ h => AOp.indexSl rfl rfl (ltb rfl) rfl rfl el64 q210.1 q210.2 h) ?_
 obtain ⟨x211, q212, h0⟩ := idx_elim h0
 refine AD.op [75] rfl (by kernel_rfl) rfl rfl (fun _ _ h => AOp.load1 rfl rfl (ltb rfl) rfl agg22 rfl (atO q212.2) h) ?_
 obtain ⟨z213, q214, h0⟩ := bind_elim h0
 refine AD.op [73, 76] rfl (by kernel_rfl) rfl rfl (fun _ _ h => AOp.farith rfl rfl (ltb rfl) rfl rfl q214 h) ?_
 obtain ⟨z215, q216, h0⟩ := bind_elim h0
 refine AD.op [70, 77] rfl (by kernel_rfl) rfl rfl (fun _ _ h => AOp.farith rfl rfl (ltb rfl) rfl rfl q216 h) ?_
 refine AD.op [78] rfl (by kernel_rfl) rfl rfl (fun _ _ h => AOp.assign rfl rfl (ltb rfl) rfl h) ?_
 refine AD.done ?_
 refine AO.nil ?_
 change AC _ _ _ _
 refine AC.seq ?_
 refine AC.region ?_
 refine AO.op rfl (AOp.move rfl rfl (ltb rfl) rfl ?_)
 refine AO.op rfl (AOp.move rfl rfl (ltb rfl) rfl ?_)
 obtain ⟨z217, q218, h0⟩ := bind_elim h0
 refine AO.op rfl (AOp.farith rfl rfl (ltb rfl) rfl rfl q218 ?_)
 refine AO.op rfl (AOp.move rfl rfl (ltb rfl) rfl ?_)
 refine AO.op rfl (AOp.move rfl rfl (ltb rfl) rfl ?_)
 obtain ⟨z219, q220, h0⟩ := bind_elim h0
 refine AO.op rfl (AOp.farith rfl rfl (ltb rfl) rfl rfl q220 ?_)
 obtain ⟨z221, q222, h0⟩ := bind_elim h0
 refine AO.op rfl (AOp.farith rfl rfl (ltb rfl) rfl rfl q222 ?_)
 refine AO.op rfl (AOp.assign rfl rfl (ltb rfl) rfl ?_)
 refine AO.nil ?_
 change AC _ _ _ _
 refine AC.seq ?_
 refine AC.region ?_
 refine AO.op rfl (AOp.move rfl rfl (ltb rfl) rfl ?_)
 refine AO.op rfl (AOp.move rfl rfl (ltb rfl) rfl ?_)
 obtain ⟨z223, q224, h0⟩ := bind_elim h0
 refine AO.op rfl (AOp.farith rfl rfl (ltb rfl) rfl rfl q224 ?_)
 refine AO.op rfl (AOp.move rfl rfl (ltb rfl) rfl ?_)
 refine AO.op rfl (AOp.move rfl rfl (ltb rfl) rfl ?_)
 obtain ⟨z225, q226, h0⟩ := bind_elim h0
 refine AO.op rfl (AOp.farith rfl rfl (ltb rfl) rfl rfl q226 ?_)
 obtain ⟨z227, q228, h0⟩ := bind_elim h0
 refine AO.op rfl (AOp.farith rfl rfl (ltb rfl) rfl rfl q228 ?_)
 refine AO.op rfl (AOp.assign rfl rfl (ltb rfl) rfl ?_)
 refine AO.nil ?_
 change AC _ _ _ _
 refine AC.seq ?_
 refine AC.region ?_
 refine AO.op rfl (AOp.move rfl rfl (ltb rfl) rfl ?_)
 refine AO.op rfl (AOp.move rfl rfl (ltb rfl) rfl ?_)
 obtain ⟨z229, q230, h0⟩ := bind_elim h0
 refine AO.op rfl (AOp.farith rfl rfl (ltb rfl) rfl rfl q230 ?_)
 refine AO.op rfl (AOp.move rfl rfl (ltb rfl) rfl ?_)
 refine AO.op rfl (AOp.move rfl rfl (ltb rfl) rfl ?_)
 obtain ⟨z231, q232, h0⟩ := bind_elim h0
 refine AO.op rfl (AOp.farith rfl rfl (ltb rfl) rfl rfl q232 ?_)
 obtain ⟨z233, q234, h0⟩ := bind_elim h0
 refine AO.op rfl (AOp.farith rfl rfl (ltb rfl) rfl rfl q234 ?_)
 refine AO.op rfl (AOp.assign rfl rfl (ltb rfl) rfl ?_)
 refine AO.nil ?_
 change AC _ _ _ _
 refine AC.seq ?_
 refine AC.region ?_
 refine AO.op rfl (AOp.move rfl rfl (ltb rfl) rfl ?_)
 refine AO.op rfl (AOp.move rfl rfl (ltb rfl) rfl ?_)
 obtain ⟨z235, q236, h0⟩ := bind_elim h0
 refine AO.op rfl (AOp.farith rfl rfl (ltb rfl) rfl rfl q236 ?_)
 refine AO.op rfl (AOp.assign rfl rfl (ltb rfl) rfl ?_)
 refine AO.nil ?_
 change AC _ _ _ _
 refine AC.seq ?_
 refine AC.region ?_
 refine AO.op rfl (AOp.move rfl rfl (ltb rfl) rfl ?_)
 refine AO.op rfl (AOp.move rfl rfl (ltb rfl) rfl ?_)
 obtain ⟨z237, q238, h0⟩ := bind_elim h0
 refine AO.op rfl (AOp.farith rfl rfl (ltb rfl) rfl rfl q238 ?_)
 refine AO.op rfl (AOp.assign rfl rfl (ltb rfl) rfl ?_)
 refine AO.nil ?_
 change AC _ _ _ _
 refine AC.seq ?_
 refine AC.joinP (V := Bool) [19, 20] [111] 11 (fun g239 => [(111, .d (dbool g239))]) (fun g239 => [.fix 83 [.d (eS1 b0), .d (eS1 b1), .d (eS1 b2), .d (eS1 b3), .d (eS1 b4), .d (eS1 b5), .d (di .i64 b6), .d (dbool b7), .d (eS1 b8), .d (eS1 b9), .d (.ifc 87 (.ag []))], .frame pv [(0, .ptr 0 0)], .frame fr1 [(0, .ptr 0 0), (1, .d (eS1 a0)), (2, .d (eS1 a1)), (3, .d (eS1 a2)), (4, .d (eS1 a3))], .fix 22 (List.map (fun z => SV.d (keS1 z)) ((c7.set ((0 : Int)).toNat z73).set ((1 : Int)).toNat z83)), .fix 22 (List.map (fun z => SV.d (keS1 z)) ((c10.set ((0 : Int)).toNat z93).set ((1 : Int)).toNat z103)), .fix 22 (List.map (fun z => SV.d (keS1 z)) ((c13.set ((0 : Int)).toNat z113).set ((1 : Int)).toNat z123)), .fix 22 (List.map (fun z => SV.d (keS1 z)) ((c16.set ((0 : Int)).toNat z133).set ((1 : Int)).toNat z143)), .grow 22 1 (List.map keS1 (([(0 : Nat), (0 : Nat)].set ((0 : Int)).toNat z57).set ((1 : Int)).toNat z61)), .dead, .frame fr147 [(13, .own 7)], .frame fr148 [(0, .sl 3 1 0 (((2 : Int)).toNat) (((2 : Int)).toNat)), (1, .sl 4 1 0 (((2 : Int)).toNat) (((2 : Int)).toNat)), (2, .sl 5 1 0 (((2 : Int)).toNat) (((2 : Int)).toNat)), (3, .sl 6 1 0 (((2 : Int)).toNat) (((2 : Int)).toNat))]]) (fun g239 => (p_intersection_k13 b0 b1 b2 b3 z57 z61 z235 z237) g239 = some r0) rfl ?_ ?_
 ·refine AC.region ?_
  refine AO.op rfl (AOp.move rfl rfl (ltb rfl) rfl ?_)
  obtain ⟨y276, q277, h0⟩ := bind_elim h0
  refine AO.op rfl (AOp.callD rfl rfl (ltb rfl) rfl rfl (w_IsNaN z235 y276 q277) ?_)
  rintro _ rfl
  refine AO.op rfl (AOp.move rfl rfl (ltb rfl) rfl ?_)
  refine AO.dec y276 (fun q278 => ?_) (fun q278 => ?_)
  ·replace h0 := cT h0 q278
   refine AO.guardN rfl rfl rfl (ltb rfl) rfl q278 ?_
   refine AO.guardN rfl rfl rfl (ltb rfl) rfl q278 ?_
   refine AO.op rfl (AOp.pick rfl rfl (ltb rfl) rfl q278 rfl ?_)
   refine AO.nil ?_
   exact ⟨true, _, rfl, (LeL.refl _), rfl, (okU_mk rfl (okU_cons rfl (okU_cons rfl (okU_cons rfl (okU_cons (okU_fixl (fun _ => rfl)) (okU_cons (okU_fixl (fun _ => rfl)) (okU_cons (okU_fixl (fun _ => rfl)) (okU_cons (okU_fixl (fun _ => rfl)) (okU_cons rfl (okU_cons rfl (okU_cons rfl (okU_cons rfl okU_nil)))))))))))), h0⟩
  replace h0 := cF h0 q278
  refine AO.guardY rfl rfl rfl q278 (AOp.move rfl rfl (ltb rfl) rfl ?_)
  obtain ⟨y279, q280, h0⟩ := bind_elim h0
  refine AO.guardY rfl rfl rfl q278 (AOp.callD rfl rfl (ltb rfl) rfl rfl (w_IsNaN z237 y279 q280) ?_)
  rintro _ rfl
  refine AO.op rfl (AOp.pickN rfl rfl (ltb rfl) rfl q278 rfl ?_)
  refine AO.nil ?_
  exact ⟨y279, _, rfl, (LeL.refl _), rfl, (okU_mk rfl (okU_cons rfl (okU_cons rfl (okU_cons rfl (okU_cons (okU_fixl (fun _ => rfl)) (okU_cons (okU_fixl (fun _ => rfl)) (okU_cons (okU_fixl (fun _ => rfl)) (okU_cons (okU_fixl (fun _ => rfl)) (okU_cons rfl (okU_cons rfl (okU_cons rfl (okU_cons rfl okU_nil)))))))))))), h0⟩
 intro g239 h0
 unfold p_intersection_k13 at h0
 refine AC.cond rfl (fun q240 => ?_) (fun q240 => ?_)
 ·replace h0 := cT h0 q240
  cases h0
 replace h0 := cF h0 q240
 refine AC.skip ?_
 change AC _ _ _ _
 refine AC.seq ?_
 refine AC.joinP (V := Bool) [19, 20] [118] 11 (fun g241 => [(118, .d (dbool g241))]) (fun g241 => [.fix 83 [.d (eS1 b0), .d (eS1 b1), .d (eS1 b2), .d (eS1 b3), .d (eS1 b4), .d (eS1 b5), .d (di .i64 b6), .d (dbool b7), .d (eS1 b8), .d (eS1 b9), .d (.ifc 87 (.ag []))], .frame pv [(0, .ptr 0 0)], .frame fr1 [(0, .ptr 0 0), (1, .d (eS1 a0)), (2, .d (eS1 a1)), (3, .d (eS1 a2)), (4, .d (eS1 a3))], .fix 22 (List.map (fun z => SV.d (keS1 z)) ((c7.set ((0 : Int)).toNat z73).set ((1 : Int)).toNat z83)), .fix 22 (List.map (fun z => SV.d (keS1 z)) ((c10.set ((0 : Int)).toNat z93).set ((1 : Int)).toNat z103)), .fix 22 (List.map (fun z => SV.d (keS1 z)) ((c13.set ((0 : Int)).toNat z113).set ((1 : Int)).toNat z123)), .fix 22 (List.map (fun z => SV.d (keS1 z)) ((c16.set ((0 : Int)).toNat z133).set ((1 : Int)).toNat z143)), .grow 22 1 (List.map keS1 (([(0 : Nat), (0 : Nat)].set ((0 : Int)).toNat z57).set ((1 : Int)).toNat z61)), .dead, .frame fr147 [(13, .own 7)], .frame fr148 [(0, .sl 3 1 0 (((2 : Int)).toNat) (((2 : Int)).toNat)), (1, .sl 4 1 0 (((2 : Int)).toNat) (((2 : Int)).toNat)), (2, .sl 5 1 0 (((2 : Int)).toNat) (((2 : Int)).toNat)), (3, .sl 6 1 0 (((2 : Int)).toNat) (((2 : Int)).toNat))]]) (fun g241 => (p_intersection_k14 b0 b1 b2 b3 z57 z61 z235 z237) g241 = some r0) rfl ?_ ?_
 ·refine AC.region ?_
  refine AO.op rfl (AOp.move rfl rfl (ltb rfl) rfl ?_)
  obtain ⟨y271, q272, h0⟩ := bind_elim h0
  refine AO.op rfl (AOp.callD rfl rfl (ltb rfl) rfl rfl (w_IsInf z235 (0 : Int) y271 q272) ?_)
  rintro _ rfl
  refine AO.op rfl (AOp.move rfl rfl (ltb rfl) rfl ?_)
  refine AO.dec y271 (fun q273 => ?_) (fun q273 => ?_)
  ·replace h0 := cT h0 q273
   refine AO.guardN rfl rfl rfl (ltb rfl) rfl q273 ?_
   refine AO.guardN rfl rfl rfl (ltb rfl) rfl q273 ?_
   refine AO.op rfl (AOp.pick rfl rfl (ltb rfl) rfl q273 rfl ?_)
   refine AO.nil ?_
   exact ⟨true, _, rfl, (LeL.refl _), rfl, (okU_mk rfl (okU_cons rfl (okU_cons rfl (okU_cons rfl (okU_cons (okU_fixl (fun _ => rfl)) (okU_cons (okU_fixl (fun _ => rfl)) (okU_cons (okU_fixl (fun _ => rfl)) (okU_cons (okU_fixl (fun _ => rfl)) (okU_cons rfl (okU_cons rfl (okU_cons rfl (okU_cons rfl okU_nil)))))))))))), h0⟩
  replace h0 := cF h0 q273
  refine AO.guardY rfl rfl rfl q273 (AOp.move rfl rfl (ltb rfl) rfl ?_)
  obtain ⟨y274, q275, h0⟩ := bind_elim h0
  refine AO.guardY rfl rfl rfl q273 (AOp.callD rfl rfl (ltb rfl) rfl rfl (w_IsInf z237 (0 : Int) y274 q275) ?_)
  rintro _ rfl
  refine AO.op rfl (AOp.pickN rfl rfl (ltb rfl) rfl q273 rfl ?_)
  refine AO.nil ?_
  exact ⟨y274, _, rfl, (LeL.refl _), rfl, (okU_mk rfl (okU_cons rfl (okU_cons rfl (okU_cons rfl (okU_cons (okU_fixl (fun _ => rfl)) (okU_cons (okU_fixl (fun _ => rfl)) (okU_cons (okU_fixl (fun _ => rfl)) (okU_cons (okU_fixl (fun _ => rfl)) (okU_cons rfl (okU_cons rfl (okU_cons rfl (okU_cons rfl okU_nil)))))))))))), h0⟩
 intro g241 h0
 unfold p_intersection_k14 at h0
 refine AC.cond rfl (fun q242 => ?_) (fun q242 => ?_)
 ·replace h0 := cT h0 q242
  cases h0
 replace h0 := cF h0 q242
 refine AC.skip ?_
 change AC _ _ _ _
 refine AC.seq ?_
 refine AC.region ?_
 refine AO.op rfl (AOp.move rfl rfl (ltb rfl) rfl ?_)
 refine AO.op rfl (AOp.move rfl rfl (ltb rfl) rfl ?_)
 refine AO.op rfl (AOp.buildOwn rfl rfl (ltb rfl) el64 zero22 rfl (leb rfl) rfl rfl rfl rfl ?_)
 refine AO.op rfl (AOp.assign rfl rfl (ltb rfl) rfl ?_)
 refine AO.op rfl (AOp.assign rfl rfl (ltb rfl) rfl ?_)
 refine AO.nil ?_
 change AC _ _ _ _
 refine AC.ret ?_
 refine inlret (ob' := [.fix 83 [.d (eS1 b0), .d (eS1 b1), .d (eS1 b2), .d (eS1 b3), .d (eS1 b4), .d (eS1 b5), .d (di .i64 b6), .d (dbool b7), .d (eS1 b8), .d (eS1 b9), .d (.ifc 87 (.ag []))], .frame pv [(0, .ptr 0 0)], .frame fr1 [(0, .ptr 0 0), (1, .d (eS1 a0)), (2, .d (eS1 a1)), (3, .d (eS1 a2)), (4, .d (eS1 a3))], .fix 22 (List.map (fun z => SV.d (keS1 z)) ((c7.set ((0 : Int)).toNat z73).set ((1 : Int)).toNat z83)), .fix 22 (List.map (fun z => SV.d (keS1 z)) ((c10.set ((0 : Int)).toNat z93).set ((1 : Int)).toNat z103)), .fix 22 (List.map (fun z => SV.d (keS1 z)) ((c13.set ((0 : Int)).toNat z113).set ((1 : Int)).toNat z123)), .fix 22 (List.map (fun z => SV.d (keS1 z)) ((c16.set ((0 : Int)).toNat z133).set ((1 : Int)).toNat z143)), .grow 22 1 (List.map keS1 (([(0 : Nat), (0 : Nat)].set ((0 : Int)).toNat z57).set ((1 : Int)).toNat z61)), .dead, .frame fr147 [(13, .own 7)], .dead, .grow 22 1 (List.map keS1 [z235, z237])]) (e' := [(0, .sl 3 1 0 (((2 : Int)).toNat) (((2 : Int)).toNat)), (1, .sl 4 1 0 (((2 : Int)).toNat) (((2 : Int)).toNat)), (2, .sl 5 1 0 (((2 : Int)).toNat) (((2 : Int)).toNat)), (3, .sl 6 1 0 (((2 : Int)).toNat) (((2 : Int)).toNat))]) (r := .tu [.own 11, .d (.v (.nilIface))]) rfl rfl rfl ?_
 change AO _ _ _ _ _
 refine AO.op rfl (AOp.move rfl rfl (ltb rfl) rfl ?_)
 first | refine AO.op rfl (AOp.extractD rfl rfl (ltb rfl) rfl rfl ?_) | refine AO.op rfl (AOp.extract rfl rfl (ltb rfl) rfl rfl ?_)
 first | refine AO.op rfl (AOp.extractD rfl rfl (ltb rfl) rfl rfl ?_) | refine AO.op rfl (AOp.extract rfl rfl (ltb rfl) rfl rfl ?_)
 refine AO.op rfl (AOp.assign rfl rfl (ltb rfl) rfl ?_)
 refine AO.op rfl (AOp.assign rfl rfl (ltb rfl) rfl ?_)
 refine AO.objs (obs' := [.fix 83 [.d (eS1 b0), .d (eS1 b1), .d (eS1 b2), .d (eS1 b3), .d (eS1 b4), .d (eS1 b5), .d (di .i64 b6), .d (dbool b7), .d (eS1 b8), .d (eS1 b9), .d (.ifc 87 (.ag []))], .frame pv [(0, .ptr 0 0)], .frame fr1 [(0, .ptr 0 0), (1, .d (eS1 a0)), (2, .d (eS1 a1)), (3, .d (eS1 a2)), (4, .d (eS1 a3))], .fix 22 (List.map (fun z => SV.d (keS1 z)) ((c7.set ((0 : Int)).toNat z73).set ((1 : Int)).toNat z83)), .fix 22 (List.map (fun z => SV.d (keS1 z)) ((c10.set ((0 : Int)).toNat z93).set ((1 : Int)).toNat z103)), .fix 22 (List.map (fun z => SV.d (keS1 z)) ((c13.set ((0 : Int)).toNat z113).set ((1 : Int)).toNat z123)), .fix 22 (List.map (fun z => SV.d (keS1 z)) ((c16.set ((0 : Int)).toNat z133).set ((1 : Int)).toNat z143)), .grow 22 1 (List.map keS1 (([(0 : Nat), (0 : Nat)].set ((0 : Int)).toNat z57).set ((1 : Int)).toNat z61)), .dead, .frame fr147 [(13, .own 7)], .dead, .grow 22 1 (List.map keS1 [z235, z237])]) rfl ?_
 refine AO.nil ?_
 change AC _ _ _ _
 refine AC.seq ?_
 refine AC.seq ?_
 refine AC.region ?_
 refine AO.op rfl (AOp.move rfl rfl (ltb rfl) rfl ?_)
 refine AO.op rfl (AOp.nilNeq rfl rfl (ltb rfl) rfl imeth138 ?_)
 refine AO.nil ?_
 change AC _ _ _ _
 refine AC.condF rfl rfl ?_
 refine AC.skip ?_
 change AC _ _ _ _
 refine AC.seq ?_
 refine AC.region ?_
 refine AO.op rfl (AOp.move rfl rfl (ltb rfl) rfl ?_)
 refine AO.op rfl (AOp.assign rfl rfl (ltb rfl) rfl ?_)
 refine AO.nil ?_
 change AC _ _ _ _
 refine AC.ret ?_
 refine inlret (ob' := [.fix 83 [.d (eS1 b0), .d (eS1 b1), .d (eS1 b2), .d (eS1 b3), .d (eS1 b4), .d (eS1 b5), .d (di .i64 b6), .d (dbool b7), .d (eS1 b8), .d (eS1 b9), .d (.ifc 87 (.ag []))], .frame pv [(0, .ptr 0 0)], .frame fr1 [(0, .ptr 0 0), (1, .d (eS1 a0)), (2, .d (eS1 a1)), (3, .d (eS1 a2)), (4, .d (eS1 a3))], .fix 22 (List.map (fun z => SV.d (keS1 z)) ((c7.set ((0 : Int)).toNat z73).set ((1 : Int)).toNat z83)), .fix 22 (List.map (fun z => SV.d (keS1 z)) ((c10.set ((0 : Int)).toNat z93).set ((1 : Int)).toNat z103)), .fix 22 (List.map (fun z => SV.d (keS1 z)) ((c13.set ((0 : Int)).toNat z113).set ((1 : Int)).toNat z123)), .fix 22 (List.map (fun z => SV.d (keS1 z)) ((c16.set ((0 : Int)).toNat z133).set ((1 : Int)).toNat z143)), .grow 22 1 (List.map keS1 (([(0 : Nat), (0 : Nat)].set ((0 : Int)).toNat z57).set ((1 : Int)).toNat z61)), .dead, .dead, .dead, .grow 22 1 (List.map keS1 [z235, z237])]) (e' := [(13, .own 7)]) (r := .own 11) rfl rfl rfl ?_
 change AO _ _ _ _ _
 refine AO.op rfl (AOp.assign rfl rfl (ltb rfl) rfl ?_)
 refine AO.objs (obs' := [.fix 83 [.d (eS1 b0), .d (eS1 b1), .d (eS1 b2), .d (eS1 b3), .d (eS1 b4), .d (eS1 b5), .d (di .i64 b6), .d (dbool b7), .d (eS1 b8), .d (eS1 b9), .d (.ifc 87 (.ag []))], .frame pv [(0, .ptr 0 0)], .frame fr1 [(0, .ptr 0 0), (1, .d (eS1 a0)), (2, .d (eS1 a1)), (3, .d (eS1 a2)), (4, .d (eS1 a3))], .fix 22 (List.map (fun z => SV.d (keS1 z)) ((c7.set ((0 : Int)).toNat z73).set ((1 : Int)).toNat z83)), .fix 22 (List.map (fun z => SV.d (keS1 z)) ((c10.set ((0 : Int)).toNat z93).set ((1 : Int)).toNat z103)), .fix 22 (List.map (fun z => SV.d (keS1 z)) ((c13.set ((0 : Int)).toNat z113).set ((1 : Int)).toNat z123)), .fix 22 (List.map (fun z => SV.d (keS1 z)) ((c16.set ((0 : Int)).toNat z133).set ((1 : Int)).toNat z143)), .grow 22 1 (List.map keS1 (([(0 : Nat), (0 : Nat)].set ((0 : Int)).toNat z57).set ((1 : Int)).toNat z61)), .dead, .dead, .dead, .grow 22 1 (List.map keS1 [z235, z237])]) rfl ?_
 refine AO.nil ?_
 change AC _ _ _ _
 refine AC.seq ?_
 refine AC.draw 8 mixed (by kernel_rfl) ?_
 refine AD.op [14] rfl (by kernel_rfl) rfl rfl (fun _ _ h => AOp.move rfl rfl (ltb rfl) rfl h) ?_
 obtain ⟨q243, h0⟩ := need_elim h0
 refine AD.op [43] rfl (by kernel_rfl) rfl rfl (fun _ _ h => AOp.indexOwn (cells := (List.map keS1 [z235, z237])) (n := [z235, z237].length) rfl rfl (ltb rfl) rfl rfl el64 rfl (by decide) (len1 _ _) q243.1 q243.2 h) ?_
 obtain ⟨x244, q245, h0⟩ := idx_elim h0
 refine AD.op [44] rfl (by kernel_rfl) rfl rfl (fun _ _ h => AOp.loadO1 rfl rfl (ltb rfl) rfl agg22 rfl (at1 q245.2) h) ?_
 refine AD.op [13] rfl (by kernel_rfl) rfl rfl (fun _ _ h => AOp.move rfl rfl (ltb rfl) rfl h) ?_
 obtain ⟨q246, h0⟩ := need_elim h0
 refine AD.op [46] rfl (by kernel_rfl) rfl rfl (fun _ _ h => AOp.indexOwn (cells := (List.map keS1 (([(0 : Nat), (0 : Nat)].set ((0 : Int)).toNat z57).set ((1 : Int)).toNat z61))) (n := (([(0 : Nat), (0 : Nat)].set ((0 : Int)).toNat z57).set ((1 : Int)).toNat z61).length) rfl rfl (ltb rfl) rfl rfl el64 rfl (by decide) (len1 _ _) q246.1 q246.2 h) ?_
 obtain ⟨x247, q248, h0⟩ := idx_elim h0
 refine AD.op [47] rfl (by kernel_rfl) rfl rfl (fun _ _ h => AOp.loadO1 rfl rfl (ltb rfl) rfl agg22 rfl (at1 q248.2) h) ?_
 obtain ⟨z249, q250, h0⟩ := bind_elim h0
 refine AD.op [45, 48] rfl (by kernel_rfl) rfl rfl (fun _ _ h => AOp.farith rfl rfl (ltb rfl) rfl rfl q250 h) ?_
 obtain ⟨q251, h0⟩ := need_elim h0
 refine AD.op [43] rfl (by kernel_rfl) rfl rfl (fun _ _ h => AOp.indexOwn (cells := (List.map keS1 [z235, z237])) (n := [z235, z237].length) rfl rfl (ltb rfl) rfl rfl el64 rfl (by decide) (len1 _ _) q251.1 q251.2 h) ?_
 refine AD.done ?_
 obtain ⟨q252, h0⟩ := need_elim h0
 refine AO.op rfl (AOp.storeOL (f := keS1) (l := [z235, z237]) (i := ((0 : Int)).toNat) (v := z249) rfl rfl rfl rfl size22 rfl rfl rfl q252 ?_)
 refine AO.nil ?_
 change AC _ _ _ _
 refine AC.seq ?_
 refine AC.draw 8 mixed (by kernel_rfl) ?_
 refine AD.op [14] rfl (by kernel_rfl) rfl rfl (fun _ _ h => AOp.move rfl rfl (ltb rfl) rfl h) ?_
 obtain ⟨q253, h0⟩ := need_elim h0
 refine AD.op [51] rfl (by kernel_rfl) rfl rfl (fun _ _ h => AOp.indexOwn (cells := (List.map keS1 ([z235, z237].set ((0 : Int)).toNat z249))) (n := ([z235, z237].set ((0 : Int)).toNat z249).length) rfl rfl (ltb rfl) rfl rfl el64 rfl (by decide) (len1 _ _) q253.1 q253.2 h) ?_
 obtain ⟨x254, q255, h0⟩ := idx_elim h0
 refine AD.op [52] rfl (by kernel_rfl) rfl rfl (fun _ _ h => AOp.loadO1 rfl rfl (ltb rfl) rfl agg22 rfl (at1 q255.2) h) ?_
 refine AD.op [13] rfl (by kernel_rfl) rfl rfl (fun _ _ h => AOp.move rfl rfl (ltb rfl) rfl h) ?_
 obtain ⟨q256, h0⟩ := need_elim h0
 refine AD.op [54] rfl (by kernel_rfl) rfl rfl (fun _ _ h => AOp.indexOwn (cells := (List.map keS1 (([(0 : Nat), (0 : Nat)].set ((0 : Int)).toNat z57).set ((1 : Int)).toNat z61))) (n := (([(0 : Nat), (0 : Nat)].set ((0 : Int)).toNat z57).set ((1 : Int)).toNat z61).length) rfl rfl (ltb rfl) rfl rfl el64 rfl (by decide) (len1 _ _) q256.1 q256.2 h) ?_
 obtain ⟨x257, q258, h0⟩ := idx_elim h0
 refine AD.op [55] rfl (by kernel_rfl) rfl rfl (fun _ _ h => AOp.loadO1 rfl rfl (ltb rfl) rfl agg22 rfl (at1 q258.2) h) ?_
 obtain ⟨z259, q260, h0⟩ := bind_elim h0
 refine AD.op [53, 56] rfl (by kernel_rfl) rfl rfl (fun _ _ h => AOp.farith rfl rfl (ltb rfl) rfl rfl q260 h) ?_
 obtain ⟨q261, h0⟩ := need_elim h0
 refine AD.op [51] rfl (by kernel_rfl) rfl rfl (fun _ _ h => AOp.indexOwn (cells := (List.map keS1 ([z235, z237].set ((0 : Int)).toNat z249))) (n := ([z235, z237].set ((0 : Int)).toNat z249).length) rfl rfl (ltb rfl) rfl rfl el64 rfl (by decide) (len1 _ _) q261.1 q261.2 h) ?_
 refine AD.done ?_
 obtain ⟨q262, h0⟩ := need_elim h0
 refine AO.op rfl (AOp.storeOL (f := keS1) (l := ([z235, z237].set ((0 : Int)).toNat z249)) (i := ((1 : Int)).toNat) (v := z259) rfl rfl rfl rfl size22 rfl rfl rfl q262 ?_)
 refine AO.nil ?_
 change AC _ _ _ _
 refine AC.seq ?_
 refine AC.region ?_
 refine AO.op rfl (AOp.move rfl rfl (ltb rfl) rfl ?_)
 refine AO.op rfl (AOp.assign rfl rfl (ltb rfl) rfl ?_)
 refine AO.nil ?_
 change AC _ _ _ _
 refine AC.ret ?_
 refine inlret (ob' := [.fix 83 [.d (eS1 b0), .d (eS1 b1), .d (eS1 b2), .d (eS1 b3), .d (eS1 b4), .d (eS1 b5), .d (di .i64 b6), .d (dbool b7), .d (eS1 b8), .d (eS1 b9), .d (.ifc 87 (.ag []))], .frame pv [(0, .ptr 0 0)], .dead, .fix 22 (List.map (fun z => SV.d (keS1 z)) ((c7.set ((0 : Int)).toNat z73).set ((1 : Int)).toNat z83)), .fix 22 (List.map (fun z => SV.d (keS1 z)) ((c10.set ((0 : Int)).toNat z93).set ((1 : Int)).toNat z103)), .fix 22 (List.map (fun z => SV.d (keS1 z)) ((c13.set ((0 : Int)).toNat z113).set ((1 : Int)).toNat z123)), .fix 22 (List.map (fun z => SV.d (keS1 z)) ((c16.set ((0 : Int)).toNat z133).set ((1 : Int)).toNat z143)), .grow 22 1 (List.map keS1 (([(0 : Nat), (0 : Nat)].set ((0 : Int)).toNat z57).set ((1 : Int)).toNat z61)), .dead, .dead, .dead, .grow 22 1 (List.map keS1 (([z235, z237].set ((0 : Int)).toNat z249).set ((1 : Int)).toNat z259))]) (e' := [(0, .ptr 0 0), (1, .d (eS1 a0)), (2, .d (eS1 a1)), (3, .d (eS1 a2)), (4, .d (eS1 a3))]) (r := .own 11) rfl rfl rfl ?_
 change AO _ _ _ _ _
 refine AO.op rfl (AOp.assign rfl rfl (ltb rfl) rfl ?_)
 refine AO.objs (obs' := [.fix 83 [.d (eS1 b0), .d (eS1 b1), .d (eS1 b2), .d (eS1 b3), .d (eS1 b4), .d (eS1 b5), .d (di .i64 b6), .d (dbool b7), .d (eS1 b8), .d (eS1 b9), .d (.ifc 87 (.ag []))], .frame pv [(0, .ptr 0 0)], .dead, .fix 22 (List.map (fun z => SV.d (keS1 z)) ((c7.set ((0 : Int)).toNat z73).set ((1 : Int)).toNat z83)), .fix 22 (List.map (fun z => SV.d (keS1 z)) ((c10.set ((0 : Int)).toNat z93).set ((1 : Int)).toNat z103)), .fix 22 (List.map (fun z => SV.d (keS1 z)) ((c13.set ((0 : Int)).toNat z113).set ((1 : Int)).toNat z123)), .fix 22 (List.map (fun z => SV.d (keS1 z)) ((c16.set ((0 : Int)).toNat z133).set ((1 : Int)).toNat z143)), .grow 22 1 (List.map keS1 (([(0 : Nat), (0 : Nat)].set ((0 : Int)).toNat z57).set ((1 : Int)).toNat z61)), .dead, .dead, .dead, .grow 22 1 (List.map keS1 (([z235, z237].set ((0 : Int)).toNat z249).set ((1 : Int)).toNat z259))]) rfl ?_
 refine AO.nil ?_
 change AC _ _ _ _
 refine AC.seq ?_
 refine AC.seq ?_
 refine AC.region ?_
 refine AO.op rfl (AOp.move rfl rfl (ltb rfl) rfl ?_)
 refine AO.op rfl (AOp.move rfl rfl (ltb rfl) rfl ?_)
 refine AO.freezeG 11 rfl rfl rfl ?_
 refine AO.op rfl (AOp.inl [1, 2, 3, 4, 11] (by kernel_rfl) Tryz.func100 rfl Tryz.ntmps100 rfl rfl (ltb rfl) rfl (leb rfl) rfl ?_)
 intro fr263
 refine AC.seq ?_
 refine AC.region ?_
 refine AO.op rfl (AOp.assign rfl rfl (ltb rfl) rfl ?_)
 refine AO.objs (obs' := [.fix 83 [.d (eS1 b0), .d (eS1 b1), .d (eS1 b2), .d (eS1 b3), .d (eS1 b4), .d (eS1 b5), .d (di .i64 b6), .d (dbool b7), .d (eS1 b8), .d (eS1 b9), .d (.ifc 87 (.ag []))], .frame pv [(0, .ptr 0 0)], .dead, .fix 22 (List.map (fun z => SV.d (keS1 z)) ((c7.set ((0 : Int)).toNat z73).set ((1 : Int)).toNat z83)), .fix 22 (List.map (fun z => SV.d (keS1 z)) ((c10.set ((0 : Int)).toNat z93).set ((1 : Int)).toNat z103)), .fix 22 (List.map (fun z => SV.d (keS1 z)) ((c13.set ((0 : Int)).toNat z113).set ((1 : Int)).toNat z123)), .fix 22 (List.map (fun z => SV.d (keS1 z)) ((c16.set ((0 : Int)).toNat z133).set ((1 : Int)).toNat z143)), .grow 22 1 (List.map keS1 (([(0 : Nat), (0 : Nat)].set ((0 : Int)).toNat z57).set ((1 : Int)).toNat z61)), .dead, .dead, .dead, .dead, .frame fr263 [(1, .d (eS1 a0)), (2, .d (eS1 a1)), (3, .d (eS1 a2)), (4, .d (eS1 a3)), (11, .d (eS1 (([z235, z237].set ((0 : Int)).toNat z249).set ((1 : Int)).toNat z259)))]]) rfl ?_
 refine AO.nil ?_
 change AC _ _ _ _
 refine AC.seq ?_
 refine AC.draw 15 mixed (by kernel_rfl) ?_
 refine AD.op [1] rfl (by kernel_rfl) rfl rfl (fun _ _ h => AOp.move rfl rfl (ltb rfl) rfl h) ?_
 refine AD.op [0] rfl (by kernel_rfl) rfl rfl (fun _ _ h => AOp.move rfl rfl (ltb rfl) rfl h) ?_
 refine AD.op [8] rfl (by kernel_rfl) rfl rfl (fun _ _ h => AOp.nilCheck rfl rfl (ltb rfl) rfl rfl h) ?_
 refine AD.op [9] rfl (by kernel_rfl) rfl rfl (fun _ _ h => AOp.fieldAddr rfl rfl (ltb rfl) rfl fo83_0 h) ?_
 refine AD.op [10] rfl (by kernel_rfl) rfl rfl (fun _ _ h => AOp.indexArrO rfl rfl (ltb rfl) rfl rfl ar81 (by decide) (by decide) (show _ = 0 by first | rfl | decide) h) ?_
 refine AD.op [11] rfl (by kernel_rfl) rfl rfl (fun _ _ h => AOp.indexArrO rfl rfl (ltb rfl) rfl rfl ar80 (by decide) (by decide) (show _ = 0 by first | rfl | decide) h) ?_
 refine AD.op [12] rfl (by kernel_rfl) rfl rfl (fun _ _ h => AOp.load1 rfl rfl (ltb rfl) rfl agg64 rfl rfl h) ?_
 refine AD.op [0] rfl (by kernel_rfl) rfl rfl (fun _ _ h => AOp.move rfl rfl (ltb rfl) rfl h) ?_
 refine AD.op [14] rfl (by kernel_rfl) rfl rfl (fun _ _ h => AOp.nilCheck rfl rfl (ltb rfl) rfl rfl h) ?_
 refine AD.op [15] rfl (by kernel_rfl) rfl rfl (fun _ _ h => AOp.fieldAddr rfl rfl (ltb rfl) rfl fo83_0 h) ?_
 refine AD.op [16] rfl (by kernel_rfl) rfl rfl (fun _ _ h => AOp.indexArrO rfl rfl (ltb rfl) rfl rfl ar81 (by decide) (by decide) (show _ = 0 by first | rfl | decide) h) ?_
 refine AD.op [17] rfl (by kernel_rfl) rfl rfl (fun _ _ h => AOp.indexArrO rfl rfl (ltb rfl) rfl rfl ar80 (by decide) (by decide) (show _ = 1 by first | rfl | decide) h) ?_
 refine AD.op [18] rfl (by kernel_rfl) rfl rfl (fun _ _ h => AOp.load1 rfl rfl (ltb rfl) rfl agg64 rfl rfl h) ?_
 obtain ⟨y264, q265, h0⟩ := bind_elim h0
 refine AD.op [7, 13, 19] rfl (by kernel_rfl) rfl rfl (fun _ _ h => AOp.callD rfl rfl (ltb rfl) rfl rfl (w_IsPointWithinLineBounds (([z235, z237].set ((0 : Int)).toNat z249).set ((1 : Int)).toNat z259) b0 b1 y264 q265) (by rintro _ rfl; exact h)) ?_
 refine AD.op [20] rfl (by kernel_rfl) rfl rfl (fun _ _ h => AOp.assign rfl rfl (ltb rfl) rfl h) ?_
 refine AD.done ?_
 refine AO.nil ?_
 change AC _ _ _ _
 refine AC.seq ?_
 refine AC.draw 15 mixed (by kernel_rfl) ?_
 refine AD.op [1] rfl (by kernel_rfl) rfl rfl (fun _ _ h => AOp.move rfl rfl (ltb rfl) rfl h) ?_
 refine AD.op [0] rfl (by kernel_rfl) rfl rfl (fun _ _ h => AOp.move rfl rfl (ltb rfl) rfl h) ?_
 refine AD.op [22] rfl (by kernel_rfl) rfl rfl (fun _ _ h => AOp.nilCheck rfl rfl (ltb rfl) rfl rfl h) ?_
 refine AD.op [23] rfl (by kernel_rfl) rfl rfl (fun _ _ h => AOp.fieldAddr rfl rfl (ltb rfl) rfl fo83_0 h) ?_
 refine AD.op [24] rfl (by kernel_rfl) rfl rfl (fun _ _ h => AOp.indexArrO rfl rfl (ltb rfl) rfl rfl ar81 (by decide) (by decide) (show _ = 2 by first | rfl | decide) h) ?_
 refine AD.op [25] rfl (by kernel_rfl) rfl rfl (fun _ _ h => AOp.indexArrO rfl rfl (ltb rfl) rfl rfl ar80 (by decide) (by decide) (show _ = 2 by first | rfl | decide) h) ?_
 refine AD.op [26] rfl (by kernel_rfl) rfl rfl (fun _ _ h => AOp.load1 rfl rfl (ltb rfl) rfl agg64 rfl rfl h) ?_
 refine AD.op [0] rfl (by kernel_rfl) rfl rfl (fun _ _ h => AOp.move rfl rfl (ltb rfl) rfl h) ?_
 refine AD.op [28] rfl (by kernel_rfl) rfl rfl (fun _ _ h => AOp.nilCheck rfl rfl (ltb rfl) rfl rfl h) ?_
 refine AD.op [29] rfl (by kernel_rfl) rfl rfl (fun _ _ h => AOp.fieldAddr rfl rfl (ltb rfl) rfl fo83_0 h) ?_
 refine AD.op [30] rfl (by kernel_rfl) rfl rfl (fun _ _ h => AOp.indexArrO rfl rfl (ltb rfl) rfl rfl ar81 (by decide) (by decide) (show _ = 2 by first | rfl | decide) h) ?_
 refine AD.op [31] rfl (by kernel_rfl) rfl rfl (fun _ _ h => AOp.indexArrO rfl rfl (ltb rfl) rfl rfl ar80 (by decide) (by decide) (show _ = 3 by first | rfl | decide) h) ?_
 refine AD.op [32] rfl (by kernel_rfl) rfl rfl (fun _ _ h => AOp.load1 rfl rfl (ltb rfl) rfl agg64 rfl rfl h) ?_
 obtain ⟨y266, q267, h0⟩ := bind_elim h0
 refine AD.op [21, 27, 33] rfl (by kernel_rfl) rfl rfl (fun _ _ h => AOp.callD rfl rfl (ltb rfl) rfl rfl (w_IsPointWithinLineBounds (([z235, z237].set ((0 : Int)).toNat z249).set ((1 : Int)).toNat z259) b2 b3 y266 q267) (by rintro _ rfl; exact h)) ?_
 refine AD.op [34] rfl (by kernel_rfl) rfl rfl (fun _ _ h => AOp.assign rfl rfl (ltb rfl) rfl h) ?_
 refine AD.done ?_
 refine AO.nil ?_
 change AC _ _ _ _
 refine AC.joinP (V := Bool) [] [4] 13 (fun g268 => [(4, .d (dbool g268))]) (fun g268 => [.fix 83 [.d (eS1 b0), .d (eS1 b1), .d (eS1 b2), .d (eS1 b3), .d (eS1 b4), .d (eS1 b5), .d (di .i64 b6), .d (dbool b7), .d (eS1 b8), .d (eS1 b9), .d (.ifc 87 (.ag []))], .frame pv [(0, .ptr 0 0)], .dead, .fix 22 (List.map (fun z => SV.d (keS1 z)) ((c7.set ((0 : Int)).toNat z73).set ((1 : Int)).toNat z83)), .fix 22 (List.map (fun z => SV.d (keS1 z)) ((c10.set ((0 : Int)).toNat z93).set ((1 : Int)).toNat z103)), .fix 22 (List.map (fun z => SV.d (keS1 z)) ((c13.set ((0 : Int)).toNat z113).set ((1 : Int)).toNat z123)), .fix 22 (List.map (fun z => SV.d (keS1 z)) ((c16.set ((0 : Int)).toNat z133).set ((1 : Int)).toNat z143)), .grow 22 1 (List.map keS1 (([(0 : Nat), (0 : Nat)].set ((0 : Int)).toNat z57).set ((1 : Int)).toNat z61)), .dead, .dead, .dead, .dead, .frame fr263 [(1, .d (eS1 a0)), (2, .d (eS1 a1)), (3, .d (eS1 a2)), (4, .d (eS1 a3)), (11, .d (eS1 (([z235, z237].set ((0 : Int)).toNat z249).set ((1 : Int)).toNat z259)))]]) (fun g268 => (p_intersection_k15 z235 z237 z249 z259) g268 = some r0) rfl ?_ ?_
 ·refine AC.region ?_
  refine AO.op rfl (AOp.move rfl rfl (ltb rfl) rfl ?_)
  refine AO.op rfl (AOp.move rfl rfl (ltb rfl) rfl ?_)
  refine AO.dec y264 (fun q270 => ?_) (fun q270 => ?_)
  ·replace h0 := cT h0 q270
   refine AO.guardY rfl rfl rfl q270 (AOp.move rfl rfl (ltb rfl) rfl ?_)
   refine AO.op rfl (AOp.pick rfl rfl (ltb rfl) rfl q270 rfl ?_)
   refine AO.op rfl (AOp.assign rfl rfl (ltb rfl) rfl ?_)
   refine AO.nil ?_
   exact ⟨y266, _, rfl, (LeL.refl _), rfl, (okU_mk rfl (okU_cons rfl (okU_cons rfl (okU_cons rfl (okU_cons (okU_fixl (fun _ => rfl)) (okU_cons (okU_fixl (fun _ => rfl)) (okU_cons (okU_fixl (fun _ => rfl)) (okU_cons (okU_fixl (fun _ => rfl)) (okU_cons rfl (okU_cons rfl (okU_cons rfl (okU_cons rfl (okU_cons rfl (okU_cons rfl okU_nil)))))))))))))), h0⟩
  replace h0 := cF h0 q270
  refine AO.guardN rfl rfl rfl (ltb rfl) rfl q270 ?_
  refine AO.op rfl (AOp.pickN rfl rfl (ltb rfl) rfl q270 rfl ?_)
  refine AO.op rfl (AOp.assign rfl rfl (ltb rfl) rfl ?_)
  refine AO.nil ?_
  exact ⟨false, _, rfl, (LeL.refl _), rfl, (okU_mk rfl (okU_cons rfl (okU_cons rfl (okU_cons rfl (okU_cons (okU_fixl (fun _ => rfl)) (okU_cons (okU_fixl (fun _ => rfl)) (okU_cons (okU_fixl (fun _ => rfl)) (okU_cons (okU_fixl (fun _ => rfl)) (okU_cons rfl (okU_cons rfl (okU_cons rfl (okU_cons rfl (okU_cons rfl (okU_cons rfl okU_nil)))))))))))))), h0⟩
 intro g268 h0
 unfold p_intersection_k15 at h0
 refine AC.ret ?_
 refine inlret (ob' := [.fix 83 [.d (eS1 b0), .d (eS1 b1), .d (eS1 b2), .d (eS1 b3), .d (eS1 b4), .d (eS1 b5), .d (di .i64 b6), .d (dbool b7), .d (eS1 b8), .d (eS1 b9), .d (.ifc 87 (.ag []))], .frame pv [(0, .ptr 0 0)], .dead, .fix 22 (List.map (fun z => SV.d (keS1 z)) ((c7.set ((0 : Int)).toNat z73).set ((1 : Int)).toNat z83)), .fix 22 (List.map (fun z => SV.d (keS1 z)) ((c10.set ((0 : Int)).toNat z93).set ((1 : Int)).toNat z103)), .fix 22 (List.map (fun z => SV.d (keS1 z)) ((c13.set ((0 : Int)).toNat z113).set ((1 : Int)).toNat z123)), .fix 22 (List.map (fun z => SV.d (keS1 z)) ((c16.set ((0 : Int)).toNat z133).set ((1 : Int)).toNat z143)), .grow 22 1 (List.map keS1 (([(0 : Nat), (0 : Nat)].set ((0 : Int)).toNat z57).set ((1 : Int)).toNat z61)), .dead, .dead, .dead, .dead, .dead]) (e' := [(1, .d (eS1 a0)), (2, .d (eS1 a1)), (3, .d (eS1 a2)), (4, .d (eS1 a3)), (11, .d (eS1 (([z235, z237].set ((0 : Int)).toNat z249).set ((1 : Int)).toNat z259)))]) (r := .d (dbool g268)) rfl rfl rfl ?_
 change AO _ _ _ _ _
 refine AO.op rfl (AOp.bnot rfl rfl (ltb rfl) rfl ?_)
 refine AO.objs (obs' := [.fix 83 [.d (eS1 b0), .d (eS1 b1), .d (eS1 b2), .d (eS1 b3), .d (eS1 b4), .d (eS1 b5), .d (di .i64 b6), .d (dbool b7), .d (eS1 b8), .d (eS1 b9), .d (.ifc 87 (.ag []))], .frame pv [(0, .ptr 0 0)], .dead, .fix 22 (List.map (fun z => SV.d (keS1 z)) ((c7.set ((0 : Int)).toNat z73).set ((1 : Int)).toNat z83)), .fix 22 (List.map (fun z => SV.d (keS1 z)) ((c10.set ((0 : Int)).toNat z93).set ((1 : Int)).toNat z103)), .fix 22 (List.map (fun z => SV.d (keS1 z)) ((c13.set ((0 : Int)).toNat z113).set ((1 : Int)).toNat z123)), .fix 22 (List.map (fun z => SV.d (keS1 z)) ((c16.set ((0 : Int)).toNat z133).set ((1 : Int)).toNat z143)), .grow 22 1 (List.map keS1 (([(0 : Nat), (0 : Nat)].set ((0 : Int)).toNat z57).set ((1 : Int)).toNat z61)), .dead, .dead, .dead, .dead, .dead]) rfl ?_
 refine AO.nil ?_
 change AC _ _ _ _
 refine AC.cond rfl (fun q269 => ?_) (fun q269 => ?_)
 ·replace h0 := cT h0 q269
  cases h0
 replace h0 := cF h0 q269
 refine AC.skip ?_
 change AC _ _ _ _
 refine AC.seq ?_
 refine AC.region ?_
 refine AO.op rfl (AOp.move rfl rfl (ltb rfl) rfl ?_)
 refine AO.op rfl (AOp.assign rfl rfl (ltb rfl) rfl ?_)
 refine AO.nil ?_
 change AC _ _ _ _
 obtain rfl := Option.some.inj h0
 refine AC.ret ?_
 change RetH _ _ _ _ _ _ .ret _
 refine reth (post := [.fix 83 [.d (eS1 b0), .d (eS1 b1), .d (eS1 b2), .d (eS1 b3), .d (eS1 b4), .d (eS1 b5), .d (di .i64 b6), .d (dbool b7), .d (eS1 b8), .d (eS1 b9), .d (.ifc 87 (.ag []))]]) rfl rfl rfl rfl rfl ?_
 exact ⟨rfl, rfl⟩

set_option maxRecDepth 100000 in
set_option maxHeartbeats 4000000 in
/-- pub-orthodrome/pub/gogeom/xy/lineintersector.LineIntersectsLine -/
theorem w_LineIntersectsLine (a1 : (List Nat)) (a2 : (List Nat)) (a3 : (List Nat)) (a4 : (List Nat)) (r0 : TLineintersection_Result) (h0 : p_LineIntersectsLine a1 a2 a3 a4 = some r0) : FnD Tryz.prog 21 [.ifc 87 (.ag []), eS1 a1, eS1 a2, eS1 a3, eS1 a4] (fun r => r = e_TLineintersection_Result r0) := by
 refine FnD.of (by kernel_rfl) Tryz.func21 rfl Tryz.ntmps21 rfl (leb rfl) fun W ok => ?_
 unfold p_LineIntersectsLine at h0
 refine AC.seq ?_
 refine AC.region ?_
 refine AO.op rfl (AOp.alloc rfl rfl (ltb rfl) zero58 rfl ?_)
 refine AO.nil ?_
 change AC _ _ _ _
 refine AC.seq ?_
 refine AC.region ?_
 refine AO.op rfl (AOp.move rfl rfl (ltb rfl) rfl ?_)
 refine AO.op rfl (AOp.move rfl rfl (ltb rfl) rfl ?_)
 refine AO.op rfl (AOp.move rfl rfl (ltb rfl) rfl ?_)
 refine AO.op rfl (AOp.build (r := [.d (eS1 a3), .d (eS1 a4)]) rfl rfl (ltb rfl) zero80 rfl places80 rfl rfl ?_)
 refine AO.op rfl (AOp.move rfl rfl (ltb rfl) rfl ?_)
 refine AO.op rfl (AOp.move rfl rfl (ltb rfl) rfl ?_)
 refine AO.op rfl (AOp.build (r := [.d (eS1 a1), .d (eS1 a2)]) rfl rfl (ltb rfl) zero80 rfl places80 rfl rfl ?_)
 refine AO.op rfl (AOp.build (r := [.d (eS1 a3), .d (eS1 a4), .d (eS1 a1), .d (eS1 a2)]) rfl rfl (ltb rfl) zero81 rfl places81 rfl rfl ?_)
 refine AO.op rfl (AOp.buildSliceD rfl rfl (ltb rfl) el64 zero22 rfl (leb rfl) rfl rfl rfl rfl ?_)
 refine AO.op rfl (AOp.buildSliceD rfl rfl (ltb rfl) el64 zero22 rfl (leb rfl) rfl rfl rfl rfl ?_)
 refine AO.op rfl (AOp.build (r := [.d (eS1 [(0 : Nat), (0 : Nat)]), .d (eS1 [(0 : Nat), (0 : Nat)])]) rfl rfl (ltb rfl) zero80 rfl places80 rfl rfl ?_)
 refine AO.op rfl (AOp.build rfl rfl (ltb rfl) zero83 rfl places83 rfl rfl ?_)
 refine AO.op rfl (AOp.box rfl rfl (ltb rfl) rfl rfl ?_)
 refine AO.op rfl (AOp.assign rfl rfl (ltb rfl) rfl ?_)
 refine AO.nil ?_
 change AC _ _ _ _
 refine AC.seq ?_
 refine AC.region ?_
 refine AO.op rfl (AOp.move rfl rfl (ltb rfl) rfl ?_)
 refine AO.op rfl (AOp.move rfl rfl (ltb rfl) rfl ?_)
 refine AO.op rfl (AOp.nilCheck rfl rfl (ltb rfl) rfl rfl ?_)
 refine AO.op rfl (AOp.fieldAddr rfl rfl (ltb rfl) rfl fo83_1 ?_)
 refine AO.op rfl (AOp.indexArrO rfl rfl (ltb rfl) rfl rfl ar80 (by decide) (by decide) (show _ = 4 by first | rfl | decide) ?_)
 refine AO.op rfl (AOp.load1 rfl rfl (ltb rfl) rfl agg64 rfl rfl ?_)
 refine AO.op rfl (AOp.nilCheck rfl rfl (ltb rfl) rfl rfl ?_)
 refine AO.op rfl (AOp.fieldAddr rfl rfl (ltb rfl) rfl fo83_4 ?_)
 refine AO.op rfl (AOp.store rfl rfl rfl rfl size64 rfl rfl rfl (leb rfl) ?_)
 refine AO.nil ?_
 change AC _ _ _ _
 refine AC.seq ?_
 refine AC.region ?_
 refine AO.op rfl (AOp.move rfl rfl (ltb rfl) rfl ?_)
 refine AO.op rfl (AOp.move rfl rfl (ltb rfl) rfl ?_)
 refine AO.op rfl (AOp.nilCheck rfl rfl (ltb rfl) rfl rfl ?_)
 refine AO.op rfl (AOp.fieldAddr rfl rfl (ltb rfl) rfl fo83_1 ?_)
 refine AO.op rfl (AOp.indexArrO rfl rfl (ltb rfl) rfl rfl ar80 (by decide) (by decide) (show _ = 5 by first | rfl | decide) ?_)
 refine AO.op rfl (AOp.load1 rfl rfl (ltb rfl) rfl agg64 rfl rfl ?_)
 refine AO.op rfl (AOp.nilCheck rfl rfl (ltb rfl) rfl rfl ?_)
 refine AO.op rfl (AOp.fieldAddr rfl rfl (ltb rfl) rfl fo83_5 ?_)
 refine AO.op rfl (AOp.store rfl rfl rfl rfl size64 rfl rfl rfl (leb rfl) ?_)
 refine AO.nil ?_
 change AC _ _ _ _
 refine AC.seq ?_
 refine AC.region ?_
 refine AO.op rfl (AOp.move rfl rfl (ltb rfl) rfl ?_)
 refine AO.op rfl (AOp.move rfl rfl (ltb rfl) rfl ?_)
 refine AO.op rfl (AOp.move rfl rfl (ltb rfl) rfl ?_)
 refine AO.op rfl (AOp.move rfl rfl (ltb rfl) rfl ?_)
 refine AO.op rfl (AOp.move rfl rfl (ltb rfl) rfl ?_)
 refine AO.op rfl (AOp.move rfl rfl (ltb rfl) rfl ?_)
 refine AO.op rfl (AOp.inlE [10, 11] (EntersS.meth (by kernel_rfl) rfl rfl rfl meth87_pub_orthodrome_pub_gogeom_xy_lineintersector_computeLineOnLineIntersection rfl rfl) Tryz.func89 rfl Tryz.ntmps89 rfl (ltb rfl) (leb rfl) rfl ?_)
 intro fr1
 refine AC.seq ?_
 refine AC.region ?_
 refine AO.op rfl (AOp.box rfl rfl (ltb rfl) rfl rfl ?_)
 refine AO.nil ?_
 change AC _ _ _ _
 refine AC.seq ?_
 refine AC.region ?_
 refine AO.op rfl (AOp.move rfl rfl (ltb rfl) rfl ?_)
 refine AO.op rfl (AOp.nilCheck rfl rfl (ltb rfl) rfl rfl ?_)
 refine AO.op rfl (AOp.fieldAddr rfl rfl (ltb rfl) rfl fo83_3 ?_)
 refine AO.op rfl (AOp.store rfl rfl rfl rfl size4 rfl rfl rfl (leb rfl) ?_)
 refine AO.nil ?_
 change AC _ _ _ _
 refine AC.seq ?_
 refine AC.seq ?_
 refine AC.region ?_
 refine AO.op rfl (AOp.move rfl rfl (ltb rfl) rfl ?_)
 refine AO.op rfl (AOp.move rfl rfl (ltb rfl) rfl ?_)
 refine AO.op rfl (AOp.move rfl rfl (ltb rfl) rfl ?_)
 refine AO.op rfl (AOp.move rfl rfl (ltb rfl) rfl ?_)
 obtain ⟨y2, q3, h0⟩ := bind_elim h0
 refine AO.op rfl (AOp.callD rfl rfl (ltb rfl) rfl rfl (w_DoLinesOverlap a1 a2 a3 a4 y2 q3) ?_)
 rintro _ rfl
 refine AO.op rfl (AOp.bnot rfl rfl (ltb rfl) rfl ?_)
 refine AO.nil ?_
 change AC _ _ _ _
 refine AC.cond rfl (fun q4 => ?_) (fun q4 => ?_)
 ·replace h0 := cT h0 q4
  cases h0
 replace h0 := cF h0 q4
 refine AC.skip ?_
 change AC _ _ _ _
 refine AC.seq ?_
 refine AC.region ?_
 refine AO.op rfl (AOp.move rfl rfl (ltb rfl) rfl ?_)
 refine AO.op rfl (AOp.move rfl rfl (ltb rfl) rfl ?_)
 refine AO.op rfl (AOp.move rfl rfl (ltb rfl) rfl ?_)
 obtain ⟨y5, q6, h0⟩ := bind_elim h0
 refine AO.op rfl (AOp.callD rfl rfl (ltb rfl) rfl rfl (w_OrientationIndex a1 a2 a3 y5 q6) ?_)
 rintro _ rfl
 refine AO.op rfl (AOp.assign rfl rfl (ltb rfl) rfl ?_)
 refine AO.nil ?_
 change AC _ _ _ _
 refine AC.seq ?_
 refine AC.region ?_
 refine AO.op rfl (AOp.move rfl rfl (ltb rfl) rfl ?_)
 refine AO.op rfl (AOp.move rfl rfl (ltb rfl) rfl ?_)
 refine AO.op rfl (AOp.move rfl rfl (ltb rfl) rfl ?_)
 obtain ⟨y7, q8, h0⟩ := bind_elim h0
 refine AO.op rfl (AOp.callD rfl rfl (ltb rfl) rfl rfl (w_OrientationIndex a1 a2 a4 y7 q8) ?_)
 rintro _ rfl
 refine AO.op rfl (AOp.assign rfl rfl (ltb rfl) rfl ?_)
 refine AO.nil ?_
 change AC _ _ _ _
 refine AC.seq ?_
 refine AC.joinP (V := Bool) [1, 2, 3, 4, 5, 12, 13] [50] 4 (fun g9 => [(50, .d (dbool g9))]) (fun g9 => [.fix 58 [.d (di .i64 (0 : Int)), .d (.v (.slice none 0 0))], .fix 83 [.d (eS1 a3), .d (eS1 a4), .d (eS1 a1), .d (eS1 a2), .d (eS1 [(0 : Nat), (0 : Nat)]), .d (eS1 [(0 : Nat), (0 : Nat)]), .d (di .i64 (0 : Int)), .d (dbool false), .d (eS1 [(0 : Nat), (0 : Nat)]), .d (eS1 [(0 : Nat), (0 : Nat)]), .d (.ifc 87 (.ag []))], .frame fr1 [(10, .ptr 0 0), (11, .ptr 1 0)], .fix 87 []]) (fun g9 => (p_LineIntersectsLine_k1 a1 a2 a3 a4 y5 y7) g9 = some r0) rfl ?_ ?_
 ·refine AC.region ?_
  refine AO.op rfl (AOp.move rfl rfl (ltb rfl) rfl ?_)
  refine AO.op rfl (AOp.igtr rfl rfl (ltb rfl) rfl rfl ?_)
  refine AO.op rfl (AOp.move rfl rfl (ltb rfl) rfl ?_)
  refine AO.dec (decide ((0 : Int) < y5)) (fun q36 => ?_) (fun q36 => ?_)
  ·replace h0 := cT h0 q36
   refine AO.guardY rfl rfl rfl q36 (AOp.move rfl rfl (ltb rfl) rfl ?_)
   refine AO.guardY rfl rfl rfl q36 (AOp.igtr rfl rfl (ltb rfl) rfl rfl ?_)
   refine AO.op rfl (AOp.pick rfl rfl (ltb rfl) rfl q36 rfl ?_)
   refine AO.op rfl (AOp.move rfl rfl (ltb rfl) rfl ?_)
   refine AO.dec (decide ((0 : Int) < y7)) (fun q37 => ?_) (fun q37 => ?_)
   ·replace h0 := cT h0 q37
    refine AO.guardN rfl rfl rfl (ltb rfl) rfl q37 ?_
    refine AO.guardN rfl rfl rfl (ltb rfl) rfl q37 ?_
    refine AO.guardN rfl rfl rfl (ltb rfl) rfl q37 ?_
    refine AO.guardU rfl rfl rfl (ltb rfl) rfl ?_
    refine AO.guardU rfl rfl rfl (ltb rfl) rfl ?_
    refine AO.guardN rfl rfl rfl (ltb rfl) rfl q37 ?_
    refine AO.op rfl (AOp.pick rfl rfl (ltb rfl) rfl q37 rfl ?_)
    refine AO.objs (obs' := [.fix 58 [.d (di .i64 (0 : Int)), .d (.v (.slice none 0 0))], .fix 83 [.d (eS1 a3), .d (eS1 a4), .d (eS1 a1), .d (eS1 a2), .d (eS1 [(0 : Nat), (0 : Nat)]), .d (eS1 [(0 : Nat), (0 : Nat)]), .d (di .i64 (0 : Int)), .d (dbool false), .d (eS1 [(0 : Nat), (0 : Nat)]), .d (eS1 [(0 : Nat), (0 : Nat)]), .d (.ifc 87 (.ag []))], .frame fr1 [(10, .ptr 0 0), (11, .ptr 1 0)], .fix 87 []]) rfl ?_
    refine AO.nil ?_
    exact ⟨true, _, rfl, (LeL.refl _), rfl, rfl, h0⟩
   replace h0 := cF h0 q37
   refine AO.guardY rfl rfl rfl q37 (AOp.move rfl rfl (ltb rfl) rfl ?_)
   refine AO.guardY rfl rfl rfl q37 (AOp.ilss rfl rfl (ltb rfl) rfl rfl ?_)
   refine AO.guardY rfl rfl rfl q37 (AOp.move rfl rfl (ltb rfl) rfl ?_)
   refine AO.dec (decide (y5 < (0 : Int))) (fun q38 => ?_) (fun q38 => ?_)
   ·replace h0 := cT h0 q38
    refine AO.guardY rfl rfl rfl q38 (AOp.move rfl rfl (ltb rfl) rfl ?_)
    refine AO.guardY rfl rfl rfl q38 (AOp.ilss rfl rfl (ltb rfl) rfl rfl ?_)
    refine AO.guardY rfl rfl rfl q37 (AOp.pick rfl rfl (ltb rfl) rfl q38 rfl ?_)
    refine AO.op rfl (AOp.pickN rfl rfl (ltb rfl) rfl q37 rfl ?_)
    refine AO.objs (obs' := [.fix 58 [.d (di .i64 (0 : Int)), .d (.v (.slice none 0 0))], .fix 83 [.d (eS1 a3), .d (eS1 a4), .d (eS1 a1), .d (eS1 a2), .d (eS1 [(0 : Nat), (0 : Nat)]), .d (eS1 [(0 : Nat), (0 : Nat)]), .d (di .i64 (0 : Int)), .d (dbool false), .d (eS1 [(0 : Nat), (0 : Nat)]), .d (eS1 [(0 : Nat), (0 : Nat)]), .d (.ifc 87 (.ag []))], .frame fr1 [(10, .ptr 0 0), (11, .ptr 1 0)], .fix 87 []]) rfl ?_
    refine AO.nil ?_
    exact ⟨(decide (y7 < (0 : Int))), _, rfl, (LeL.refl _), rfl, rfl, h0⟩
   replace h0 := cF h0 q38
   refine AO.guardN rfl rfl rfl (ltb rfl) rfl q38 ?_
   refine AO.guardN rfl rfl rfl (ltb rfl) rfl q38 ?_
   refine AO.guardY rfl rfl rfl q37 (AOp.pickN rfl rfl (ltb rfl) rfl q38 rfl ?_)
   refine AO.op rfl (AOp.pickN rfl rfl (ltb rfl) rfl q37 rfl ?_)
   refine AO.objs (obs' := [.fix 58 [.d (di .i64 (0 : Int)), .d (.v (.slice none 0 0))], .fix 83 [.d (eS1 a3), .d (eS1 a4), .d (eS1 a1), .d (eS1 a2), .d (eS1 [(0 : Nat), (0 : Nat)]), .d (eS1 [(0 : Nat), (0 : Nat)]), .d (di .i64 (0 : Int)), .d (dbool false), .d (eS1 [(0 : Nat), (0 : Nat)]), .d (eS1 [(0 : Nat), (0 : Nat)]), .d (.ifc 87 (.ag []))], .frame fr1 [(10, .ptr 0 0), (11, .ptr 1 0)], .fix 87 []]) rfl ?_
   refine AO.nil ?_
   exact ⟨false, _, rfl, (LeL.refl _), rfl, rfl, h0⟩
  replace h0 := cF h0 q36
  refine AO.guardN rfl rfl rfl (ltb rfl) rfl q36 ?_
  refine AO.guardN rfl rfl rfl (ltb rfl) rfl q36 ?_
  refine AO.op rfl (AOp.pickN rfl rfl (ltb rfl) rfl q36 rfl ?_)
  refine AO.op rfl (AOp.move rfl rfl (ltb rfl) rfl ?_)
  refine AO.guardY rfl rfl rfl rfl (AOp.move rfl rfl (ltb rfl) rfl ?_)
  refine AO.guardY rfl rfl rfl rfl (AOp.ilss rfl rfl (ltb rfl) rfl rfl ?_)
  refine AO.guardY rfl rfl rfl rfl (AOp.move rfl rfl (ltb rfl) rfl ?_)
  refine AO.dec (decide (y5 < (0 : Int))) (fun q39 => ?_) (fun q39 => ?_)
  ·replace h0 := cT h0 q39
   refine AO.guardY rfl rfl rfl q39 (AOp.move rfl rfl (ltb rfl) rfl ?_)
   refine AO.guardY rfl rfl rfl q39 (AOp.ilss rfl rfl (ltb rfl) rfl rfl ?_)
   refine AO.guardY rfl rfl rfl rfl (AOp.pick rfl rfl (ltb rfl) rfl q39 rfl ?_)
   refine AO.op rfl (AOp.pickN rfl rfl (ltb rfl) rfl rfl rfl ?_)
   refine AO.objs (obs' := [.fix 58 [.d (di .i64 (0 : Int)), .d (.v (.slice none 0 0))], .fix 83 [.d (eS1 a3), .d (eS1 a4), .d (eS1 a1), .d (eS1 a2), .d (eS1 [(0 : Nat), (0 : Nat)]), .d (eS1 [(0 : Nat), (0 : Nat)]), .d (di .i64 (0 : Int)), .d (dbool false), .d (eS1 [(0 : Nat), (0 : Nat)]), .d (eS1 [(0 : Nat), (0 : Nat)]), .d (.ifc 87 (.ag []))], .frame fr1 [(10, .ptr 0 0), (11, .ptr 1 0)], .fix 87 []]) rfl ?_
   refine AO.nil ?_
   exact ⟨(decide (y7 < (0 : Int))), _, rfl, (LeL.refl _), rfl, rfl, h0⟩
  replace h0 := cF h0 q39
  refine AO.guardN rfl rfl rfl (ltb rfl) rfl q39 ?_
  refine AO.guardN rfl rfl rfl (ltb rfl) rfl q39 ?_
  refine AO.guardY rfl rfl rfl rfl (AOp.pickN rfl rfl (ltb rfl) rfl q39 rfl ?_)
  refine AO.op rfl (AOp.pickN rfl rfl (ltb rfl) rfl rfl rfl ?_)
  refine AO.objs (obs' := [.fix 58 [.d (di .i64 (0 : Int)), .d (.v (.slice none 0 0))], .fix 83 [.d (eS1 a3), .d (eS1 a4), .d (eS1 a1), .d (eS1 a2), .d (eS1 [(0 : Nat), (0 : Nat)]), .d (eS1 [(0 : Nat), (0 : Nat)]), .d (di .i64 (0 : Int)), .d (dbool false), .d (eS1 [(0 : Nat), (0 : Nat)]), .d (eS1 [(0 : Nat), (0 : Nat)]), .d (.ifc 87 (.ag []))], .frame fr1 [(10, .ptr 0 0), (11, .ptr 1 0)], .fix 87 []]) rfl ?_
  refine AO.nil ?_
  exact ⟨false, _, rfl, (LeL.refl _), rfl, rfl, h0⟩
 intro g9 h0
 unfold p_LineIntersectsLine_k1 at h0
 refine AC.cond rfl (fun q10 => ?_) (fun q10 => ?_)
 ·replace h0 := cT h0 q10
  cases h0
 replace h0 := cF h0 q10
 refine AC.skip ?_
 change AC _ _ _ _
 refine AC.seq ?_
 refine AC.region ?_
 refine AO.op rfl (AOp.move rfl rfl (ltb rfl) rfl ?_)
 refine AO.op rfl (AOp.move rfl rfl (ltb rfl) rfl ?_)
 refine AO.op rfl (AOp.move rfl rfl (ltb rfl) rfl ?_)
 obtain ⟨y11, q12, h0⟩ := bind_elim h0
 refine AO.op rfl (AOp.callD rfl rfl (ltb rfl) rfl rfl (w_OrientationIndex a3 a4 a1 y11 q12) ?_)
 rintro _ rfl
 refine AO.op rfl (AOp.assign rfl rfl (ltb rfl) rfl ?_)
 refine AO.nil ?_
 change AC _ _ _ _
 refine AC.seq ?_
 refine AC.region ?_
 refine AO.op rfl (AOp.move rfl rfl (ltb rfl) rfl ?_)
 refine AO.op rfl (AOp.move rfl rfl (ltb rfl) rfl ?_)
 refine AO.op rfl (AOp.move rfl rfl (ltb rfl) rfl ?_)
 obtain ⟨y13, q14, h0⟩ := bind_elim h0
 refine AO.op rfl (AOp.callD rfl rfl (ltb rfl) rfl rfl (w_OrientationIndex a3 a4 a2 y13 q14) ?_)
 rintro _ rfl
 refine AO.op rfl (AOp.assign rfl rfl (ltb rfl) rfl ?_)
 refine AO.nil ?_
 change AC _ _ _ _
 refine AC.seq ?_
 refine AC.joinP (V := Bool) [1, 2, 3, 4, 5, 12, 13, 14, 15] [75] 4 (fun g15 => [(75, .d (dbool g15))]) (fun g15 => [.fix 58 [.d (di .i64 (0 : Int)), .d (.v (.slice none 0 0))], .fix 83 [.d (eS1 a3), .d (eS1 a4), .d (eS1 a1), .d (eS1 a2), .d (eS1 [(0 : Nat), (0 : Nat)]), .d (eS1 [(0 : Nat), (0 : Nat)]), .d (di .i64 (0 : Int)), .d (dbool false), .d (eS1 [(0 : Nat), (0 : Nat)]), .d (eS1 [(0 : Nat), (0 : Nat)]), .d (.ifc 87 (.ag []))], .frame fr1 [(10, .ptr 0 0), (11, .ptr 1 0)], .fix 87 []]) (fun g15 => (p_LineIntersectsLine_k2 a1 a2 a3 a4 y5 y7 y11 y13) g15 = some r0) rfl ?_ ?_
 ·refine AC.region ?_
  refine AO.op rfl (AOp.move rfl rfl (ltb rfl) rfl ?_)
  refine AO.op rfl (AOp.igtr rfl rfl (ltb rfl) rfl rfl ?_)
  refine AO.op rfl (AOp.move rfl rfl (ltb rfl) rfl ?_)
  refine AO.dec (decide ((0 : Int) < y11)) (fun q32 => ?_) (fun q32 => ?_)
  ·replace h0 := cT h0 q32
   refine AO.guardY rfl rfl rfl q32 (AOp.move rfl rfl (ltb rfl) rfl ?_)
   refine AO.guardY rfl rfl rfl q32 (AOp.igtr rfl rfl (ltb rfl) rfl rfl ?_)
   refine AO.op rfl (AOp.pick rfl rfl (ltb rfl) rfl q32 rfl ?_)
   refine AO.op rfl (AOp.move rfl rfl (ltb rfl) rfl ?_)
   refine AO.dec (decide ((0 : Int) < y13)) (fun q33 => ?_) (fun q33 => ?_)
   ·replace h0 := cT h0 q33
    refine AO.guardN rfl rfl rfl (ltb rfl) rfl q33 ?_
    refine AO.guardN rfl rfl rfl (ltb rfl) rfl q33 ?_
    refine AO.guardN rfl rfl rfl (ltb rfl) rfl q33 ?_
    refine AO.guardU rfl rfl rfl (ltb rfl) rfl ?_
    refine AO.guardU rfl rfl rfl (ltb rfl) rfl ?_
    refine AO.guardN rfl rfl rfl (ltb rfl) rfl q33 ?_
    refine AO.op rfl (AOp.pick rfl rfl (ltb rfl) rfl q33 rfl ?_)
    refine AO.nil ?_
    exact ⟨true, _, rfl, (LeL.refl _), rfl, rfl, h0⟩
   replace h0 := cF h0 q33
   refine AO.guardY rfl rfl rfl q33 (AOp.move rfl rfl (ltb rfl) rfl ?_)
   refine AO.guardY rfl rfl rfl q33 (AOp.ilss rfl rfl (ltb rfl) rfl rfl ?_)
   refine AO.guardY rfl rfl rfl q33 (AOp.move rfl rfl (ltb rfl) rfl ?_)
   refine AO.dec (decide (y11 < (0 : Int))) (fun q34 => ?_) (fun q34 => ?_)
   ·replace h0 := cT h0 q34
    refine AO.guardY rfl rfl rfl q34 (AOp.move rfl rfl (ltb rfl) rfl ?_)
    refine AO.guardY rfl rfl rfl q34 (AOp.ilss rfl rfl (ltb rfl) rfl rfl ?_)
    refine AO.guardY rfl rfl rfl q33 (AOp.pick rfl rfl (ltb rfl) rfl q34 rfl ?_)
    refine AO.op rfl (AOp.pickN rfl rfl (ltb rfl) rfl q33 rfl ?_)
    refine AO.nil ?_
    exact ⟨(decide (y13 < (0 : Int))), _, rfl, (LeL.refl _), rfl, rfl, h0⟩
   replace h0 := cF h0 q34
   refine AO.guardN rfl rfl rfl (ltb rfl) rfl q34 ?_
   refine AO.guardN rfl rfl rfl (ltb rfl) rfl q34 ?_
   refine AO.guardY rfl rfl rfl q33 (AOp.pickN rfl rfl (ltb rfl) rfl q34 rfl ?_)
   refine AO.op rfl (AOp.pickN rfl rfl (ltb rfl) rfl q33 rfl ?_)
   refine AO.nil ?_
   exact ⟨false, _, rfl, (LeL.refl _), rfl, rfl, h0⟩
  replace h0 := cF h0 q32
  refine AO.guardN rfl rfl rfl (ltb rfl) rfl q32 ?_
  refine AO.guardN rfl rfl rfl (ltb rfl) rfl q32 ?_
  refine AO.op rfl (AOp.pickN rfl rfl (ltb rfl) rfl q32 rfl ?_)
  refine AO.op rfl (AOp.move rfl rfl (ltb rfl) rfl ?_)
  refine AO.guardY rfl rfl rfl rfl (AOp.move rfl rfl (ltb rfl) rfl ?_)
  refine AO.guardY rfl rfl rfl rfl (AOp.ilss rfl rfl (ltb rfl) rfl rfl ?_)
  refine AO.guardY rfl rfl rfl rfl (AOp.move rfl rfl (ltb rfl) rfl ?_)
  refine AO.dec (decide (y11 < (0 : Int))) (fun q35 => ?_) (fun q35 => ?_)
  ·replace h0 := cT h0 q35
   refine AO.guardY rfl rfl rfl q35 (AOp.move rfl rfl (ltb rfl) rfl ?_)
   refine AO.guardY rfl rfl rfl q35 (AOp.ilss rfl rfl (ltb rfl) rfl rfl ?_)
   refine AO.guardY rfl rfl rfl rfl (AOp.pick rfl rfl (ltb rfl) rfl q35 rfl ?_)
   refine AO.op rfl (AOp.pickN rfl rfl (ltb rfl) rfl rfl rfl ?_)
   refine AO.nil ?_
   exact ⟨(decide (y13 < (0 : Int))), _, rfl, (LeL.refl _), rfl, rfl, h0⟩
  replace h0 := cF h0 q35
  refine AO.guardN rfl rfl rfl (ltb rfl) rfl q35 ?_
  refine AO.guardN rfl rfl rfl (ltb rfl) rfl q35 ?_
  refine AO.guardY rfl rfl rfl rfl (AOp.pickN rfl rfl (ltb rfl) rfl q35 rfl ?_)
  refine AO.op rfl (AOp.pickN rfl rfl (ltb rfl) rfl rfl rfl ?_)
  refine AO.nil ?_
  exact ⟨false, _, rfl, (LeL.refl _), rfl, rfl, h0⟩
 intro g15 h0
 unfold p_LineIntersectsLine_k2 at h0
 refine AC.cond rfl (fun q16 => ?_) (fun q16 => ?_)
 ·replace h0 := cT h0 q16
  cases h0
 replace h0 := cF h0 q16
 refine AC.skip ?_
 change AC _ _ _ _
 refine AC.joinP (V := Bool) [1, 2, 3, 4, 5, 12, 13, 14, 15] [16] 4 (fun g17 => [(16, .d (dbool g17))]) (fun g17 => [.fix 58 [.d (di .i64 (0 : Int)), .d (.v (.slice none 0 0))], .fix 83 [.d (eS1 a3), .d (eS1 a4), .d (eS1 a1), .d (eS1 a2), .d (eS1 [(0 : Nat), (0 : Nat)]), .d (eS1 [(0 : Nat), (0 : Nat)]), .d (di .i64 (0 : Int)), .d (dbool false), .d (eS1 [(0 : Nat), (0 : Nat)]), .d (eS1 [(0 : Nat), (0 : Nat)]), .d (.ifc 87 (.ag []))], .frame fr1 [(10, .ptr 0 0), (11, .ptr 1 0)], .fix 87 []]) (fun g17 => (p_LineIntersectsLine_k3 a1 a2 a3 a4 y5 y7 y11 y13) g17 = some r0) rfl ?_ ?_
 ·refine AC.region ?_
  refine AO.op rfl (AOp.move rfl rfl (ltb rfl) rfl ?_)
  refine AO.op rfl (AOp.ieql rfl rfl (ltb rfl) rfl rfl ?_)
  refine AO.op rfl (AOp.move rfl rfl (ltb rfl) rfl ?_)
  refine AO.dec (decide (y5 = (0 : Int))) (fun q29 => ?_) (fun q29 => ?_)
  ·replace h0 := cT h0 q29
   refine AO.guardY rfl rfl rfl q29 (AOp.move rfl rfl (ltb rfl) rfl ?_)
   refine AO.guardY rfl rfl rfl q29 (AOp.ieql rfl rfl (ltb rfl) rfl rfl ?_)
   refine AO.op rfl (AOp.pick rfl rfl (ltb rfl) rfl q29 rfl ?_)
   refine AO.op rfl (AOp.move rfl rfl (ltb rfl) rfl ?_)
   refine AO.dec (decide (y7 = (0 : Int))) (fun q30 => ?_) (fun q30 => ?_)
   ·replace h0 := cT h0 q30
    refine AO.guardY rfl rfl rfl q30 (AOp.move rfl rfl (ltb rfl) rfl ?_)
    refine AO.guardY rfl rfl rfl q30 (AOp.ieql rfl rfl (ltb rfl) rfl rfl ?_)
    refine AO.op rfl (AOp.pick rfl rfl (ltb rfl) rfl q30 rfl ?_)
    refine AO.op rfl (AOp.move rfl rfl (ltb rfl) rfl ?_)
    refine AO.dec (decide (y11 = (0 : Int))) (fun q31 => ?_) (fun q31 => ?_)
    ·replace h0 := cT h0 q31
     refine AO.guardY rfl rfl rfl q31 (AOp.move rfl rfl (ltb rfl) rfl ?_)
     refine AO.guardY rfl rfl rfl q31 (AOp.ieql rfl rfl (ltb rfl) rfl rfl ?_)
     refine AO.op rfl (AOp.pick rfl rfl (ltb rfl) rfl q31 rfl ?_)
     refine AO.op rfl (AOp.assign rfl rfl (ltb rfl) rfl ?_)
     refine AO.nil ?_
     exact ⟨(decide (y13 = (0 : Int))), _, rfl, (LeL.refl _), rfl, rfl, h0⟩
    replace h0 := cF h0 q31
    refine AO.guardN rfl rfl rfl (ltb rfl) rfl q31 ?_
    refine AO.guardN rfl rfl rfl (ltb rfl) rfl q31 ?_
    refine AO.op rfl (AOp.pickN rfl rfl (ltb rfl) rfl q31 rfl ?_)
    refine AO.op rfl (AOp.assign rfl rfl (ltb rfl) rfl ?_)
    refine AO.nil ?_
    exact ⟨false, _, rfl, (LeL.refl _), rfl, rfl, h0⟩
   replace h0 := cF h0 q30
   refine AO.guardN rfl rfl rfl (ltb rfl) rfl q30 ?_
   refine AO.guardN rfl rfl rfl (ltb rfl) rfl q30 ?_
   refine AO.op rfl (AOp.pickN rfl rfl (ltb rfl) rfl q30 rfl ?_)
   refine AO.op rfl (AOp.move rfl rfl (ltb rfl) rfl ?_)
   refine AO.guardN rfl rfl rfl (ltb rfl) rfl rfl ?_
   refine AO.guardN rfl rfl rfl (ltb rfl) rfl rfl ?_
   refine AO.op rfl (AOp.pickN rfl rfl (ltb rfl) rfl rfl rfl ?_)
   refine AO.op rfl (AOp.assign rfl rfl (ltb rfl) rfl ?_)
   refine AO.nil ?_
   exact ⟨false, _, rfl, (LeL.refl _), rfl, rfl, h0⟩
  replace h0 := cF h0 q29
  refine AO.guardN rfl rfl rfl (ltb rfl) rfl q29 ?_
  refine AO.guardN rfl rfl rfl (ltb rfl) rfl q29 ?_
  refine AO.op rfl (AOp.pickN rfl rfl (ltb rfl) rfl q29 rfl ?_)
  refine AO.op rfl (AOp.move rfl rfl (ltb rfl) rfl ?_)
  refine AO.guardN rfl rfl rfl (ltb rfl) rfl rfl ?_
  refine AO.guardN rfl rfl rfl (ltb rfl) rfl rfl ?_
  refine AO.op rfl (AOp.pickN rfl rfl (ltb rfl) rfl rfl rfl ?_)
  refine AO.op rfl (AOp.move rfl rfl (ltb rfl) rfl ?_)
  refine AO.guardN rfl rfl rfl (ltb rfl) rfl rfl ?_
  refine AO.guardN rfl rfl rfl (ltb rfl) rfl rfl ?_
  refine AO.op rfl (AOp.pickN rfl rfl (ltb rfl) rfl rfl rfl ?_)
  refine AO.op rfl (AOp.assign rfl rfl (ltb rfl) rfl ?_)
  refine AO.nil ?_
  exact ⟨false, _, rfl, (LeL.refl _), rfl, rfl, h0⟩
 intro g17 h0
 unfold p_LineIntersectsLine_k3 at h0
 refine AC.seq ?_
 refine AC.seq ?_
 refine AC.region ?_
 refine AO.op rfl (AOp.move rfl rfl (ltb rfl) rfl ?_)
 refine AO.nil ?_
 change AC _ _ _ _
 refine AC.cond rfl (fun q18 => ?_) (fun q18 => ?_)
 ·replace h0 := cT h0 q18
  cases h0
 replace h0 := cF h0 q18
 refine AC.skip ?_
 change AC _ _ _ _
 refine AC.seq ?_
 refine AC.joinP (V := Bool) [1, 2, 3, 4, 5, 12, 13, 14, 15] [116] 4 (fun g19 => [(116, .d (dbool g19))]) (fun g19 => [.fix 58 [.d (di .i64 (0 : Int)), .d (.v (.slice none 0 0))], .fix 83 [.d (eS1 a3), .d (eS1 a4), .d (eS1 a1), .d (eS1 a2), .d (eS1 [(0 : Nat), (0 : Nat)]), .d (eS1 [(0 : Nat), (0 : Nat)]), .d (di .i64 (0 : Int)), .d (dbool false), .d (eS1 [(0 : Nat), (0 : Nat)]), .d (eS1 [(0 : Nat), (0 : Nat)]), .d (.ifc 87 (.ag []))], .frame fr1 [(10, .ptr 0 0), (11, .ptr 1 0)], .fix 87 []]) (fun g19 => (p_LineIntersectsLine_k4 a1 a2 a3 a4) g19 = some r0) rfl ?_ ?_
 ·refine AC.region ?_
  refine AO.op rfl (AOp.move rfl rfl (ltb rfl) rfl ?_)
  refine AO.op rfl (AOp.ieql rfl rfl (ltb rfl) rfl rfl ?_)
  refine AO.op rfl (AOp.move rfl rfl (ltb rfl) rfl ?_)
  refine AO.dec (decide (y5 = (0 : Int))) (fun q26 => ?_) (fun q26 => ?_)
  ·replace h0 := cT h0 q26
   refine AO.guardN rfl rfl rfl (ltb rfl) rfl q26 ?_
   refine AO.guardN rfl rfl rfl (ltb rfl) rfl q26 ?_
   refine AO.op rfl (AOp.pick rfl rfl (ltb rfl) rfl q26 rfl ?_)
   refine AO.op rfl (AOp.move rfl rfl (ltb rfl) rfl ?_)
   refine AO.guardN rfl rfl rfl (ltb rfl) rfl rfl ?_
   refine AO.guardN rfl rfl rfl (ltb rfl) rfl rfl ?_
   refine AO.op rfl (AOp.pick rfl rfl (ltb rfl) rfl rfl rfl ?_)
   refine AO.op rfl (AOp.move rfl rfl (ltb rfl) rfl ?_)
   refine AO.guardN rfl rfl rfl (ltb rfl) rfl rfl ?_
   refine AO.guardN rfl rfl rfl (ltb rfl) rfl rfl ?_
   refine AO.op rfl (AOp.pick rfl rfl (ltb rfl) rfl rfl rfl ?_)
   refine AO.nil ?_
   exact ⟨true, _, rfl, (LeL.refl _), rfl, rfl, h0⟩
  replace h0 := cF h0 q26
  refine AO.guardY rfl rfl rfl q26 (AOp.move rfl rfl (ltb rfl) rfl ?_)
  refine AO.guardY rfl rfl rfl q26 (AOp.ieql rfl rfl (ltb rfl) rfl rfl ?_)
  refine AO.op rfl (AOp.pickN rfl rfl (ltb rfl) rfl q26 rfl ?_)
  refine AO.op rfl (AOp.move rfl rfl (ltb rfl) rfl ?_)
  refine AO.dec (decide (y7 = (0 : Int))) (fun q27 => ?_) (fun q27 => ?_)
  ·replace h0 := cT h0 q27
   refine AO.guardN rfl rfl rfl (ltb rfl) rfl q27 ?_
   refine AO.guardN rfl rfl rfl (ltb rfl) rfl q27 ?_
   refine AO.op rfl (AOp.pick rfl rfl (ltb rfl) rfl q27 rfl ?_)
   refine AO.op rfl (AOp.move rfl rfl (ltb rfl) rfl ?_)
   refine AO.guardN rfl rfl rfl (ltb rfl) rfl rfl ?_
   refine AO.guardN rfl rfl rfl (ltb rfl) rfl rfl ?_
   refine AO.op rfl (AOp.pick rfl rfl (ltb rfl) rfl rfl rfl ?_)
   refine AO.nil ?_
   exact ⟨true, _, rfl, (LeL.refl _), rfl, rfl, h0⟩
  replace h0 := cF h0 q27
  refine AO.guardY rfl rfl rfl q27 (AOp.move rfl rfl (ltb rfl) rfl ?_)
  refine AO.guardY rfl rfl rfl q27 (AOp.ieql rfl rfl (ltb rfl) rfl rfl ?_)
  refine AO.op rfl (AOp.pickN rfl rfl (ltb rfl) rfl q27 rfl ?_)
  refine AO.op rfl (AOp.move rfl rfl (ltb rfl) rfl ?_)
  refine AO.dec (decide (y11 = (0 : Int))) (fun q28 => ?_) (fun q28 => ?_)
  ·replace h0 := cT h0 q28
   refine AO.guardN rfl rfl rfl (ltb rfl) rfl q28 ?_
   refine AO.guardN rfl rfl rfl (ltb rfl) rfl q28 ?_
   refine AO.op rfl (AOp.pick rfl rfl (ltb rfl) rfl q28 rfl ?_)
   refine AO.nil ?_
   exact ⟨true, _, rfl, (LeL.refl _), rfl, rfl, h0⟩
  replace h0 := cF h0 q28
  refine AO.guardY rfl rfl rfl q28 (AOp.move rfl rfl (ltb rfl) rfl ?_)
  refine AO.guardY rfl rfl rfl q28 (AOp.ieql rfl rfl (ltb rfl) rfl rfl ?_)
  refine AO.op rfl (AOp.pickN rfl rfl (ltb rfl) rfl q28 rfl ?_)
  refine AO.nil ?_
  exact ⟨(decide (y13 = (0 : Int))), _, rfl, (LeL.refl _), rfl, rfl, h0⟩
 intro g19 h0
 unfold p_LineIntersectsLine_k4 at h0
 refine AC.cond rfl (fun q20 => ?_) (fun q20 => ?_)
 ·replace h0 := cT h0 q20
  cases h0
 replace h0 := cF h0 q20
 refine AC.seq ?_
 refine AC.region ?_
 refine AO.op rfl (AOp.move rfl rfl (ltb rfl) rfl ?_)
 refine AO.op rfl (AOp.nilCheck rfl rfl (ltb rfl) rfl rfl ?_)
 refine AO.op rfl (AOp.fieldAddr rfl rfl (ltb rfl) rfl fo83_3 ?_)
 refine AO.op rfl (AOp.store rfl rfl rfl rfl size4 rfl rfl rfl (leb rfl) ?_)
 refine AO.nil ?_
 change AC _ _ _ _
 refine AC.draw 10 mixed (by kernel_rfl) ?_
 refine AD.op [1] rfl (by kernel_rfl) rfl rfl (fun _ _ h => AOp.move rfl rfl (ltb rfl) rfl h) ?_
 refine AD.op [1] rfl (by kernel_rfl) rfl rfl (fun _ _ h => AOp.move rfl rfl (ltb rfl) rfl h) ?_
 refine AD.op [2] rfl (by kernel_rfl) rfl rfl (fun _ _ h => AOp.move rfl rfl (ltb rfl) rfl h) ?_
 refine AD.op [3] rfl (by kernel_rfl) rfl rfl (fun _ _ h => AOp.move rfl rfl (ltb rfl) rfl h) ?_
 refine AD.op [4] rfl (by kernel_rfl) rfl rfl (fun _ _ h => AOp.move rfl rfl (ltb rfl) rfl h) ?_
 refine AD.op [5] rfl (by kernel_rfl) rfl rfl (fun _ _ h => AOp.move rfl rfl (ltb rfl) rfl h) ?_
 obtain ⟨y21, q22, h0⟩ := bind_elim h0
 refine AD.op [196, 197, 198, 199, 200] rfl (by kernel_rfl) rfl rfl (fun _ _ h => AOp.callR (x := (eS1 y21)) (ys := [.ptr 0 0, .d (eS1 a1), .d (eS1 a2), .d (eS1 a3), .d (eS1 a4)]) (hs := [1]) (pins := [0]) (pre := [.fix 83 [.d (eS1 a3), .d (eS1 a4), .d (eS1 a1), .d (eS1 a2), .d (eS1 [(0 : Nat), (0 : Nat)]), .d (eS1 [(0 : Nat), (0 : Nat)]), .d (di .i64 (0 : Int)), .d (dbool true), .d (eS1 [(0 : Nat), (0 : Nat)]), .d (eS1 [(0 : Nat), (0 : Nat)]), .d (.ifc 87 (.ag []))]]) (EntersS.call (by kernel_rfl) rfl rfl) (wh_intersection a1 a2 a3 a4 a3 a4 a1 a2 [(0 : Nat), (0 : Nat)] [(0 : Nat), (0 : Nat)] (0 : Int) true [(0 : Nat), (0 : Nat)] [(0 : Nat), (0 : Nat)] _ q22) rfl (ltb rfl) (.cons (SVLe.refl _) (.cons (SVLe.refl _) (.cons (SVLe.refl _) (.cons (SVLe.refl _) (.cons (SVLe.refl _) .nil))))) rfl rfl rfl (.cons rfl .nil) (.cons ⟨rfl, rfl⟩ .nil) rfl h) ?_
 refine AD.op [195] rfl (by kernel_rfl) rfl rfl (fun _ _ h => AOp.nilCheck rfl rfl (ltb rfl) rfl rfl h) ?_
 refine AD.op [202] rfl (by kernel_rfl) rfl rfl (fun _ _ h => AOp.fieldAddr rfl rfl (ltb rfl) rfl fo83_1 h) ?_
 refine AD.op [203] rfl (by kernel_rfl) rfl rfl (fun _ _ h => AOp.indexArrO rfl rfl (ltb rfl) rfl rfl ar80 (by decide) (by decide) (show _ = 4 by first | rfl | decide) h) ?_
 refine AD.done ?_
 refine AO.op rfl (AOp.store rfl rfl rfl rfl size64 rfl rfl rfl (leb rfl) ?_)
 refine AO.nil ?_
 change AC _ _ _ _
 refine AC.region ?_
 refine AO.op rfl (AOp.move rfl rfl (ltb rfl) rfl ?_)
 refine AO.op rfl (AOp.nilCheck rfl rfl (ltb rfl) rfl rfl ?_)
 refine AO.op rfl (AOp.fieldAddr rfl rfl (ltb rfl) rfl fo83_2 ?_)
 refine AO.op rfl (AOp.store rfl rfl rfl rfl size55 rfl rfl rfl (leb rfl) ?_)
 refine AO.nil ?_
 refine inlend (ob' := [.fix 58 [.d (di .i64 (0 : Int)), .d (.v (.slice none 0 0))], .fix 83 [.d (eS1 a3), .d (eS1 a4), .d (eS1 a1), .d (eS1 a2), .d (eS1 y21), .d (eS1 [(0 : Nat), (0 : Nat)]), .d (di .i64 (1 : Int)), .d (dbool true), .d (eS1 [(0 : Nat), (0 : Nat)]), .d (eS1 [(0 : Nat), (0 : Nat)]), .d (.ifc 87 (.ag []))], .dead, .fix 87 []]) (e' := [(10, .ptr 0 0), (11, .ptr 1 0)]) (r := .tu []) rfl rfl rfl ?_
 change AO _ _ _ _ _
 refine AO.nil ?_
 change AC _ _ _ _
 refine AC.seq ?_
 refine AC.region ?_
 refine AO.op rfl (AOp.assign rfl rfl (ltb rfl) rfl ?_)
 refine AO.nil ?_
 change AC _ _ _ _
 refine AC.seq ?_
 refine AC.seq ?_
 refine AC.region ?_
 refine AO.op rfl (AOp.move rfl rfl (ltb rfl) rfl ?_)
 refine AO.op rfl (AOp.nilCheck rfl rfl (ltb rfl) rfl rfl ?_)
 refine AO.op rfl (AOp.fieldAddr rfl rfl (ltb rfl) rfl fo83_2 ?_)
 refine AO.op rfl (AOp.load1 rfl rfl (ltb rfl) rfl agg55 rfl rfl ?_)
 refine AO.nil ?_
 change AC _ _ _ _
 refine AC.block ?_
 refine AC.seq ?_
 refine AC.region ?_
 refine AO.op rfl (AOp.ieql rfl rfl (ltb rfl) rfl rfl ?_)
 refine AO.op rfl (AOp.assign rfl rfl (ltb rfl) rfl ?_)
 refine AO.nil ?_
 change AC _ _ _ _
 refine AC.cond rfl (fun q23 => ?_) (fun q23 => ?_)
 ·replace h0 := cT h0 q23
  cases h0
 replace h0 := cF h0 q23
 refine AC.seq ?_
 refine AC.region ?_
 refine AO.op rfl (AOp.ieql rfl rfl (ltb rfl) rfl rfl ?_)
 refine AO.op rfl (AOp.assign rfl rfl (ltb rfl) rfl ?_)
 refine AO.nil ?_
 change AC _ _ _ _
 refine AC.cond rfl (fun q24 => ?_) (fun q24 => ?_)
 ·replace h0 := cT h0 q24
  refine AC.region ?_
  refine AO.op rfl (AOp.move rfl rfl (ltb rfl) rfl ?_)
  refine AO.op rfl (AOp.nilCheck rfl rfl (ltb rfl) rfl rfl ?_)
  refine AO.op rfl (AOp.fieldAddr rfl rfl (ltb rfl) rfl fo83_1 ?_)
  refine AO.op rfl (AOp.sliceArrHi (k := 1) rfl rfl (ltb rfl) rfl rfl ar80 ⟨_, _, rfl⟩ (by decide) rfl (by decide) ?_)
  refine AO.op rfl (AOp.assign rfl rfl (ltb rfl) rfl ?_)
  refine AO.objs (obs' := [.fix 58 [.d (di .i64 (0 : Int)), .d (.v (.slice none 0 0))], .fix 83 [.d (eS1 a3), .d (eS1 a4), .d (eS1 a1), .d (eS1 a2), .d (eS1 y21), .d (eS1 [(0 : Nat), (0 : Nat)]), .d (di .i64 (1 : Int)), .d (dbool true), .d (eS1 [(0 : Nat), (0 : Nat)]), .d (eS1 [(0 : Nat), (0 : Nat)]), .d (.ifc 87 (.ag []))], .dead, .fix 87 []]) rfl ?_
  refine AO.nil ?_
  change AC _ _ _ _
  refine AC.seq ?_
  refine AC.region ?_
  refine AO.op rfl (AOp.move rfl rfl (ltb rfl) rfl ?_)
  refine AO.op rfl (AOp.nilCheck rfl rfl (ltb rfl) rfl rfl ?_)
  refine AO.op rfl (AOp.fieldAddr rfl rfl (ltb rfl) rfl fo83_2 ?_)
  refine AO.op rfl (AOp.load1 rfl rfl (ltb rfl) rfl agg55 rfl rfl ?_)
  refine AO.op rfl (AOp.move rfl rfl (ltb rfl) rfl ?_)
  refine AO.op rfl (AOp.inl [10] (by kernel_rfl) Tryz.func41 rfl Tryz.ntmps41 rfl rfl (ltb rfl) rfl (leb rfl) rfl ?_)
  intro fr25
  refine AC.seq ?_
  refine AC.region ?_
  refine AO.op rfl (AOp.alloc rfl rfl (ltb rfl) zero58 rfl ?_)
  refine AO.objs (obs' := [.fix 58 [.d (di .i64 (0 : Int)), .d (.v (.slice none 0 0))], .fix 83 [.d (eS1 a3), .d (eS1 a4), .d (eS1 a1), .d (eS1 a2), .d (eS1 y21), .d (eS1 [(0 : Nat), (0 : Nat)]), .d (di .i64 (1 : Int)), .d (dbool true), .d (eS1 [(0 : Nat), (0 : Nat)]), .d (eS1 [(0 : Nat), (0 : Nat)]), .d (.ifc 87 (.ag []))], .dead, .fix 87 [], .frame fr25 [(10, .ptr 0 0)], .fix 58 [.d (di .i64 (0 : Int)), .d (.v (.slice none 0 0))]]) rfl ?_
  refine AO.nil ?_
  change AC _ _ _ _
  refine AC.seq ?_
  refine AC.region ?_
  refine AO.op rfl (AOp.move rfl rfl (ltb rfl) rfl ?_)
  refine AO.op rfl (AOp.move rfl rfl (ltb rfl) rfl ?_)
  refine AO.op rfl (AOp.build rfl rfl (ltb rfl) zero58 rfl places58 rfl rfl ?_)
  refine AO.op rfl (AOp.store rfl rfl rfl rfl size58 rfl rfl rfl (leb rfl) ?_)
  refine AO.nil ?_
  change AC _ _ _ _
  refine AC.ret ?_
  refine inlret (ob' := [.fix 58 [.d (di .i64 (0 : Int)), .d (.v (.slice none 0 0))], .fix 83 [.d (eS1 a3), .d (eS1 a4), .d (eS1 a1), .d (eS1 a2), .d (eS1 y21), .d (eS1 [(0 : Nat), (0 : Nat)]), .d (di .i64 (1 : Int)), .d (dbool true), .d (eS1 [(0 : Nat), (0 : Nat)]), .d (eS1 [(0 : Nat), (0 : Nat)]), .d (.ifc 87 (.ag []))], .dead, .fix 87 [], .dead, .fix 58 [.d (di .i64 (1 : Int)), .sl 1 1 4 1 2]]) (e' := [(10, .ptr 0 0)]) (r := .ag [.d (di .i64 (1 : Int)), .sl 1 1 4 1 2]) rfl rfl rfl ?_
  change AO _ _ _ _ _
  refine AO.op rfl (AOp.store rfl rfl rfl rfl size58 rfl rfl rfl (leb rfl) ?_)
  refine AO.objs (obs' := [.fix 58 [.d (di .i64 (1 : Int)), .sl 1 1 4 1 2], .fix 83 [.d (eS1 a3), .d (eS1 a4), .d (eS1 a1), .d (eS1 a2), .d (eS1 y21), .d (eS1 [(0 : Nat), (0 : Nat)]), .d (di .i64 (1 : Int)), .d (dbool true), .d (eS1 [(0 : Nat), (0 : Nat)]), .d (eS1 [(0 : Nat), (0 : Nat)]), .d (.ifc 87 (.ag []))], .dead, .fix 87 [], .dead, .fix 58 [.d (di .i64 (1 : Int)), .sl 1 1 4 1 2]]) rfl ?_
  refine AO.nil ?_
  change AC _ _ _ _
  refine AC.ret ?_
  change RetQ _ _ _ .ret _
  obtain rfl := Option.some.inj h0
  refine retq rfl rfl
 replace h0 := cF h0 q24
 cases h0

set_option maxRecDepth 100000 in
set_option maxHeartbeats 4000000 in
/-- pub-orthodrome/impl.place -/
theorem w_place (a0 : (List Nat)) (r0 : TImpl_P2) (h0 : p_place a0 = some r0) : FnD Tryz.prog 42 [eS1 a0] (fun r => r = e_TImpl_P2 r0) := by
 refine FnD.of (by kernel_rfl) Tryz.func42 rfl Tryz.ntmps42 rfl (leb rfl) fun W ok => ?_
 unfold p_place at h0
 refine AC.seq ?_
 refine AC.region ?_
 refine AO.op rfl (AOp.alloc rfl rfl (ltb rfl) zero24 rfl ?_)
 refine AO.nil ?_
 change AC _ _ _ _
 refine AC.seq ?_
 refine AC.draw 7 mixed (by kernel_rfl) ?_
 refine AD.op [0] rfl (by kernel_rfl) rfl rfl (fun _ _ h => AOp.move rfl rfl (ltb rfl) rfl h) ?_
 obtain ⟨x1, q2, h0⟩ := idx_elim h0
 refine AD.op [3] rfl (by kernel_rfl) rfl rfl (fun _ _ h => AOp.indexDs (cells := (List.map keS1 a0)) rfl rfl (ltb rfl) rfl rfl el64 (by decide) q2.1 (lt1 q2.2) h) ?_
 refine AD.op [4] rfl (by kernel_rfl) rfl rfl (fun _ _ h => AOp.loadEp rfl rfl (ltb rfl) rfl agg22 (at1 q2.2) h) ?_
 refine AD.op [0] rfl (by kernel_rfl) rfl rfl (fun _ _ h => AOp.move rfl rfl (ltb rfl) rfl h) ?_
 obtain ⟨x3, q4, h0⟩ := idx_elim h0
 refine AD.op [6] rfl (by kernel_rfl) rfl rfl (fun _ _ h => AOp.indexDs (cells := (List.map keS1 a0)) rfl rfl (ltb rfl) rfl rfl el64 (by decide) q4.1 (lt1 q4.2) h) ?_
 refine AD.op [7] rfl (by kernel_rfl) rfl rfl (fun _ _ h => AOp.loadEp rfl rfl (ltb rfl) rfl agg22 (at1 q4.2) h) ?_
 refine AD.op [5, 8] rfl (by kernel_rfl) rfl rfl (fun _ _ h => AOp.build rfl rfl (ltb rfl) zero24 rfl places24 rfl rfl h) ?_
 refine AD.done ?_
 refine AO.op rfl (AOp.store rfl rfl rfl rfl size24 rfl rfl rfl (leb rfl) ?_)
 refine AO.nil ?_
 change AC _ _ _ _
 refine AC.ret ?_
 change RetQ _ _ _ .ret _
 obtain rfl := Option.some.inj h0
 refine retq rfl rfl

set_option maxRecDepth 100000 in
set_option maxHeartbeats 4000000 in
/-- pub-orthodrome/impl.places -/
theorem w_places (F : Nat) (a0 : (List (List Nat))) (r0 : (List TImpl_P2)) (h0 : p_places F a0 = some r0) : FnD Tryz.prog 25 [eS4 a0] (fun r => r = eS0 r0) := by
 refine FnD.of (by kernel_rfl) Tryz.func25 rfl Tryz.ntmps25 rfl (leb rfl) fun W ok => ?_
 unfold p_places at h0
 refine AC.seq ?_
 refine AC.region ?_
 refine AO.op rfl (AOp.assign rfl rfl (ltb rfl) rfl ?_)
 refine AO.nil ?_
 change AC _ _ _ _
 refine AC.seq ?_
 refine AC.region ?_
 refine AO.op rfl (AOp.assign rfl rfl (ltb rfl) rfl ?_)
 refine AO.nil ?_
 change AC _ _ _ _
 refine AC.seq ?_
 refine AC.seq ?_
 refine AC.region ?_
 refine AO.op rfl (AOp.move rfl rfl (ltb rfl) rfl ?_)
 refine AO.op rfl (AOp.lenDs (n := a0.length) (cells := (List.map keS4 a0)) rfl rfl (ltb rfl) rfl el56 (by decide) (len1 _ _) ?_)
 refine AO.op rfl (AOp.move rfl rfl (ltb rfl) rfl ?_)
 refine AO.nil ?_
 change AC _ _ _ _
 refine AC.adopt 3 24 2 rfl ?_
 obtain ⟨o1, l2, h0⟩ := bind_elim h0
 refine AC.joinE (V := (List TImpl_P2)) [] [3] 1 (fun g3 => [(3, .own 0)]) (fun g3 => [.grow 24 2 (List.flatMap c_TImpl_P2 g3)]) (fun g3 => p_places_k1 g3 = some r0) rfl ?_ ?_
 ·refine AC.block ?_
  refine AC.loopP (V := (Int × (List TImpl_P2))) (p_places_l2 a0) o1 [6, 7] [3, 8] 1 (fun g4 => [(3, .own 0), (8, .d (di .i64 g4.1))]) (fun g4 => [.grow 24 2 (List.flatMap c_TImpl_P2 g4.2)]) F ((0 : Int), []) l2 rfl rfl (LeL.refl _) rfl rfl ?_
  intro n6 g4 h1
  unfold p_places_l2 at h1
  refine AC.seq ?_
  refine AC.region ?_
  refine AO.op rfl (AOp.ilss rfl rfl (ltb rfl) rfl rfl ?_)
  refine AO.nil ?_
  change AC _ _ _ _
  refine AC.seq ?_
  refine AC.cond rfl (fun q7 => ?_) (fun q7 => ?_)
  ·replace h1 := cT h1 q7
   refine AC.skip ?_
   change AC _ _ _ _
   refine AC.seq ?_
   refine AC.block ?_
   refine AC.seq ?_
   refine AC.region ?_
   obtain ⟨x8, q9, h1⟩ := idx_elim h1
   refine AO.op rfl (AOp.indexDs (cells := (List.map keS4 a0)) rfl rfl (ltb rfl) rfl rfl el56 (by decide) q9.1 (lt1 q9.2) ?_)
   refine AO.op rfl (AOp.loadEp rfl rfl (ltb rfl) rfl agg64 (at1 q9.2) ?_)
   refine AO.op rfl (AOp.assign rfl rfl (ltb rfl) rfl ?_)
   refine AO.nil ?_
   change AC _ _ _ _
   refine AC.region ?_
   refine AO.op rfl (AOp.move rfl rfl (ltb rfl) rfl ?_)
   refine AO.op rfl (AOp.move rfl rfl (ltb rfl) rfl ?_)
   obtain ⟨y10, q11, h1⟩ := bind_elim h1
   refine AO.op rfl (AOp.callD rfl rfl (ltb rfl) rfl rfl (w_place x8 y10 q11) ?_)
   rintro _ rfl
   refine AO.op rfl (AOp.buildSliceD rfl rfl (ltb rfl) el40 zero24 rfl (leb rfl) rfl rfl rfl rfl ?_)
   obtain ⟨q12, h1⟩ := need_elim h1
   refine AO.op rfl (AOp.appendOwn' (p := 0) (n := g4.2.length) (m := [y10].length) (news := (List.flatMap c_TImpl_P2 [y10])) rfl rfl (ltb rfl) rfl rfl el40 info24 rfl (by decide) rfl (lenN _ 2 (fun _ => rfl) _) (lenN _ 2 (fun _ => rfl) _) (oneN _ (fun _ => rfl) _) q12 (by decide) rfl rfl (catN _ _ _) ?_)
   refine AO.op rfl (AOp.assign rfl rfl (ltb rfl) rfl ?_)
   refine AO.nil ?_
   change AC _ _ _ _
   refine AC.region ?_
   obtain ⟨q13, h1⟩ := need_elim h1
   refine AO.op rfl (AOp.iadd rfl rfl (ltb rfl) rfl rfl rfl q13.1 q13.2 ?_)
   refine AO.op rfl (AOp.move rfl rfl (ltb rfl) rfl ?_)
   refine AO.nil ?_
   exact ⟨((g4.1 + (1 : Int)), (g4.2 ++ [y10])), _, rfl, (LeL.refl _), rfl, rfl, h1⟩
  replace h1 := cF h1 q7
  refine AC.exit ?_
  obtain rfl := Option.some.inj h1
  exact ⟨g4.2, _, rfl, (LeL.refl _), rfl, rfl, aftL h0⟩
 intro g3 h0
 unfold p_places_k1 at h0
 change AC _ _ _ _
 refine AC.seq ?_
 refine AC.region ?_
 refine AO.op rfl (AOp.move rfl rfl (ltb rfl) rfl ?_)
 refine AO.op rfl (AOp.assign rfl rfl (ltb rfl) rfl ?_)
 refine AO.nil ?_
 change AC _ _ _ _
 refine AC.ret ?_
 change RetQ _ _ _ .ret _
 obtain rfl := Option.some.inj h0
 refine retq rfl rfl

def row (l : List Nat) : D := .ds 1 (l.map dfl)
def rows (ls : List (List Nat)) : D := .ds 1 (ls.map row)
def finAll (l : List Nat) : Bool := (List.range l.length).all fun i => Flt.isFin (l.getD i 0)
def flat2l (pts : List (Nat × Nat)) : List Nat := pts.flatMap fun p => [p.1, p.2]
theorem fin_of {x z : Nat} (hz : floatBits .sub .f64 x x = some z ∨ (floatBits .sub .f64 x x = none ∧ Flt.nanB z)) : feq z 0 = Flt.isFin x := by
 cases hf : Flt.isFin x with
 | true =>
  obtain ⟨y, h1, h2⟩ := Flt.sub_self_zero hf
  rcases hz with h3 | ⟨h3, _⟩
  ·rw [h1] at h3; cases h3; exact h2
  ·rw [h1] at h3; cases h3
 | false =>
  have h1 := Flt.sub_self_none hf
  rcases hz with h3 | ⟨_, h3⟩
  ·rw [h1] at h3; cases h3
  ·exact Flt.feq_nan h3 _

set_option maxRecDepth 100000 in
/-- pub-orthodrome/spec.Finite -/
theorem finite (x : Nat) : FnD Tryz.prog 43 [dfl x] (fun r => r = dbool (Flt.isFin x)) := by
 refine FnD.of (by kernel_rfl) Tryz.func43 rfl Tryz.ntmps43 rfl (leb rfl) fun W ok => ?_
 refine AC.seq ?_
 refine AC.region ?_
 refine AO.op rfl (AOp.assign rfl rfl (ltb rfl) rfl ?_)
 refine AO.nil ?_
 change AC _ _ _ _
 refine AC.seq ?_
 refine AC.region ?_
 refine AO.op rfl (AOp.move rfl rfl (ltb rfl) rfl ?_)
 refine AO.op rfl (AOp.move rfl rfl (ltb rfl) rfl ?_)
 refine AO.op rfl (AOp.farithA (by simp) rfl rfl (ltb rfl) rfl rfl ?_)
 rintro z1_2 hz1_2
 refine AO.op rfl (AOp.feql rfl rfl (ltb rfl) rfl rfl ?_)
 refine AO.op rfl (AOp.assign rfl rfl (ltb rfl) rfl ?_)
 refine AO.nil ?_
 change AC _ _ _ _
 refine AC.ret ?_
 change RetQ _ _ _ .ret _
 refine retq rfl ?_
 rw [fin_of hz1_2]

set_option maxRecDepth 100000 in
set_option maxHeartbeats 4000000 in
/-- (pub-orthodrome/spec.Dyadic).Abs -/
theorem w_Dyadic_Abs (a0 : TSpec_Dyadic) (r0 : TSpec_Dyadic) (h0 : p_Dyadic_Abs a0 = some r0) : FnD Tryz.prog 44 [e_TSpec_Dyadic a0] (fun r => r = e_TSpec_Dyadic r0) := by
 refine FnD.of (by kernel_rfl) Tryz.func44 rfl Tryz.ntmps44 rfl (leb rfl) fun W ok => ?_
 unfold p_Dyadic_Abs at h0
 refine AC.seq ?_
 refine AC.region ?_
 refine AO.op rfl (AOp.box rfl rfl (ltb rfl) rfl rfl ?_)
 refine AO.op rfl (AOp.alloc rfl rfl (ltb rfl) zero30 rfl ?_)
 refine AO.nil ?_
 change AC _ _ _ _
 refine AC.seq ?_
 refine AC.seq ?_
 refine AC.region ?_
 refine AO.op rfl (AOp.loadN rfl rfl (ltb rfl) rfl agg30 size30 rfl (leb rfl) rfl ?_)
 obtain ⟨y1, q2, h0⟩ := bind_elim h0
 refine AO.op rfl (AOp.callD rfl rfl (ltb rfl) rfl rfl (w_Dyadic_Sign a0 y1 q2) ?_)
 rintro _ rfl
 refine AO.op rfl (AOp.ilss rfl rfl (ltb rfl) rfl rfl ?_)
 refine AO.nil ?_
 change AC _ _ _ _
 refine AC.cond rfl (fun q3 => ?_) (fun q3 => ?_)
 ·replace h0 := cT h0 q3
  refine AC.seq ?_
  refine AC.region ?_
  refine AO.op rfl (AOp.loadN rfl rfl (ltb rfl) rfl agg30 size30 rfl (leb rfl) rfl ?_)
  obtain ⟨y4, q5, h0⟩ := bind_elim h0
  refine AO.op rfl (AOp.callD rfl rfl (ltb rfl) rfl rfl (w_Dyadic_Minus a0 y4 q5) ?_)
  rintro _ rfl
  refine AO.op rfl (AOp.store rfl rfl rfl rfl size30 rfl rfl rfl (leb rfl) ?_)
  refine AO.nil ?_
  change AC _ _ _ _
  refine AC.ret ?_
  change RetQ _ _ _ .ret _
  obtain rfl := Option.some.inj h0
  refine retq rfl rfl
 replace h0 := cF h0 q3
 refine AC.skip ?_
 change AC _ _ _ _
 refine AC.seq ?_
 refine AC.region ?_
 refine AO.op rfl (AOp.loadN rfl rfl (ltb rfl) rfl agg30 size30 rfl (leb rfl) rfl ?_)
 refine AO.op rfl (AOp.store rfl rfl rfl rfl size30 rfl rfl rfl (leb rfl) ?_)
 refine AO.nil ?_
 change AC _ _ _ _
 refine AC.ret ?_
 change RetQ _ _ _ .ret _
 obtain rfl := Option.some.inj h0
 refine retq rfl rfl

set_option maxRecDepth 100000 in
set_option maxHeartbeats 4000000 in
/-- (pub-orthodrome/spec.Dyadic).Shift -/
theorem w_Dyadic_Shift (a0 : TSpec_Dyadic) (a1 : Int) (r0 : TSpec_Dyadic) (h0 : p_Dyadic_Shift a0 a1 = some r0) : FnD Tryz.prog 46 [e_TSpec_Dyadic a0, di .i64 a1] (fun r => r = e_TSpec_Dyadic r0) := by
 refine FnD.of (by kernel_rfl) Tryz.func46 rfl Tryz.ntmps46 rfl (leb rfl) fun W ok => ?_
 unfold p_Dyadic_Shift at h0
 refine AC.seq ?_
 refine AC.region ?_
 refine AO.op rfl (AOp.box rfl rfl (ltb rfl) rfl rfl ?_)
 refine AO.op rfl (AOp.alloc rfl rfl (ltb rfl) zero30 rfl ?_)
 refine AO.nil ?_
 change AC _ _ _ _
 refine AC.seq ?_
 refine AC.region ?_
 refine AO.op rfl (AOp.fieldAddr rfl rfl (ltb rfl) rfl fo30_0 ?_)
 refine AO.op rfl (AOp.loadN rfl rfl (ltb rfl) rfl agg28 size28 rfl (leb rfl) rfl ?_)
 refine AO.op rfl (AOp.fieldAddr rfl rfl (ltb rfl) rfl fo30_1 ?_)
 refine AO.op rfl (AOp.load1 rfl rfl (ltb rfl) rfl agg3 rfl rfl ?_)
 refine AO.op rfl (AOp.move rfl rfl (ltb rfl) rfl ?_)
 obtain ⟨q1, h0⟩ := need_elim h0
 refine AO.op rfl (AOp.iadd rfl rfl (ltb rfl) rfl rfl rfl q1.1 q1.2 ?_)
 refine AO.op rfl (AOp.build rfl rfl (ltb rfl) zero30 rfl places30 rfl rfl ?_)
 refine AO.op rfl (AOp.store rfl rfl rfl rfl size30 rfl rfl rfl (leb rfl) ?_)
 refine AO.nil ?_
 change AC _ _ _ _
 refine AC.ret ?_
 change RetQ _ _ _ .ret _
 obtain rfl := Option.some.inj h0
 refine retq rfl rfl

set_option maxRecDepth 100000 in
set_option maxHeartbeats 4000000 in
/-- pub-orthodrome/laws.nearRatio -/
theorem w_nearRatio (F : Nat) (a0 : Nat) (a1 : TSpec_Ratio) (a2 : Int) (r0 : Bool) (h0 : p_nearRatio F a0 a1 a2 = some r0) : FnD Tryz.prog 27 [dfl a0, e_TSpec_Ratio a1, di .i64 a2] (fun r => r = dbool r0) := by
 refine FnD.of (by kernel_rfl) Tryz.func27 rfl Tryz.ntmps27 rfl (leb rfl) fun W ok => ?_
 unfold p_nearRatio at h0
 refine AC.seq ?_
 refine AC.region ?_
 refine AO.op rfl (AOp.box rfl rfl (ltb rfl) rfl rfl ?_)
 refine AO.op rfl (AOp.assign rfl rfl (ltb rfl) rfl ?_)
 refine AO.nil ?_
 change AC _ _ _ _
 refine AC.seq ?_
 refine AC.draw 20 mixed (by kernel_rfl) ?_
 refine AD.op [0] rfl (by kernel_rfl) rfl rfl (fun _ _ h => AOp.move rfl rfl (ltb rfl) rfl h) ?_
 refine AD.op [7] rfl (by kernel_rfl) rfl rfl (fun _ _ h => AOp.callD rfl rfl (ltb rfl) rfl rfl (finite a0) (by rintro _ rfl; exact h)) ?_
 refine AD.op [8] rfl (by kernel_rfl) rfl rfl (fun _ _ h => AOp.move rfl rfl (ltb rfl) rfl h) ?_
 refine AD.dec (Flt.isFin a0) (fun q1 => ?_) (fun q1 => ?_)
 ·replace h0 := cT h0 q1
  refine AD.opY [0, 9] rfl rfl rfl q1 (by kernel_rfl) rfl rfl (fun _ _ h => AOp.move rfl rfl (ltb rfl) rfl h) ?_
  obtain ⟨y2, q3, h0⟩ := bind_elim h0
  refine AD.opY [9, 10] rfl rfl rfl q1 (by kernel_rfl) rfl rfl (fun _ _ h => AOp.callD rfl rfl (ltb rfl) rfl rfl (w_DyadicOf F a0 y2 q3) (by rintro _ rfl; exact h)) ?_
  refine AD.opY [4, 9] rfl rfl rfl q1 (by kernel_rfl) rfl rfl (fun _ _ h => AOp.fieldAddr rfl rfl (ltb rfl) rfl fo37_1 h) ?_
  refine AD.opY [9, 12] rfl rfl rfl q1 (by kernel_rfl) rfl rfl (fun _ _ h => AOp.loadN rfl rfl (ltb rfl) rfl agg30 size30 rfl (leb rfl) rfl h) ?_
  obtain ⟨y4, q5, h0⟩ := bind_elim h0
  refine AD.opY [9, 11, 13] rfl rfl rfl q1 (by kernel_rfl) rfl rfl (fun _ _ h => AOp.callD rfl rfl (ltb rfl) rfl rfl (w_Dyadic_Mul F y2 a1.D y4 q5) (by rintro _ rfl; exact h)) ?_
  refine AD.opY [4, 9] rfl rfl rfl q1 (by kernel_rfl) rfl rfl (fun _ _ h => AOp.fieldAddr rfl rfl (ltb rfl) rfl fo37_0 h) ?_
  refine AD.opY [9, 15] rfl rfl rfl q1 (by kernel_rfl) rfl rfl (fun _ _ h => AOp.loadN rfl rfl (ltb rfl) rfl agg30 size30 rfl (leb rfl) rfl h) ?_
  obtain ⟨y6, q7, h0⟩ := bind_elim h0
  refine AD.opY [9, 14, 16] rfl rfl rfl q1 (by kernel_rfl) rfl rfl (fun _ _ h => AOp.callD rfl rfl (ltb rfl) rfl rfl (w_Dyadic_Sub F y4 a1.N y6 q7) (by rintro _ rfl; exact h)) ?_
  obtain ⟨y8, q9, h0⟩ := bind_elim h0
  refine AD.opY [9, 17] rfl rfl rfl q1 (by kernel_rfl) rfl rfl (fun _ _ h => AOp.callD rfl rfl (ltb rfl) rfl rfl (w_Dyadic_Abs y6 y8 q9) (by rintro _ rfl; exact h)) ?_
  refine AD.opY [4, 9] rfl rfl rfl q1 (by kernel_rfl) rfl rfl (fun _ _ h => AOp.fieldAddr rfl rfl (ltb rfl) rfl fo37_1 h) ?_
  refine AD.opY [9, 19] rfl rfl rfl q1 (by kernel_rfl) rfl rfl (fun _ _ h => AOp.loadN rfl rfl (ltb rfl) rfl agg30 size30 rfl (leb rfl) rfl h) ?_
  refine AD.opY [2, 9] rfl rfl rfl q1 (by kernel_rfl) rfl rfl (fun _ _ h => AOp.move rfl rfl (ltb rfl) rfl h) ?_
  obtain ⟨y10, q11, h0⟩ := bind_elim h0
  refine AD.opY [9, 20, 21] rfl rfl rfl q1 (by kernel_rfl) rfl rfl (fun _ _ h => AOp.callD rfl rfl (ltb rfl) rfl rfl (w_Dyadic_Shift a1.D a2 y10 q11) (by rintro _ rfl; exact h)) ?_
  obtain ⟨y12, q13, h0⟩ := bind_elim h0
  refine AD.opY [9, 18, 22] rfl rfl rfl q1 (by kernel_rfl) rfl rfl (fun _ _ h => AOp.callD rfl rfl (ltb rfl) rfl rfl (w_Dyadic_Cmp F y8 y10 y12 q13) (by rintro _ rfl; exact h)) ?_
  refine AD.opY [9, 23] rfl rfl rfl q1 (by kernel_rfl) rfl rfl (fun _ _ h => AOp.ilss rfl rfl (ltb rfl) rfl rfl h) ?_
  refine AD.op [9, 24] rfl (by kernel_rfl) rfl rfl (fun _ _ h => AOp.pick rfl rfl (ltb rfl) rfl q1 rfl h) ?_
  refine AD.op [25] rfl (by kernel_rfl) rfl rfl (fun _ _ h => AOp.assign rfl rfl (ltb rfl) rfl h) ?_
  refine AD.done ?_
  refine AO.nil ?_
  change AC _ _ _ _
  refine AC.ret ?_
  change RetQ _ _ _ .ret _
  obtain rfl := Option.some.inj h0
  refine retq rfl rfl
 replace h0 := cF h0 q1
 refine AD.opN rfl rfl rfl (ltb rfl) rfl q1 ?_
 refine AD.opN rfl rfl rfl (ltb rfl) rfl q1 ?_
 refine AD.opN rfl rfl rfl (ltb rfl) rfl q1 ?_
 refine AD.opN rfl rfl rfl (ltb rfl) rfl q1 ?_
 refine AD.opN rfl rfl rfl (ltb rfl) rfl q1 ?_
 refine AD.opN rfl rfl rfl (ltb rfl) rfl q1 ?_
 refine AD.opN rfl rfl rfl (ltb rfl) rfl q1 ?_
 refine AD.opN rfl rfl rfl (ltb rfl) rfl q1 ?_
 refine AD.opN rfl rfl rfl (ltb rfl) rfl q1 ?_
 refine AD.opN rfl rfl rfl (ltb rfl) rfl q1 ?_
 refine AD.opN rfl rfl rfl (ltb rfl) rfl q1 ?_
 refine AD.opN rfl rfl rfl (ltb rfl) rfl q1 ?_
 refine AD.opN rfl rfl rfl (ltb rfl) rfl q1 ?_
 refine AD.opN rfl rfl rfl (ltb rfl) rfl q1 ?_
 refine AD.opN rfl rfl rfl (ltb rfl) rfl q1 ?_
 refine AD.op [9, 24] rfl (by kernel_rfl) rfl rfl (fun _ _ h => AOp.pickN rfl rfl (ltb rfl) rfl q1 rfl h) ?_
 refine AD.op [25] rfl (by kernel_rfl) rfl rfl (fun _ _ h => AOp.assign rfl rfl (ltb rfl) rfl h) ?_
 refine AD.done ?_
 refine AO.nil ?_
 change AC _ _ _ _
 refine AC.ret ?_
 change RetQ _ _ _ .ret _
 obtain rfl := Option.some.inj h0
 refine retq rfl rfl

set_option maxRecDepth 100000 in
set_option maxHeartbeats 4000000 in
/-- pub-orthodrome/laws.nearPlace -/
theorem w_nearPlace (F : Nat) (a0 : TImpl_P2) (a1 : TSpec_Ratio) (a2 : TSpec_Ratio) (r0 : Bool) (h0 : p_nearPlace F a0 a1 a2 = some r0) : FnD Tryz.prog 9 [e_TImpl_P2 a0, e_TSpec_Ratio a1, e_TSpec_Ratio a2] (fun r => r = dbool r0) := by
 refine FnD.of (by kernel_rfl) Tryz.func9 rfl Tryz.ntmps9 rfl (leb rfl) fun W ok => ?_
 unfold p_nearPlace at h0
 refine AC.seq ?_
 refine AC.region ?_
 refine AO.op rfl (AOp.box rfl rfl (ltb rfl) rfl rfl ?_)
 refine AO.op rfl (AOp.box rfl rfl (ltb rfl) rfl rfl ?_)
 refine AO.op rfl (AOp.box rfl rfl (ltb rfl) rfl rfl ?_)
 refine AO.op rfl (AOp.assign rfl rfl (ltb rfl) rfl ?_)
 refine AO.nil ?_
 change AC _ _ _ _
 refine AC.seq ?_
 refine AC.region ?_
 refine AO.op rfl (AOp.fieldAddr rfl rfl (ltb rfl) rfl fo24_0 ?_)
 refine AO.op rfl (AOp.load1 rfl rfl (ltb rfl) rfl agg22 rfl rfl ?_)
 refine AO.op rfl (AOp.loadN rfl rfl (ltb rfl) rfl agg37 size37 rfl (leb rfl) rfl ?_)
 obtain ⟨y1, q2, h0⟩ := bind_elim h0
 refine AO.op rfl (AOp.callD rfl rfl (ltb rfl) rfl rfl (w_nearRatio F a0.X a1 (-30 : Int) y1 q2) ?_)
 rintro _ rfl
 refine AO.op rfl (AOp.move rfl rfl (ltb rfl) rfl ?_)
 refine AO.dec y1 (fun q3 => ?_) (fun q3 => ?_)
 ·replace h0 := cT h0 q3
  refine AO.guardY rfl rfl rfl q3 (AOp.fieldAddr rfl rfl (ltb rfl) rfl fo24_1 ?_)
  refine AO.guardY rfl rfl rfl q3 (AOp.load1 rfl rfl (ltb rfl) rfl agg22 rfl rfl ?_)
  refine AO.guardY rfl rfl rfl q3 (AOp.loadN rfl rfl (ltb rfl) rfl agg37 size37 rfl (leb rfl) rfl ?_)
  obtain ⟨y4, q5, h0⟩ := bind_elim h0
  refine AO.guardY rfl rfl rfl q3 (AOp.callD rfl rfl (ltb rfl) rfl rfl (w_nearRatio F a0.Y a2 (-30 : Int) y4 q5) ?_)
  rintro _ rfl
  refine AO.op rfl (AOp.pick rfl rfl (ltb rfl) rfl q3 rfl ?_)
  refine AO.op rfl (AOp.assign rfl rfl (ltb rfl) rfl ?_)
  refine AO.nil ?_
  change AC _ _ _ _
  refine AC.ret ?_
  change RetQ _ _ _ .ret _
  obtain rfl := Option.some.inj h0
  refine retq rfl rfl
 replace h0 := cF h0 q3
 refine AO.guardN rfl rfl rfl (ltb rfl) rfl q3 ?_
 refine AO.guardN rfl rfl rfl (ltb rfl) rfl q3 ?_
 refine AO.guardN rfl rfl rfl (ltb rfl) rfl q3 ?_
 refine AO.guardN rfl rfl rfl (ltb rfl) rfl q3 ?_
 refine AO.op rfl (AOp.pickN rfl rfl (ltb rfl) rfl q3 rfl ?_)
 refine AO.op rfl (AOp.assign rfl rfl (ltb rfl) rfl ?_)
 refine AO.nil ?_
 change AC _ _ _ _
 refine AC.ret ?_
 change RetQ _ _ _ .ret _
 obtain rfl := Option.some.inj h0
 refine retq rfl rfl

set_option maxRecDepth 100000 in
set_option maxHeartbeats 4000000 in
/-- pub-orthodrome/pub/gogeom/xy.IsPointWithinLineBounds -/
theorem w_IsPointWithinLineBounds_28 (a0 : (List Nat)) (a1 : (List Nat)) (a2 : (List Nat)) (r0 : Bool) (h0 : p_IsPointWithinLineBounds_28 a0 a1 a2 = some r0) : FnD Tryz.prog 28 [eS1 a0, eS1 a1, eS1 a2] (fun r => r = dbool r0) := by
 refine FnD.of (by kernel_rfl) Tryz.func28 rfl Tryz.ntmps28 rfl (leb rfl) fun W ok => ?_
 unfold p_IsPointWithinLineBounds_28 at h0
 refine AC.seq ?_
 refine AC.region ?_
 refine AO.op rfl (AOp.assign rfl rfl (ltb rfl) rfl ?_)
 refine AO.nil ?_
 change AC _ _ _ _
 refine AC.seq ?_
 refine AC.region ?_
 refine AO.op rfl (AOp.move rfl rfl (ltb rfl) rfl ?_)
 refine AO.op rfl (AOp.move rfl rfl (ltb rfl) rfl ?_)
 refine AO.op rfl (AOp.move rfl rfl (ltb rfl) rfl ?_)
 obtain ⟨y1, q2, h0⟩ := bind_elim h0
 refine AO.op rfl (AOp.callD rfl rfl (ltb rfl) rfl rfl (w_IsPointWithinLineBounds a0 a1 a2 y1 q2) ?_)
 rintro _ rfl
 refine AO.op rfl (AOp.assign rfl rfl (ltb rfl) rfl ?_)
 refine AO.nil ?_
 change AC _ _ _ _
 refine AC.ret ?_
 change RetQ _ _ _ .ret _
 obtain rfl := Option.some.inj h0
 refine retq rfl rfl

set_option maxRecDepth 100000 in
set_option maxHeartbeats 4000000 in
/-- pub-orthodrome/impl.InLineBox -/
theorem w_InLineBox (a0 : TImpl_P2) (a1 : TImpl_P2) (a2 : TImpl_P2) (r0 : Bool) (h0 : p_InLineBox a0 a1 a2 = some r0) : FnD Tryz.prog 10 [e_TImpl_P2 a0, e_TImpl_P2 a1, e_TImpl_P2 a2] (fun r => r = dbool r0) := by
 refine FnD.of (by kernel_rfl) Tryz.func10 rfl Tryz.ntmps10 rfl (leb rfl) fun W ok => ?_
 unfold p_InLineBox at h0
 refine AC.seq ?_
 refine AC.region ?_
 refine AO.op rfl (AOp.box rfl rfl (ltb rfl) rfl rfl ?_)
 refine AO.op rfl (AOp.box rfl rfl (ltb rfl) rfl rfl ?_)
 refine AO.op rfl (AOp.box rfl rfl (ltb rfl) rfl rfl ?_)
 refine AO.op rfl (AOp.assign rfl rfl (ltb rfl) rfl ?_)
 refine AO.nil ?_
 change AC _ _ _ _
 refine AC.seq ?_
 refine AC.draw 8 mixed (by kernel_rfl) ?_
 refine AD.op [3] rfl (by kernel_rfl) rfl rfl (fun _ _ h => AOp.loadN rfl rfl (ltb rfl) rfl agg24 size24 rfl (leb rfl) rfl h) ?_
 obtain ⟨y1, q2, h0⟩ := bind_elim h0
 refine AD.op [7] rfl (by kernel_rfl) rfl rfl (fun _ _ h => AOp.callD rfl rfl (ltb rfl) rfl rfl (w_coord a0 y1 q2) (by rintro _ rfl; exact h)) ?_
 refine AD.op [4] rfl (by kernel_rfl) rfl rfl (fun _ _ h => AOp.loadN rfl rfl (ltb rfl) rfl agg24 size24 rfl (leb rfl) rfl h) ?_
 obtain ⟨y3, q4, h0⟩ := bind_elim h0
 refine AD.op [9] rfl (by kernel_rfl) rfl rfl (fun _ _ h => AOp.callD rfl rfl (ltb rfl) rfl rfl (w_coord a1 y3 q4) (by rintro _ rfl; exact h)) ?_
 refine AD.op [5] rfl (by kernel_rfl) rfl rfl (fun _ _ h => AOp.loadN rfl rfl (ltb rfl) rfl agg24 size24 rfl (leb rfl) rfl h) ?_
 obtain ⟨y5, q6, h0⟩ := bind_elim h0
 refine AD.op [11] rfl (by kernel_rfl) rfl rfl (fun _ _ h => AOp.callD rfl rfl (ltb rfl) rfl rfl (w_coord a2 y5 q6) (by rintro _ rfl; exact h)) ?_
 obtain ⟨y7, q8, h0⟩ := bind_elim h0
 refine AD.op [8, 10, 12] rfl (by kernel_rfl) rfl rfl (fun _ _ h => AOp.callD rfl rfl (ltb rfl) rfl rfl (w_IsPointWithinLineBounds_28 y1 y3 y5 y7 q8) (by rintro _ rfl; exact h)) ?_
 refine AD.op [13] rfl (by kernel_rfl) rfl rfl (fun _ _ h => AOp.assign rfl rfl (ltb rfl) rfl h) ?_
 refine AD.done ?_
 refine AO.nil ?_
 change AC _ _ _ _
 refine AC.ret ?_
 change RetQ _ _ _ .ret _
 obtain rfl := Option.some.inj h0
 refine retq rfl rfl

end Go.Proofs.YtohgipjhcgblfaaGreat.Wk
