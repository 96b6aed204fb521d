/- Proved: more of it. -/
import Derived.Test.YtohgipjhcgblfaaGreatWLx_1
namespace Go.Proofs.YtohgipjhcgblfaaGreat.Wk
open Go.Vm
set_option linter.unusedVariables false
set_option linter.unusedSimpArgs false
set_option maxRecDepth 100000 in
set_option maxHeartbeats 4000000 in
/-- pub-orthodrome/laws.FnLinesCross -/
theorem w_FnLinesCross (F : Nat) (a0 : TImpl_P2) (a1 : TImpl_P2) (a2 : TImpl_P2) (a3 : TImpl_P2) (r0 : Bool) (h0 : p_FnLinesCross F a0 a1 a2 a3 = some r0) : FnD Tryz.prog 3 [e_TImpl_P2 a0, e_TImpl_P2 a1, e_TImpl_P2 a2, e_TImpl_P2 a3] (fun r => r = dbool r0) := by
 refine FnD.of (by kernel_rfl) Tryz.func3 rfl Tryz.ntmps3 rfl (leb rfl) fun W ok => ?_
 unfold p_FnLinesCross at h0
 refine AC.seq ?_
 refine AC.region ?_
 refine AO.op rfl (AOp.box rfl rfl (ltb rfl) rfl rfl ?_)
 refine AO.op rfl (AOp.box rfl rfl (ltb rfl) rfl rfl ?_)
 refine AO.op rfl (AOp.box rfl rfl (ltb rfl) rfl rfl ?_)
 refine AO.op rfl (AOp.box rfl rfl (ltb rfl) rfl rfl ?_)
 refine AO.op rfl (AOp.assign rfl rfl (ltb rfl) rfl ?_)
 refine AO.nil ?_
 change AC _ _ _ _
 refine AC.seq ?_
 refine AC.seq ?_
 refine AC.region ?_
 refine AO.op rfl (AOp.loadN rfl rfl (ltb rfl) rfl agg24 size24 rfl (leb rfl) rfl ?_)
 refine AO.op rfl (AOp.loadN rfl rfl (ltb rfl) rfl agg24 size24 rfl (leb rfl) rfl ?_)
 refine AO.op rfl (AOp.loadN rfl rfl (ltb rfl) rfl agg24 size24 rfl (leb rfl) rfl ?_)
 refine AO.op rfl (AOp.loadN rfl rfl (ltb rfl) rfl agg24 size24 rfl (leb rfl) rfl ?_)
 refine AO.op rfl (AOp.buildSliceD rfl rfl (ltb rfl) el40 zero24 rfl (leb rfl) rfl rfl rfl rfl ?_)
 obtain ⟨y1, q2, h0⟩ := bind_elim h0
 refine AO.op rfl (AOp.callD rfl rfl (ltb rfl) rfl rfl (w_planeTo F (4665729213955833856 : Nat) [a0, a1, a2, a3] y1 q2) ?_)
 rintro _ rfl
 refine AO.op rfl (AOp.bnot rfl rfl (ltb rfl) rfl ?_)
 refine AO.nil ?_
 change AC _ _ _ _
 refine AC.cond rfl (fun q3 => ?_) (fun q3 => ?_)
 ·replace h0 := cT h0 q3
  refine AC.seq ?_
  refine AC.region ?_
  refine AO.op rfl (AOp.assign rfl rfl (ltb rfl) rfl ?_)
  refine AO.nil ?_
  change AC _ _ _ _
  refine AC.ret ?_
  change RetQ _ _ _ .ret _
  obtain rfl := Option.some.inj h0
  refine retq rfl rfl
 replace h0 := cF h0 q3
 refine AC.skip ?_
 change AC _ _ _ _
 refine AC.seq ?_
 refine AC.room ?_
 refine AC.room ?_
 obtain ⟨y4, q5, h0⟩ := bind_elim h0
 obtain ⟨y6, q7, h0⟩ := bind_elim h0
 obtain ⟨y8, q9, h0⟩ := bind_elim h0
 obtain ⟨y10, q11, h0⟩ := bind_elim h0
 obtain ⟨y12, q13, h0⟩ := bind_elim h0
 refine AC.drawS [0, 1, 2, 3, 4, 5, 6, 7, 8, 9, 10, 11, 12, 13, 14, 15, 16, 17, 18] [14, 15, 17, 18] [19] (fun L => [.fix 24 [.d (dfl a0.X), .d (dfl a0.Y)], .fix 24 [.d (dfl a1.X), .d (dfl a1.Y)], .fix 24 [.d (dfl a2.X), .d (dfl a2.Y)], .fix 24 [.d (dfl a3.X), .d (dfl a3.Y)], bif L 17 then .fix 32 [.d (dbool y12.2.1.X.N.Neg), .d (eS2 y12.2.1.X.N.L), .d (di .i64 y12.2.1.X.E), .d (dbool y12.2.1.Y.N.Neg), .d (eS2 y12.2.1.Y.N.L), .d (di .i64 y12.2.1.Y.E)] else bif L 14 then .fix 32 [.d (dbool false), .d (.v (.slice none 0 0)), .d (di .i64 (0 : Int)), .d (dbool false), .d (.v (.slice none 0 0)), .d (di .i64 (0 : Int))] else .dead, bif L 18 then .fix 32 [.d (dbool y12.2.2.1.X.N.Neg), .d (eS2 y12.2.2.1.X.N.L), .d (di .i64 y12.2.2.1.X.E), .d (dbool y12.2.2.1.Y.N.Neg), .d (eS2 y12.2.2.1.Y.N.L), .d (di .i64 y12.2.2.1.Y.E)] else bif L 15 then .fix 32 [.d (dbool false), .d (.v (.slice none 0 0)), .d (di .i64 (0 : Int)), .d (dbool false), .d (.v (.slice none 0 0)), .d (di .i64 (0 : Int))] else .dead]) [(14, SV.noO2 4 6), (15, SV.noO2 5 6), (17, (fun _ => true)), (18, (fun _ => true))] mixed (by kernel_rfl) (fun L L' h => by simp only [h 14 (by decide), h 17 (by decide), h 15 (by decide), h 18 (by decide)]) rfl ?_
 refine AS.op [4] [] [17, 18] [14, 15] rfl rfl rfl (by kernel_rfl) (by kernel_rfl) rfl rfl (fun _ _ _ h => AOp.loadN rfl rfl (ltb rfl) rfl agg24 size24 rfl (leb rfl) rfl h) (by kernel_rfl) ?_
 refine AS.op [26] [] [17, 18] [14, 15] rfl rfl rfl (by kernel_rfl) (by kernel_rfl) rfl rfl (fun _ _ _ h => AOp.callD rfl rfl (ltb rfl) rfl rfl (w_exactly F a0 y4 q5) (by rintro _ rfl; exact h)) (by kernel_rfl) ?_
 refine AS.op [5] [] [17, 18] [14, 15] rfl rfl rfl (by kernel_rfl) (by kernel_rfl) rfl rfl (fun _ _ _ h => AOp.loadN rfl rfl (ltb rfl) rfl agg24 size24 rfl (leb rfl) rfl h) (by kernel_rfl) ?_
 refine AS.op [28] [] [17, 18] [14, 15] rfl rfl rfl (by kernel_rfl) (by kernel_rfl) rfl rfl (fun _ _ _ h => AOp.callD rfl rfl (ltb rfl) rfl rfl (w_exactly F a1 y6 q7) (by rintro _ rfl; exact h)) (by kernel_rfl) ?_
 refine AS.op [6] [] [17, 18] [14, 15] rfl rfl rfl (by kernel_rfl) (by kernel_rfl) rfl rfl (fun _ _ _ h => AOp.loadN rfl rfl (ltb rfl) rfl agg24 size24 rfl (leb rfl) rfl h) (by kernel_rfl) ?_
 refine AS.op [30] [] [17, 18] [14, 15] rfl rfl rfl (by kernel_rfl) (by kernel_rfl) rfl rfl (fun _ _ _ h => AOp.callD rfl rfl (ltb rfl) rfl rfl (w_exactly F a2 y8 q9) (by rintro _ rfl; exact h)) (by kernel_rfl) ?_
 refine AS.op [7] [] [17, 18] [14, 15] rfl rfl rfl (by kernel_rfl) (by kernel_rfl) rfl rfl (fun _ _ _ h => AOp.loadN rfl rfl (ltb rfl) rfl agg24 size24 rfl (leb rfl) rfl h) (by kernel_rfl) ?_
 refine AS.op [32] [] [17, 18] [14, 15] rfl rfl rfl (by kernel_rfl) (by kernel_rfl) rfl rfl (fun _ _ _ h => AOp.callD rfl rfl (ltb rfl) rfl rfl (w_exactly F a3 y10 q11) (by rintro _ rfl; exact h)) (by kernel_rfl) ?_
 refine AS.op [27, 29, 31, 33] [] [17, 18] [14, 15] rfl rfl rfl (by kernel_rfl) (by kernel_rfl) rfl rfl (fun _ _ _ h => AOp.callD rfl rfl (ltb rfl) rfl rfl (w_Meet F y4 y6 y8 y10 y12 q13) (by rintro _ rfl; exact h)) (by kernel_rfl) ?_
 refine AS.op [34] [] [17, 18] [14, 15] rfl rfl rfl (by kernel_rfl) (by kernel_rfl) rfl rfl (fun _ _ _ h => AOp.move rfl rfl (ltb rfl) rfl h) (by kernel_rfl) ?_
 first | refine AS.op [25] [] [17, 18] [14, 15] rfl rfl rfl (by kernel_rfl) (by kernel_rfl) rfl rfl (fun _ _ _ h => AOp.extractD rfl rfl (ltb rfl) rfl rfl h) (by kernel_rfl) ?_ | refine AS.op [25] [] [17, 18] [14, 15] rfl rfl rfl (by kernel_rfl) (by kernel_rfl) rfl rfl (fun _ _ _ h => AOp.extract rfl rfl (ltb rfl) rfl rfl h) (by kernel_rfl) ?_
 first | refine AS.op [25] [] [17, 18] [14, 15] rfl rfl rfl (by kernel_rfl) (by kernel_rfl) rfl rfl (fun _ _ _ h => AOp.extractD rfl rfl (ltb rfl) rfl rfl h) (by kernel_rfl) ?_ | refine AS.op [25] [] [17, 18] [14, 15] rfl rfl rfl (by kernel_rfl) (by kernel_rfl) rfl rfl (fun _ _ _ h => AOp.extract rfl rfl (ltb rfl) rfl rfl h) (by kernel_rfl) ?_
 first | refine AS.op [25] [] [18] [14, 15, 17] rfl rfl rfl (by kernel_rfl) (by kernel_rfl) rfl rfl (fun _ _ _ h => AOp.extractD rfl rfl (ltb rfl) rfl rfl h) (by kernel_rfl) ?_ | refine AS.op [25] [] [18] [14, 15, 17] rfl rfl rfl (by kernel_rfl) (by kernel_rfl) rfl rfl (fun _ _ _ h => AOp.extract rfl rfl (ltb rfl) rfl rfl h) (by kernel_rfl) ?_
 first | refine AS.op [25] [] [] [14, 15, 17, 18] rfl rfl rfl (by kernel_rfl) (by kernel_rfl) rfl rfl (fun _ _ _ h => AOp.extractD rfl rfl (ltb rfl) rfl rfl h) (by kernel_rfl) ?_ | refine AS.op [25] [] [] [14, 15, 17, 18] rfl rfl rfl (by kernel_rfl) (by kernel_rfl) rfl rfl (fun _ _ _ h => AOp.extract rfl rfl (ltb rfl) rfl rfl h) (by kernel_rfl) ?_
 refine AS.mid [] [] [17, 18, 14] [15] rfl rfl rfl rfl (by kernel_rfl) (by kernel_rfl) rfl rfl (fun _ _ _ h => AOp.alloc rfl rfl (ltb rfl) zero32 rfl (AO.sink 4 6 rfl rfl rfl (.cons rfl (.cons rfl (.cons rfl (.cons rfl (.cons (noO2_cond rfl (noO2_cond rfl rfl)) (.cons (noO2_cond rfl (noO2_cond rfl rfl)) .nil)))))) rfl h)) (by kernel_rfl) rfl ?_
 refine AS.mid [] [] [17, 18, 15] [14] rfl rfl rfl rfl (by kernel_rfl) (by kernel_rfl) rfl rfl (fun _ _ _ h => AOp.alloc rfl rfl (ltb rfl) zero32 rfl (AO.sink 5 6 rfl rfl rfl (.cons rfl (.cons rfl (.cons rfl (.cons rfl (.cons (noO2_cond rfl (noO2_cond rfl rfl)) (.cons (noO2_cond rfl (noO2_cond rfl rfl)) .nil)))))) rfl h)) (by kernel_rfl) rfl ?_
 refine AS.op [35] [14, 15] [17, 18] [] rfl rfl rfl (by kernel_rfl) (by kernel_rfl) rfl rfl (fun _ _ _ h => AOp.assign rfl rfl (ltb rfl) rfl h) (by kernel_rfl) ?_
 refine AS.mid0 [10, 36] [14, 15] [18, 17] [] rfl rfl rfl rfl (by kernel_rfl) (by kernel_rfl) rfl rfl (fun _ _ _ h => AOp.store rfl rfl rfl rfl size32 rfl rfl rfl (leb rfl) (AO.dropT h)) (by kernel_rfl) rfl ?_
 refine AS.mid0 [11, 37] [14, 15, 17] [18] [] rfl rfl rfl rfl (by kernel_rfl) (by kernel_rfl) rfl rfl (fun _ _ _ h => AOp.store rfl rfl rfl rfl size32 rfl rfl rfl (leb rfl) (AO.dropT h)) (by kernel_rfl) rfl ?_
 refine AS.done ?_
 refine AO.objs (obs' := [.fix 24 [.d (dfl a0.X), .d (dfl a0.Y)], .fix 24 [.d (dfl a1.X), .d (dfl a1.Y)], .fix 24 [.d (dfl a2.X), .d (dfl a2.Y)], .fix 24 [.d (dfl a3.X), .d (dfl a3.Y)], .fix 32 [.d (dbool y12.2.1.X.N.Neg), .d (eS2 y12.2.1.X.N.L), .d (di .i64 y12.2.1.X.E), .d (dbool y12.2.1.Y.N.Neg), .d (eS2 y12.2.1.Y.N.L), .d (di .i64 y12.2.1.Y.E)], .fix 32 [.d (dbool y12.2.2.1.X.N.Neg), .d (eS2 y12.2.2.1.X.N.L), .d (di .i64 y12.2.2.1.X.E), .d (dbool y12.2.2.1.Y.N.Neg), .d (eS2 y12.2.2.1.Y.N.L), .d (di .i64 y12.2.2.1.Y.E)]]) rfl ?_
 refine AO.op rfl (AOp.assign rfl rfl (ltb rfl) rfl ?_)
 refine AO.objs (obs' := [.fix 24 [.d (dfl a0.X), .d (dfl a0.Y)], .fix 24 [.d (dfl a1.X), .d (dfl a1.Y)], .fix 24 [.d (dfl a2.X), .d (dfl a2.Y)], .fix 24 [.d (dfl a3.X), .d (dfl a3.Y)], .fix 32 [.d (dbool y12.2.1.X.N.Neg), .d (eS2 y12.2.1.X.N.L), .d (di .i64 y12.2.1.X.E), .d (dbool y12.2.1.Y.N.Neg), .d (eS2 y12.2.1.Y.N.L), .d (di .i64 y12.2.1.Y.E)], .fix 32 [.d (dbool y12.2.2.1.X.N.Neg), .d (eS2 y12.2.2.1.X.N.L), .d (di .i64 y12.2.2.1.X.E), .d (dbool y12.2.2.1.Y.N.Neg), .d (eS2 y12.2.2.1.Y.N.L), .d (di .i64 y12.2.2.1.Y.E)]]) rfl ?_
 refine AO.nil ?_
 change AC _ _ _ _
 refine AC.seq ?_
 refine AC.joinP (V := Bool) [4, 5, 6, 7] [43] 6 (fun g14 => [(43, .d (dbool g14))]) (fun g14 => [.fix 24 [.d (dfl a0.X), .d (dfl a0.Y)], .fix 24 [.d (dfl a1.X), .d (dfl a1.Y)], .fix 24 [.d (dfl a2.X), .d (dfl a2.Y)], .fix 24 [.d (dfl a3.X), .d (dfl a3.Y)], .fix 32 [.d (dbool y12.2.1.X.N.Neg), .d (eS2 y12.2.1.X.N.L), .d (di .i64 y12.2.1.X.E), .d (dbool y12.2.1.Y.N.Neg), .d (eS2 y12.2.1.Y.N.L), .d (di .i64 y12.2.1.Y.E)], .fix 32 [.d (dbool y12.2.2.1.X.N.Neg), .d (eS2 y12.2.2.1.X.N.L), .d (di .i64 y12.2.2.1.X.E), .d (dbool y12.2.2.1.Y.N.Neg), .d (eS2 y12.2.2.1.Y.N.L), .d (di .i64 y12.2.2.1.Y.E)]]) (fun g14 => (p_FnLinesCross_k1 a0 a1 a2 a3 F) g14 = some r0) rfl ?_ ?_
 ·refine AC.region ?_
  refine AO.op rfl (AOp.move rfl rfl (ltb rfl) rfl ?_)
  refine AO.op rfl (AOp.ineq rfl rfl (ltb rfl) rfl rfl ?_)
  refine AO.op rfl (AOp.move rfl rfl (ltb rfl) rfl ?_)
  refine AO.dec (!decide (y12.1 = (1 : Int))) (fun q58 => ?_) (fun q58 => ?_)
  ·replace h0 := cT h0 q58
   refine AO.guardN rfl rfl rfl (ltb rfl) rfl q58 ?_
   refine AO.op rfl (AOp.pick rfl rfl (ltb rfl) rfl q58 rfl ?_)
   refine AO.nil ?_
   exact ⟨true, _, rfl, (LeL.refl _), rfl, rfl, h0⟩
  replace h0 := cF h0 q58
  refine AO.guardY rfl rfl rfl q58 (AOp.move rfl rfl (ltb rfl) rfl ?_)
  refine AO.op rfl (AOp.pickN rfl rfl (ltb rfl) rfl q58 rfl ?_)
  refine AO.nil ?_
  exact ⟨y12.2.2.2, _, rfl, (LeL.refl _), rfl, rfl, h0⟩
 intro g14 h0
 unfold p_FnLinesCross_k1 at h0
 refine AC.cond rfl (fun q15 => ?_) (fun q15 => ?_)
 ·replace h0 := cT h0 q15
  refine AC.seq ?_
  refine AC.region ?_
  refine AO.op rfl (AOp.assign rfl rfl (ltb rfl) rfl ?_)
  refine AO.nil ?_
  change AC _ _ _ _
  refine AC.ret ?_
  change RetQ _ _ _ .ret _
  obtain rfl := Option.some.inj h0
  refine retq rfl rfl
 replace h0 := cF h0 q15
 refine AC.skip ?_
 change AC _ _ _ _
 refine AC.seq ?_
 refine AC.room ?_
 refine AC.room ?_
 obtain ⟨y16, q17, h0⟩ := bind_elim h0
 obtain ⟨y18, q19, h0⟩ := bind_elim h0
 obtain ⟨y20, q21, h0⟩ := bind_elim h0
 obtain ⟨y22, q23, h0⟩ := bind_elim h0
 obtain ⟨y24, q25, h0⟩ := bind_elim h0
 refine AC.drawS [0, 1, 2, 3, 4, 5, 6, 7, 8, 9, 10, 11, 12, 13, 14, 15, 16] [13, 14, 15, 16] [17] (fun L => [.fix 24 [.d (dfl a0.X), .d (dfl a0.Y)], .fix 24 [.d (dfl a1.X), .d (dfl a1.Y)], .fix 24 [.d (dfl a2.X), .d (dfl a2.Y)], .fix 24 [.d (dfl a3.X), .d (dfl a3.Y)], .fix 32 [.d (dbool y12.2.1.X.N.Neg), .d (eS2 y12.2.1.X.N.L), .d (di .i64 y12.2.1.X.E), .d (dbool y12.2.1.Y.N.Neg), .d (eS2 y12.2.1.Y.N.L), .d (di .i64 y12.2.1.Y.E)], .fix 32 [.d (dbool y12.2.2.1.X.N.Neg), .d (eS2 y12.2.2.1.X.N.L), .d (di .i64 y12.2.2.1.X.E), .d (dbool y12.2.2.1.Y.N.Neg), .d (eS2 y12.2.2.1.Y.N.L), .d (di .i64 y12.2.2.1.Y.E)], bif L 15 then .fix 37 [.d (dbool y24.1.N.N.Neg), .d (eS2 y24.1.N.N.L), .d (di .i64 y24.1.N.E), .d (dbool y24.1.D.N.Neg), .d (eS2 y24.1.D.N.L), .d (di .i64 y24.1.D.E)] else bif L 13 then .fix 37 [.d (dbool false), .d (.v (.slice none 0 0)), .d (di .i64 (0 : Int)), .d (dbool false), .d (.v (.slice none 0 0)), .d (di .i64 (0 : Int))] else .dead, bif L 16 then .fix 37 [.d (dbool y24.2.1.N.N.Neg), .d (eS2 y24.2.1.N.N.L), .d (di .i64 y24.2.1.N.E), .d (dbool y24.2.1.D.N.Neg), .d (eS2 y24.2.1.D.N.L), .d (di .i64 y24.2.1.D.E)] else bif L 14 then .fix 37 [.d (dbool false), .d (.v (.slice none 0 0)), .d (di .i64 (0 : Int)), .d (dbool false), .d (.v (.slice none 0 0)), .d (di .i64 (0 : Int))] else .dead]) [(13, SV.noO2 6 8), (14, SV.noO2 7 8), (15, (fun _ => true)), (16, (fun _ => true))] mixed (by kernel_rfl) (fun L L' h => by simp only [h 13 (by decide), h 15 (by decide), h 14 (by decide), h 16 (by decide)]) rfl ?_
 refine AS.op [4] [] [15, 16] [13, 14] rfl rfl rfl (by kernel_rfl) (by kernel_rfl) rfl rfl (fun _ _ _ h => AOp.loadN rfl rfl (ltb rfl) rfl agg24 size24 rfl (leb rfl) rfl h) (by kernel_rfl) ?_
 refine AS.op [45] [] [15, 16] [13, 14] rfl rfl rfl (by kernel_rfl) (by kernel_rfl) rfl rfl (fun _ _ _ h => AOp.callD rfl rfl (ltb rfl) rfl rfl (w_exactly F a0 y16 q17) (by rintro _ rfl; exact h)) (by kernel_rfl) ?_
 refine AS.op [5] [] [15, 16] [13, 14] rfl rfl rfl (by kernel_rfl) (by kernel_rfl) rfl rfl (fun _ _ _ h => AOp.loadN rfl rfl (ltb rfl) rfl agg24 size24 rfl (leb rfl) rfl h) (by kernel_rfl) ?_
 refine AS.op [47] [] [15, 16] [13, 14] rfl rfl rfl (by kernel_rfl) (by kernel_rfl) rfl rfl (fun _ _ _ h => AOp.callD rfl rfl (ltb rfl) rfl rfl (w_exactly F a1 y18 q19) (by rintro _ rfl; exact h)) (by kernel_rfl) ?_
 refine AS.op [6] [] [15, 16] [13, 14] rfl rfl rfl (by kernel_rfl) (by kernel_rfl) rfl rfl (fun _ _ _ h => AOp.loadN rfl rfl (ltb rfl) rfl agg24 size24 rfl (leb rfl) rfl h) (by kernel_rfl) ?_
 refine AS.op [49] [] [15, 16] [13, 14] rfl rfl rfl (by kernel_rfl) (by kernel_rfl) rfl rfl (fun _ _ _ h => AOp.callD rfl rfl (ltb rfl) rfl rfl (w_exactly F a2 y20 q21) (by rintro _ rfl; exact h)) (by kernel_rfl) ?_
 refine AS.op [7] [] [15, 16] [13, 14] rfl rfl rfl (by kernel_rfl) (by kernel_rfl) rfl rfl (fun _ _ _ h => AOp.loadN rfl rfl (ltb rfl) rfl agg24 size24 rfl (leb rfl) rfl h) (by kernel_rfl) ?_
 refine AS.op [51] [] [15, 16] [13, 14] rfl rfl rfl (by kernel_rfl) (by kernel_rfl) rfl rfl (fun _ _ _ h => AOp.callD rfl rfl (ltb rfl) rfl rfl (w_exactly F a3 y22 q23) (by rintro _ rfl; exact h)) (by kernel_rfl) ?_
 refine AS.op [46, 48, 50, 52] [] [15, 16] [13, 14] rfl rfl rfl (by kernel_rfl) (by kernel_rfl) rfl rfl (fun _ _ _ h => AOp.callD rfl rfl (ltb rfl) rfl rfl (w_Crossing F y16 y18 y20 y22 y24 q25) (by rintro _ rfl; exact h)) (by kernel_rfl) ?_
 refine AS.op [53] [] [15, 16] [13, 14] rfl rfl rfl (by kernel_rfl) (by kernel_rfl) rfl rfl (fun _ _ _ h => AOp.move rfl rfl (ltb rfl) rfl h) (by kernel_rfl) ?_
 first | refine AS.op [44] [] [15, 16] [13, 14] rfl rfl rfl (by kernel_rfl) (by kernel_rfl) rfl rfl (fun _ _ _ h => AOp.extractD rfl rfl (ltb rfl) rfl rfl h) (by kernel_rfl) ?_ | refine AS.op [44] [] [15, 16] [13, 14] rfl rfl rfl (by kernel_rfl) (by kernel_rfl) rfl rfl (fun _ _ _ h => AOp.extract rfl rfl (ltb rfl) rfl rfl h) (by kernel_rfl) ?_
 first | refine AS.op [44] [] [16] [13, 14, 15] rfl rfl rfl (by kernel_rfl) (by kernel_rfl) rfl rfl (fun _ _ _ h => AOp.extractD rfl rfl (ltb rfl) rfl rfl h) (by kernel_rfl) ?_ | refine AS.op [44] [] [16] [13, 14, 15] rfl rfl rfl (by kernel_rfl) (by kernel_rfl) rfl rfl (fun _ _ _ h => AOp.extract rfl rfl (ltb rfl) rfl rfl h) (by kernel_rfl) ?_
 first | refine AS.op [44] [] [] [13, 14, 15, 16] rfl rfl rfl (by kernel_rfl) (by kernel_rfl) rfl rfl (fun _ _ _ h => AOp.extractD rfl rfl (ltb rfl) rfl rfl h) (by kernel_rfl) ?_ | refine AS.op [44] [] [] [13, 14, 15, 16] rfl rfl rfl (by kernel_rfl) (by kernel_rfl) rfl rfl (fun _ _ _ h => AOp.extract rfl rfl (ltb rfl) rfl rfl h) (by kernel_rfl) ?_
 refine AS.mid [] [] [15, 16, 13] [14] rfl rfl rfl rfl (by kernel_rfl) (by kernel_rfl) rfl rfl (fun _ _ _ h => AOp.alloc rfl rfl (ltb rfl) zero37 rfl (AO.sink 6 8 rfl rfl rfl (.cons rfl (.cons rfl (.cons rfl (.cons rfl (.cons rfl (.cons rfl (.cons (noO2_cond rfl (noO2_cond rfl rfl)) (.cons (noO2_cond rfl (noO2_cond rfl rfl)) .nil)))))))) rfl h)) (by kernel_rfl) rfl ?_
 refine AS.mid [] [] [15, 16, 14] [13] rfl rfl rfl rfl (by kernel_rfl) (by kernel_rfl) rfl rfl (fun _ _ _ h => AOp.alloc rfl rfl (ltb rfl) zero37 rfl (AO.sink 7 8 rfl rfl rfl (.cons rfl (.cons rfl (.cons rfl (.cons rfl (.cons rfl (.cons rfl (.cons (noO2_cond rfl (noO2_cond rfl rfl)) (.cons (noO2_cond rfl (noO2_cond rfl rfl)) .nil)))))))) rfl h)) (by kernel_rfl) rfl ?_
 refine AS.mid0 [13, 54] [13, 14] [16, 15] [] rfl rfl rfl rfl (by kernel_rfl) (by kernel_rfl) rfl rfl (fun _ _ _ h => AOp.store rfl rfl rfl rfl size37 rfl rfl rfl (leb rfl) (AO.dropT h)) (by kernel_rfl) rfl ?_
 refine AS.mid0 [14, 55] [13, 14, 15] [16] [] rfl rfl rfl rfl (by kernel_rfl) (by kernel_rfl) rfl rfl (fun _ _ _ h => AOp.store rfl rfl rfl rfl size37 rfl rfl rfl (leb rfl) (AO.dropT h)) (by kernel_rfl) rfl ?_
 refine AS.done ?_
 refine AO.objs (obs' := [.fix 24 [.d (dfl a0.X), .d (dfl a0.Y)], .fix 24 [.d (dfl a1.X), .d (dfl a1.Y)], .fix 24 [.d (dfl a2.X), .d (dfl a2.Y)], .fix 24 [.d (dfl a3.X), .d (dfl a3.Y)], .fix 32 [.d (dbool y12.2.1.X.N.Neg), .d (eS2 y12.2.1.X.N.L), .d (di .i64 y12.2.1.X.E), .d (dbool y12.2.1.Y.N.Neg), .d (eS2 y12.2.1.Y.N.L), .d (di .i64 y12.2.1.Y.E)], .fix 32 [.d (dbool y12.2.2.1.X.N.Neg), .d (eS2 y12.2.2.1.X.N.L), .d (di .i64 y12.2.2.1.X.E), .d (dbool y12.2.2.1.Y.N.Neg), .d (eS2 y12.2.2.1.Y.N.L), .d (di .i64 y12.2.2.1.Y.E)], .fix 37 [.d (dbool y24.1.N.N.Neg), .d (eS2 y24.1.N.N.L), .d (di .i64 y24.1.N.E), .d (dbool y24.1.D.N.Neg), .d (eS2 y24.1.D.N.L), .d (di .i64 y24.1.D.E)], .fix 37 [.d (dbool y24.2.1.N.N.Neg), .d (eS2 y24.2.1.N.N.L), .d (di .i64 y24.2.1.N.E), .d (dbool y24.2.1.D.N.Neg), .d (eS2 y24.2.1.D.N.L), .d (di .i64 y24.2.1.D.E)]]) rfl ?_
 refine AO.op rfl (AOp.assign rfl rfl (ltb rfl) rfl ?_)
 refine AO.nil ?_
 change AC _ _ _ _
 refine AC.seq ?_
 refine AC.region ?_
 refine AO.op rfl (AOp.loadN rfl rfl (ltb rfl) rfl agg24 size24 rfl (leb rfl) rfl ?_)
 refine AO.op rfl (AOp.loadN rfl rfl (ltb rfl) rfl agg24 size24 rfl (leb rfl) rfl ?_)
 refine AO.op rfl (AOp.loadN rfl rfl (ltb rfl) rfl agg24 size24 rfl (leb rfl) rfl ?_)
 refine AO.op rfl (AOp.loadN rfl rfl (ltb rfl) rfl agg24 size24 rfl (leb rfl) rfl ?_)
 refine AO.op rfl (AOp.inl [4, 5, 6, 7, 13, 14, 15] (by kernel_rfl) Tryz.func8 rfl Tryz.ntmps8 rfl rfl (ltb rfl) rfl (leb rfl) rfl ?_)
 intro fr26
 refine AC.seq ?_
 refine AC.region ?_
 refine AO.op rfl (AOp.box rfl rfl (ltb rfl) rfl rfl ?_)
 refine AO.op rfl (AOp.box rfl rfl (ltb rfl) rfl rfl ?_)
 refine AO.op rfl (AOp.box rfl rfl (ltb rfl) rfl rfl ?_)
 refine AO.op rfl (AOp.box rfl rfl (ltb rfl) rfl rfl ?_)
 refine AO.op rfl (AOp.assign rfl rfl (ltb rfl) rfl ?_)
 refine AO.op rfl (AOp.assign rfl rfl (ltb rfl) rfl ?_)
 refine AO.objs (obs' := [.fix 24 [.d (dfl a0.X), .d (dfl a0.Y)], .fix 24 [.d (dfl a1.X), .d (dfl a1.Y)], .fix 24 [.d (dfl a2.X), .d (dfl a2.Y)], .fix 24 [.d (dfl a3.X), .d (dfl a3.Y)], .fix 32 [.d (dbool y12.2.1.X.N.Neg), .d (eS2 y12.2.1.X.N.L), .d (di .i64 y12.2.1.X.E), .d (dbool y12.2.1.Y.N.Neg), .d (eS2 y12.2.1.Y.N.L), .d (di .i64 y12.2.1.Y.E)], .fix 32 [.d (dbool y12.2.2.1.X.N.Neg), .d (eS2 y12.2.2.1.X.N.L), .d (di .i64 y12.2.2.1.X.E), .d (dbool y12.2.2.1.Y.N.Neg), .d (eS2 y12.2.2.1.Y.N.L), .d (di .i64 y12.2.2.1.Y.E)], .fix 37 [.d (dbool y24.1.N.N.Neg), .d (eS2 y24.1.N.N.L), .d (di .i64 y24.1.N.E), .d (dbool y24.1.D.N.Neg), .d (eS2 y24.1.D.N.L), .d (di .i64 y24.1.D.E)], .fix 37 [.d (dbool y24.2.1.N.N.Neg), .d (eS2 y24.2.1.N.N.L), .d (di .i64 y24.2.1.N.E), .d (dbool y24.2.1.D.N.Neg), .d (eS2 y24.2.1.D.N.L), .d (di .i64 y24.2.1.D.E)], .frame fr26 [(4, .ptr 0 0), (5, .ptr 1 0), (6, .ptr 2 0), (7, .ptr 3 0), (13, .ptr 6 0), (14, .ptr 7 0), (15, .d (dbool y24.2.2))], .fix 24 [.d (dfl a0.X), .d (dfl a0.Y)], .fix 24 [.d (dfl a1.X), .d (dfl a1.Y)], .fix 24 [.d (dfl a2.X), .d (dfl a2.Y)], .fix 24 [.d (dfl a3.X), .d (dfl a3.Y)]]) rfl ?_
 refine AO.nil ?_
 change AC _ _ _ _
 refine AC.seq ?_
 refine AC.room ?_
 obtain ⟨y27, q28, h0⟩ := bind_elim h0
 obtain ⟨y29, q30, h0⟩ := bind_elim h0
 obtain ⟨y31, q32, h0⟩ := bind_elim h0
 obtain ⟨y33, q34, h0⟩ := bind_elim h0
 obtain ⟨y35, q36, h0⟩ := bind_elim h0
 refine AC.drawS [0, 1, 2, 3, 4, 5, 6, 7, 8, 9, 10, 11] [11] [12] (fun L => [.fix 24 [.d (dfl a0.X), .d (dfl a0.Y)], .fix 24 [.d (dfl a1.X), .d (dfl a1.Y)], .fix 24 [.d (dfl a2.X), .d (dfl a2.Y)], .fix 24 [.d (dfl a3.X), .d (dfl a3.Y)], .fix 32 [.d (dbool y12.2.1.X.N.Neg), .d (eS2 y12.2.1.X.N.L), .d (di .i64 y12.2.1.X.E), .d (dbool y12.2.1.Y.N.Neg), .d (eS2 y12.2.1.Y.N.L), .d (di .i64 y12.2.1.Y.E)], .fix 32 [.d (dbool y12.2.2.1.X.N.Neg), .d (eS2 y12.2.2.1.X.N.L), .d (di .i64 y12.2.2.1.X.E), .d (dbool y12.2.2.1.Y.N.Neg), .d (eS2 y12.2.2.1.Y.N.L), .d (di .i64 y12.2.2.1.Y.E)], .fix 37 [.d (dbool y24.1.N.N.Neg), .d (eS2 y24.1.N.N.L), .d (di .i64 y24.1.N.E), .d (dbool y24.1.D.N.Neg), .d (eS2 y24.1.D.N.L), .d (di .i64 y24.1.D.E)], .fix 37 [.d (dbool y24.2.1.N.N.Neg), .d (eS2 y24.2.1.N.N.L), .d (di .i64 y24.2.1.N.E), .d (dbool y24.2.1.D.N.Neg), .d (eS2 y24.2.1.D.N.L), .d (di .i64 y24.2.1.D.E)], .frame fr26 [(4, .ptr 0 0), (5, .ptr 1 0), (6, .ptr 2 0), (7, .ptr 3 0), (13, .ptr 6 0), (14, .ptr 7 0), (15, .d (dbool y24.2.2))], .fix 24 [.d (dfl a0.X), .d (dfl a0.Y)], .fix 24 [.d (dfl a1.X), .d (dfl a1.Y)], .fix 24 [.d (dfl a2.X), .d (dfl a2.Y)], .fix 24 [.d (dfl a3.X), .d (dfl a3.Y)], bif L 11 then .fix 58 [.d (di .i64 (0 : Int)), .d (.v (.slice none 0 0))] else .dead]) [(11, SV.noO2 13 14)] mixed (by kernel_rfl) (fun L L' h => by simp only [h 11 (by decide)]) rfl ?_
 refine AS.op [0] [] [] [11] rfl rfl rfl (by kernel_rfl) (by kernel_rfl) rfl rfl (fun _ _ _ h => AOp.move rfl rfl (ltb rfl) rfl h) (by kernel_rfl) ?_
 refine AS.op [13] [] [] [11] rfl rfl rfl (by kernel_rfl) (by kernel_rfl) rfl rfl (fun _ _ _ h => AOp.callD rfl rfl (ltb rfl) rfl rfl wc_strategy (by rintro _ rfl; exact h)) (by kernel_rfl) ?_
 refine AS.op [6] [] [] [11] rfl rfl rfl (by kernel_rfl) (by kernel_rfl) rfl rfl (fun _ _ _ h => AOp.loadN rfl rfl (ltb rfl) rfl agg24 size24 rfl (leb rfl) rfl h) (by kernel_rfl) ?_
 refine AS.op [15] [] [] [11] rfl rfl rfl (by kernel_rfl) (by kernel_rfl) rfl rfl (fun _ _ _ h => AOp.callD rfl rfl (ltb rfl) rfl rfl (w_coord a0 y27 q28) (by rintro _ rfl; exact h)) (by kernel_rfl) ?_
 refine AS.op [7] [] [] [11] rfl rfl rfl (by kernel_rfl) (by kernel_rfl) rfl rfl (fun _ _ _ h => AOp.loadN rfl rfl (ltb rfl) rfl agg24 size24 rfl (leb rfl) rfl h) (by kernel_rfl) ?_
 refine AS.op [17] [] [] [11] rfl rfl rfl (by kernel_rfl) (by kernel_rfl) rfl rfl (fun _ _ _ h => AOp.callD rfl rfl (ltb rfl) rfl rfl (w_coord a1 y29 q30) (by rintro _ rfl; exact h)) (by kernel_rfl) ?_
 refine AS.op [8] [] [] [11] rfl rfl rfl (by kernel_rfl) (by kernel_rfl) rfl rfl (fun _ _ _ h => AOp.loadN rfl rfl (ltb rfl) rfl agg24 size24 rfl (leb rfl) rfl h) (by kernel_rfl) ?_
 refine AS.op [19] [] [] [11] rfl rfl rfl (by kernel_rfl) (by kernel_rfl) rfl rfl (fun _ _ _ h => AOp.callD rfl rfl (ltb rfl) rfl rfl (w_coord a2 y31 q32) (by rintro _ rfl; exact h)) (by kernel_rfl) ?_
 refine AS.op [9] [] [] [11] rfl rfl rfl (by kernel_rfl) (by kernel_rfl) rfl rfl (fun _ _ _ h => AOp.loadN rfl rfl (ltb rfl) rfl agg24 size24 rfl (leb rfl) rfl h) (by kernel_rfl) ?_
 refine AS.op [21] [] [] [11] rfl rfl rfl (by kernel_rfl) (by kernel_rfl) rfl rfl (fun _ _ _ h => AOp.callD rfl rfl (ltb rfl) rfl rfl (w_coord a3 y33 q34) (by rintro _ rfl; exact h)) (by kernel_rfl) ?_
 refine AS.op [14, 16, 18, 20, 22] [] [] [11] rfl rfl rfl (by kernel_rfl) (by kernel_rfl) rfl rfl (fun _ _ _ h => AOp.callD rfl rfl (ltb rfl) rfl rfl (w_LineIntersectsLine y27 y29 y31 y33 y35 q36) (by rintro _ rfl; exact h)) (by kernel_rfl) ?_
 refine AS.mid [] [] [11] [] rfl rfl rfl rfl (by kernel_rfl) (by kernel_rfl) rfl rfl (fun _ _ _ h => AOp.alloc rfl rfl (ltb rfl) zero58 rfl (AO.sink 13 14 rfl rfl rfl (.cons rfl (.cons rfl (.cons rfl (.cons rfl (.cons rfl (.cons rfl (.cons rfl (.cons rfl (.cons rfl (.cons rfl (.cons rfl (.cons rfl (.cons rfl (.cons (noO2_cond rfl rfl) .nil)))))))))))))) rfl h)) (by kernel_rfl) rfl ?_
 refine AS.done ?_
 refine AO.objs (obs' := [.fix 24 [.d (dfl a0.X), .d (dfl a0.Y)], .fix 24 [.d (dfl a1.X), .d (dfl a1.Y)], .fix 24 [.d (dfl a2.X), .d (dfl a2.Y)], .fix 24 [.d (dfl a3.X), .d (dfl a3.Y)], .fix 32 [.d (dbool y12.2.1.X.N.Neg), .d (eS2 y12.2.1.X.N.L), .d (di .i64 y12.2.1.X.E), .d (dbool y12.2.1.Y.N.Neg), .d (eS2 y12.2.1.Y.N.L), .d (di .i64 y12.2.1.Y.E)], .fix 32 [.d (dbool y12.2.2.1.X.N.Neg), .d (eS2 y12.2.2.1.X.N.L), .d (di .i64 y12.2.2.1.X.E), .d (dbool y12.2.2.1.Y.N.Neg), .d (eS2 y12.2.2.1.Y.N.L), .d (di .i64 y12.2.2.1.Y.E)], .fix 37 [.d (dbool y24.1.N.N.Neg), .d (eS2 y24.1.N.N.L), .d (di .i64 y24.1.N.E), .d (dbool y24.1.D.N.Neg), .d (eS2 y24.1.D.N.L), .d (di .i64 y24.1.D.E)], .fix 37 [.d (dbool y24.2.1.N.N.Neg), .d (eS2 y24.2.1.N.N.L), .d (di .i64 y24.2.1.N.E), .d (dbool y24.2.1.D.N.Neg), .d (eS2 y24.2.1.D.N.L), .d (di .i64 y24.2.1.D.E)], .frame fr26 [(4, .ptr 0 0), (5, .ptr 1 0), (6, .ptr 2 0), (7, .ptr 3 0), (13, .ptr 6 0), (14, .ptr 7 0), (15, .d (dbool y24.2.2))], .fix 24 [.d (dfl a0.X), .d (dfl a0.Y)], .fix 24 [.d (dfl a1.X), .d (dfl a1.Y)], .fix 24 [.d (dfl a2.X), .d (dfl a2.Y)], .fix 24 [.d (dfl a3.X), .d (dfl a3.Y)], .fix 58 [.d (di .i64 (0 : Int)), .d (.v (.slice none 0 0))]]) rfl ?_
 refine AO.op rfl (AOp.store rfl rfl rfl rfl size58 rfl rfl rfl (leb rfl) ?_)
 refine AO.nil ?_
 change AC _ _ _ _
 refine AC.seq ?_
 refine AC.region ?_
 refine AO.op rfl (AOp.inl [10, 11, 12] (by kernel_rfl) Tryz.func24 rfl Tryz.ntmps24 rfl rfl (ltb rfl) rfl (leb rfl) rfl ?_)
 intro fr37
 refine AC.seq ?_
 refine AC.region ?_
 refine AO.op rfl (AOp.assign rfl rfl (ltb rfl) rfl ?_)
 refine AO.objs (obs' := [.fix 24 [.d (dfl a0.X), .d (dfl a0.Y)], .fix 24 [.d (dfl a1.X), .d (dfl a1.Y)], .fix 24 [.d (dfl a2.X), .d (dfl a2.Y)], .fix 24 [.d (dfl a3.X), .d (dfl a3.Y)], .fix 32 [.d (dbool y12.2.1.X.N.Neg), .d (eS2 y12.2.1.X.N.L), .d (di .i64 y12.2.1.X.E), .d (dbool y12.2.1.Y.N.Neg), .d (eS2 y12.2.1.Y.N.L), .d (di .i64 y12.2.1.Y.E)], .fix 32 [.d (dbool y12.2.2.1.X.N.Neg), .d (eS2 y12.2.2.1.X.N.L), .d (di .i64 y12.2.2.1.X.E), .d (dbool y12.2.2.1.Y.N.Neg), .d (eS2 y12.2.2.1.Y.N.L), .d (di .i64 y12.2.2.1.Y.E)], .fix 37 [.d (dbool y24.1.N.N.Neg), .d (eS2 y24.1.N.N.L), .d (di .i64 y24.1.N.E), .d (dbool y24.1.D.N.Neg), .d (eS2 y24.1.D.N.L), .d (di .i64 y24.1.D.E)], .fix 37 [.d (dbool y24.2.1.N.N.Neg), .d (eS2 y24.2.1.N.N.L), .d (di .i64 y24.2.1.N.E), .d (dbool y24.2.1.D.N.Neg), .d (eS2 y24.2.1.D.N.L), .d (di .i64 y24.2.1.D.E)], .frame fr26 [(4, .ptr 0 0), (5, .ptr 1 0), (6, .ptr 2 0), (7, .ptr 3 0), (13, .ptr 6 0), (14, .ptr 7 0), (15, .d (dbool y24.2.2))], .fix 24 [.d (dfl a0.X), .d (dfl a0.Y)], .fix 24 [.d (dfl a1.X), .d (dfl a1.Y)], .fix 24 [.d (dfl a2.X), .d (dfl a2.Y)], .fix 24 [.d (dfl a3.X), .d (dfl a3.Y)], .fix 58 [.d (di .i64 y35.intersectionType), .d (eS4 y35.intersection)], .frame fr37 [(10, .d (di .i64 (0 : Int))), (11, .d (.v (.slice none 0 0))), (12, .ptr 13 0)]]) rfl ?_
 refine AO.nil ?_
 change AC _ _ _ _
 refine AC.seq ?_
 refine AC.region ?_
 refine AO.op rfl (AOp.move rfl rfl (ltb rfl) rfl ?_)
 refine AO.op rfl (AOp.nilCheck rfl rfl (ltb rfl) rfl rfl ?_)
 refine AO.op rfl (AOp.fieldAddr rfl rfl (ltb rfl) rfl fo58_0 ?_)
 refine AO.op rfl (AOp.load1 rfl rfl (ltb rfl) rfl agg55 rfl rfl ?_)
 refine AO.op rfl (AOp.assign rfl rfl (ltb rfl) rfl ?_)
 refine AO.nil ?_
 change AC _ _ _ _
 refine AC.ret ?_
 refine inlret (ob' := [.fix 24 [.d (dfl a0.X), .d (dfl a0.Y)], .fix 24 [.d (dfl a1.X), .d (dfl a1.Y)], .fix 24 [.d (dfl a2.X), .d (dfl a2.Y)], .fix 24 [.d (dfl a3.X), .d (dfl a3.Y)], .fix 32 [.d (dbool y12.2.1.X.N.Neg), .d (eS2 y12.2.1.X.N.L), .d (di .i64 y12.2.1.X.E), .d (dbool y12.2.1.Y.N.Neg), .d (eS2 y12.2.1.Y.N.L), .d (di .i64 y12.2.1.Y.E)], .fix 32 [.d (dbool y12.2.2.1.X.N.Neg), .d (eS2 y12.2.2.1.X.N.L), .d (di .i64 y12.2.2.1.X.E), .d (dbool y12.2.2.1.Y.N.Neg), .d (eS2 y12.2.2.1.Y.N.L), .d (di .i64 y12.2.2.1.Y.E)], .fix 37 [.d (dbool y24.1.N.N.Neg), .d (eS2 y24.1.N.N.L), .d (di .i64 y24.1.N.E), .d (dbool y24.1.D.N.Neg), .d (eS2 y24.1.D.N.L), .d (di .i64 y24.1.D.E)], .fix 37 [.d (dbool y24.2.1.N.N.Neg), .d (eS2 y24.2.1.N.N.L), .d (di .i64 y24.2.1.N.E), .d (dbool y24.2.1.D.N.Neg), .d (eS2 y24.2.1.D.N.L), .d (di .i64 y24.2.1.D.E)], .frame fr26 [(4, .ptr 0 0), (5, .ptr 1 0), (6, .ptr 2 0), (7, .ptr 3 0), (13, .ptr 6 0), (14, .ptr 7 0), (15, .d (dbool y24.2.2))], .fix 24 [.d (dfl a0.X), .d (dfl a0.Y)], .fix 24 [.d (dfl a1.X), .d (dfl a1.Y)], .fix 24 [.d (dfl a2.X), .d (dfl a2.Y)], .fix 24 [.d (dfl a3.X), .d (dfl a3.Y)], .fix 58 [.d (di .i64 y35.intersectionType), .d (eS4 y35.intersection)], .dead]) (e' := [(10, .d (di .i64 (0 : Int))), (11, .d (.v (.slice none 0 0))), (12, .ptr 13 0)]) (r := .d (di .i64 y35.intersectionType)) rfl rfl rfl ?_
 change AO _ _ _ _ _
 refine AO.op rfl (AOp.inl [10, 11, 24] (by kernel_rfl) Tryz.func26 rfl Tryz.ntmps26 rfl rfl (ltb rfl) rfl (leb rfl) rfl ?_)
 intro fr38
 refine AC.seq ?_
 refine AC.region ?_
 refine AO.op rfl (AOp.assign rfl rfl (ltb rfl) rfl ?_)
 refine AO.objs (obs' := [.fix 24 [.d (dfl a0.X), .d (dfl a0.Y)], .fix 24 [.d (dfl a1.X), .d (dfl a1.Y)], .fix 24 [.d (dfl a2.X), .d (dfl a2.Y)], .fix 24 [.d (dfl a3.X), .d (dfl a3.Y)], .fix 32 [.d (dbool y12.2.1.X.N.Neg), .d (eS2 y12.2.1.X.N.L), .d (di .i64 y12.2.1.X.E), .d (dbool y12.2.1.Y.N.Neg), .d (eS2 y12.2.1.Y.N.L), .d (di .i64 y12.2.1.Y.E)], .fix 32 [.d (dbool y12.2.2.1.X.N.Neg), .d (eS2 y12.2.2.1.X.N.L), .d (di .i64 y12.2.2.1.X.E), .d (dbool y12.2.2.1.Y.N.Neg), .d (eS2 y12.2.2.1.Y.N.L), .d (di .i64 y12.2.2.1.Y.E)], .fix 37 [.d (dbool y24.1.N.N.Neg), .d (eS2 y24.1.N.N.L), .d (di .i64 y24.1.N.E), .d (dbool y24.1.D.N.Neg), .d (eS2 y24.1.D.N.L), .d (di .i64 y24.1.D.E)], .fix 37 [.d (dbool y24.2.1.N.N.Neg), .d (eS2 y24.2.1.N.N.L), .d (di .i64 y24.2.1.N.E), .d (dbool y24.2.1.D.N.Neg), .d (eS2 y24.2.1.D.N.L), .d (di .i64 y24.2.1.D.E)], .frame fr26 [(4, .ptr 0 0), (5, .ptr 1 0), (6, .ptr 2 0), (7, .ptr 3 0), (13, .ptr 6 0), (14, .ptr 7 0), (15, .d (dbool y24.2.2))], .fix 24 [.d (dfl a0.X), .d (dfl a0.Y)], .fix 24 [.d (dfl a1.X), .d (dfl a1.Y)], .fix 24 [.d (dfl a2.X), .d (dfl a2.Y)], .fix 24 [.d (dfl a3.X), .d (dfl a3.Y)], .fix 58 [.d (di .i64 y35.intersectionType), .d (eS4 y35.intersection)], .dead, .frame fr38 [(10, .d (di .i64 (0 : Int))), (11, .d (.v (.slice none 0 0))), (24, .d (di .i64 y35.intersectionType))]]) rfl ?_
 refine AO.nil ?_
 change AC _ _ _ _
 refine AC.seq ?_
 refine AC.region ?_
 refine AO.op rfl (AOp.move rfl rfl (ltb rfl) rfl ?_)
 refine AO.op rfl (AOp.nilCheck rfl rfl (ltb rfl) rfl rfl ?_)
 refine AO.op rfl (AOp.fieldAddr rfl rfl (ltb rfl) rfl fo58_1 ?_)
 refine AO.op rfl (AOp.load1 rfl rfl (ltb rfl) rfl agg56 rfl rfl ?_)
 refine AO.op rfl (AOp.assign rfl rfl (ltb rfl) rfl ?_)
 refine AO.nil ?_
 change AC _ _ _ _
 refine AC.ret ?_
 refine inlret (ob' := [.fix 24 [.d (dfl a0.X), .d (dfl a0.Y)], .fix 24 [.d (dfl a1.X), .d (dfl a1.Y)], .fix 24 [.d (dfl a2.X), .d (dfl a2.Y)], .fix 24 [.d (dfl a3.X), .d (dfl a3.Y)], .fix 32 [.d (dbool y12.2.1.X.N.Neg), .d (eS2 y12.2.1.X.N.L), .d (di .i64 y12.2.1.X.E), .d (dbool y12.2.1.Y.N.Neg), .d (eS2 y12.2.1.Y.N.L), .d (di .i64 y12.2.1.Y.E)], .fix 32 [.d (dbool y12.2.2.1.X.N.Neg), .d (eS2 y12.2.2.1.X.N.L), .d (di .i64 y12.2.2.1.X.E), .d (dbool y12.2.2.1.Y.N.Neg), .d (eS2 y12.2.2.1.Y.N.L), .d (di .i64 y12.2.2.1.Y.E)], .fix 37 [.d (dbool y24.1.N.N.Neg), .d (eS2 y24.1.N.N.L), .d (di .i64 y24.1.N.E), .d (dbool y24.1.D.N.Neg), .d (eS2 y24.1.D.N.L), .d (di .i64 y24.1.D.E)], .fix 37 [.d (dbool y24.2.1.N.N.Neg), .d (eS2 y24.2.1.N.N.L), .d (di .i64 y24.2.1.N.E), .d (dbool y24.2.1.D.N.Neg), .d (eS2 y24.2.1.D.N.L), .d (di .i64 y24.2.1.D.E)], .frame fr26 [(4, .ptr 0 0), (5, .ptr 1 0), (6, .ptr 2 0), (7, .ptr 3 0), (13, .ptr 6 0), (14, .ptr 7 0), (15, .d (dbool y24.2.2))], .fix 24 [.d (dfl a0.X), .d (dfl a0.Y)], .fix 24 [.d (dfl a1.X), .d (dfl a1.Y)], .fix 24 [.d (dfl a2.X), .d (dfl a2.Y)], .fix 24 [.d (dfl a3.X), .d (dfl a3.Y)], .fix 58 [.d (di .i64 y35.intersectionType), .d (eS4 y35.intersection)], .dead, .dead]) (e' := [(10, .d (di .i64 (0 : Int))), (11, .d (.v (.slice none 0 0))), (24, .d (di .i64 y35.intersectionType))]) (r := .d (eS4 y35.intersection)) rfl rfl rfl ?_
 change AO _ _ _ _ _
 obtain ⟨y39, q40, h0⟩ := bind_elim h0
 refine AO.op rfl (AOp.callD rfl rfl (ltb rfl) rfl rfl (w_places F y35.intersection y39 q40) ?_)
 rintro _ rfl
 refine AO.op rfl (AOp.assign rfl rfl (ltb rfl) rfl ?_)
 refine AO.op rfl (AOp.assign rfl rfl (ltb rfl) rfl ?_)
 refine AO.objs (obs' := [.fix 24 [.d (dfl a0.X), .d (dfl a0.Y)], .fix 24 [.d (dfl a1.X), .d (dfl a1.Y)], .fix 24 [.d (dfl a2.X), .d (dfl a2.Y)], .fix 24 [.d (dfl a3.X), .d (dfl a3.Y)], .fix 32 [.d (dbool y12.2.1.X.N.Neg), .d (eS2 y12.2.1.X.N.L), .d (di .i64 y12.2.1.X.E), .d (dbool y12.2.1.Y.N.Neg), .d (eS2 y12.2.1.Y.N.L), .d (di .i64 y12.2.1.Y.E)], .fix 32 [.d (dbool y12.2.2.1.X.N.Neg), .d (eS2 y12.2.2.1.X.N.L), .d (di .i64 y12.2.2.1.X.E), .d (dbool y12.2.2.1.Y.N.Neg), .d (eS2 y12.2.2.1.Y.N.L), .d (di .i64 y12.2.2.1.Y.E)], .fix 37 [.d (dbool y24.1.N.N.Neg), .d (eS2 y24.1.N.N.L), .d (di .i64 y24.1.N.E), .d (dbool y24.1.D.N.Neg), .d (eS2 y24.1.D.N.L), .d (di .i64 y24.1.D.E)], .fix 37 [.d (dbool y24.2.1.N.N.Neg), .d (eS2 y24.2.1.N.N.L), .d (di .i64 y24.2.1.N.E), .d (dbool y24.2.1.D.N.Neg), .d (eS2 y24.2.1.D.N.L), .d (di .i64 y24.2.1.D.E)], .frame fr26 [(4, .ptr 0 0), (5, .ptr 1 0), (6, .ptr 2 0), (7, .ptr 3 0), (13, .ptr 6 0), (14, .ptr 7 0), (15, .d (dbool y24.2.2))], .fix 24 [.d (dfl a0.X), .d (dfl a0.Y)], .fix 24 [.d (dfl a1.X), .d (dfl a1.Y)], .fix 24 [.d (dfl a2.X), .d (dfl a2.Y)], .fix 24 [.d (dfl a3.X), .d (dfl a3.Y)], .fix 58 [.d (di .i64 y35.intersectionType), .d (eS4 y35.intersection)], .dead, .dead]) rfl ?_
 refine AO.nil ?_
 change AC _ _ _ _
 refine AC.ret ?_
 refine inlret (ob' := [.fix 24 [.d (dfl a0.X), .d (dfl a0.Y)], .fix 24 [.d (dfl a1.X), .d (dfl a1.Y)], .fix 24 [.d (dfl a2.X), .d (dfl a2.Y)], .fix 24 [.d (dfl a3.X), .d (dfl a3.Y)], .fix 32 [.d (dbool y12.2.1.X.N.Neg), .d (eS2 y12.2.1.X.N.L), .d (di .i64 y12.2.1.X.E), .d (dbool y12.2.1.Y.N.Neg), .d (eS2 y12.2.1.Y.N.L), .d (di .i64 y12.2.1.Y.E)], .fix 32 [.d (dbool y12.2.2.1.X.N.Neg), .d (eS2 y12.2.2.1.X.N.L), .d (di .i64 y12.2.2.1.X.E), .d (dbool y12.2.2.1.Y.N.Neg), .d (eS2 y12.2.2.1.Y.N.L), .d (di .i64 y12.2.2.1.Y.E)], .fix 37 [.d (dbool y24.1.N.N.Neg), .d (eS2 y24.1.N.N.L), .d (di .i64 y24.1.N.E), .d (dbool y24.1.D.N.Neg), .d (eS2 y24.1.D.N.L), .d (di .i64 y24.1.D.E)], .fix 37 [.d (dbool y24.2.1.N.N.Neg), .d (eS2 y24.2.1.N.N.L), .d (di .i64 y24.2.1.N.E), .d (dbool y24.2.1.D.N.Neg), .d (eS2 y24.2.1.D.N.L), .d (di .i64 y24.2.1.D.E)], .dead, .fix 24 [.d (dfl a0.X), .d (dfl a0.Y)], .fix 24 [.d (dfl a1.X), .d (dfl a1.Y)], .fix 24 [.d (dfl a2.X), .d (dfl a2.Y)], .fix 24 [.d (dfl a3.X), .d (dfl a3.Y)], .fix 58 [.d (di .i64 y35.intersectionType), .d (eS4 y35.intersection)], .dead, .dead]) (e' := [(4, .ptr 0 0), (5, .ptr 1 0), (6, .ptr 2 0), (7, .ptr 3 0), (13, .ptr 6 0), (14, .ptr 7 0), (15, .d (dbool y24.2.2))]) (r := .tu [.d (di .i64 y35.intersectionType), .d (eS0 y39)]) rfl rfl rfl ?_
 change AO _ _ _ _ _
 refine AO.op rfl (AOp.move rfl rfl (ltb rfl) rfl ?_)
 first | refine AO.op rfl (AOp.extractD rfl rfl (ltb rfl) rfl rfl ?_) | refine AO.op rfl (AOp.extract rfl rfl (ltb rfl) rfl rfl ?_)
 first | refine AO.op rfl (AOp.extractD rfl rfl (ltb rfl) rfl rfl ?_) | refine AO.op rfl (AOp.extract rfl rfl (ltb rfl) rfl rfl ?_)
 refine AO.op rfl (AOp.assign rfl rfl (ltb rfl) rfl ?_)
 refine AO.op rfl (AOp.assign rfl rfl (ltb rfl) rfl ?_)
 refine AO.objs (obs' := [.fix 24 [.d (dfl a0.X), .d (dfl a0.Y)], .fix 24 [.d (dfl a1.X), .d (dfl a1.Y)], .fix 24 [.d (dfl a2.X), .d (dfl a2.Y)], .fix 24 [.d (dfl a3.X), .d (dfl a3.Y)], .fix 32 [.d (dbool y12.2.1.X.N.Neg), .d (eS2 y12.2.1.X.N.L), .d (di .i64 y12.2.1.X.E), .d (dbool y12.2.1.Y.N.Neg), .d (eS2 y12.2.1.Y.N.L), .d (di .i64 y12.2.1.Y.E)], .fix 32 [.d (dbool y12.2.2.1.X.N.Neg), .d (eS2 y12.2.2.1.X.N.L), .d (di .i64 y12.2.2.1.X.E), .d (dbool y12.2.2.1.Y.N.Neg), .d (eS2 y12.2.2.1.Y.N.L), .d (di .i64 y12.2.2.1.Y.E)], .fix 37 [.d (dbool y24.1.N.N.Neg), .d (eS2 y24.1.N.N.L), .d (di .i64 y24.1.N.E), .d (dbool y24.1.D.N.Neg), .d (eS2 y24.1.D.N.L), .d (di .i64 y24.1.D.E)], .fix 37 [.d (dbool y24.2.1.N.N.Neg), .d (eS2 y24.2.1.N.N.L), .d (di .i64 y24.2.1.N.E), .d (dbool y24.2.1.D.N.Neg), .d (eS2 y24.2.1.D.N.L), .d (di .i64 y24.2.1.D.E)], .dead, .fix 24 [.d (dfl a0.X), .d (dfl a0.Y)], .fix 24 [.d (dfl a1.X), .d (dfl a1.Y)], .fix 24 [.d (dfl a2.X), .d (dfl a2.Y)], .fix 24 [.d (dfl a3.X), .d (dfl a3.Y)], .fix 58 [.d (di .i64 y35.intersectionType), .d (eS4 y35.intersection)], .dead, .dead]) rfl ?_
 refine AO.nil ?_
 change AC _ _ _ _
 refine AC.seq ?_
 refine AC.draw 35 mixed (by kernel_rfl) ?_
 refine AD.op [15] rfl (by kernel_rfl) rfl rfl (fun _ _ h => AOp.move rfl rfl (ltb rfl) rfl h) ?_
 refine AD.op [65] rfl (by kernel_rfl) rfl rfl (fun _ _ h => AOp.move rfl rfl (ltb rfl) rfl h) ?_
 refine AD.dec y24.2.2 (fun q41 => ?_) (fun q41 => ?_)
 ·replace h0 := cT h0 q41
  refine AD.opY [16, 66] rfl rfl rfl q41 (by kernel_rfl) rfl rfl (fun _ _ h => AOp.move rfl rfl (ltb rfl) rfl h) ?_
  refine AD.opY [66, 67] rfl rfl rfl q41 (by kernel_rfl) rfl rfl (fun _ _ h => AOp.ieql rfl rfl (ltb rfl) rfl rfl h) ?_
  refine AD.op [66, 68] rfl (by kernel_rfl) rfl rfl (fun _ _ h => AOp.pick rfl rfl (ltb rfl) rfl q41 rfl h) ?_
  refine AD.op [69] rfl (by kernel_rfl) rfl rfl (fun _ _ h => AOp.move rfl rfl (ltb rfl) rfl h) ?_
  refine AD.dec (decide (y35.intersectionType = (1 : Int))) (fun q42 => ?_) (fun q42 => ?_)
  ·replace h0 := cT h0 q42
   refine AD.opY [17, 70] rfl rfl rfl q42 (by kernel_rfl) rfl rfl (fun _ _ h => AOp.move rfl rfl (ltb rfl) rfl h) ?_
   refine AD.opY [70, 71] rfl rfl rfl q42 (by kernel_rfl) rfl rfl (fun _ _ h => AOp.lenDs (n := y39.length) (cells := (List.flatMap c_TImpl_P2 y39)) rfl rfl (ltb rfl) rfl el40 (by decide) (lenN _ 2 (fun _ => rfl) _) h) ?_
   refine AD.opY [70, 72] rfl rfl rfl q42 (by kernel_rfl) rfl rfl (fun _ _ h => AOp.ieql rfl rfl (ltb rfl) rfl rfl h) ?_
   refine AD.op [70, 73] rfl (by kernel_rfl) rfl rfl (fun _ _ h => AOp.pick rfl rfl (ltb rfl) rfl q42 rfl h) ?_
   refine AD.op [74] rfl (by kernel_rfl) rfl rfl (fun _ _ h => AOp.move rfl rfl (ltb rfl) rfl h) ?_
   refine AD.dec (decide (((y39.length : Nat) : Int) = (1 : Int))) (fun q43 => ?_) (fun q43 => ?_)
   ·replace h0 := cT h0 q43
    refine AD.opY [17, 75] rfl rfl rfl q43 (by kernel_rfl) rfl rfl (fun _ _ h => AOp.move rfl rfl (ltb rfl) rfl h) ?_
    obtain ⟨x44, q45, h0⟩ := idx_elim h0
    refine AD.opY [75, 76] rfl rfl rfl q43 (by kernel_rfl) rfl rfl (fun _ _ h => AOp.indexDs (cells := (List.flatMap c_TImpl_P2 y39)) rfl rfl (ltb rfl) rfl rfl el40 (by decide) q45.1 (ltN 2 (fun _ => rfl) (by decide) q45.2) h) ?_
    refine AD.opY [75, 77] rfl rfl rfl q43 (by kernel_rfl) rfl rfl (fun _ _ h => AOp.loadEpN rfl rfl (ltb rfl) rfl agg24 size24 (leN 2 (fun _ => rfl) q45.2) (atN 2 (fun _ => rfl) q45.2) h) ?_
    refine AD.opY [13, 75] rfl rfl rfl q43 (by kernel_rfl) rfl rfl (fun _ _ h => AOp.loadN rfl rfl (ltb rfl) rfl agg37 size37 rfl (leb rfl) rfl h) ?_
    refine AD.opY [14, 75] rfl rfl rfl q43 (by kernel_rfl) rfl rfl (fun _ _ h => AOp.loadN rfl rfl (ltb rfl) rfl agg37 size37 rfl (leb rfl) rfl h) ?_
    obtain ⟨y46, q47, h0⟩ := bind_elim h0
    refine AD.opY [75, 78, 79, 80] rfl rfl rfl q43 (by kernel_rfl) rfl rfl (fun _ _ h => AOp.callD rfl rfl (ltb rfl) rfl rfl (w_nearPlace F x44 y24.1 y24.2.1 y46 q47) (by rintro _ rfl; exact h)) ?_
    refine AD.op [75, 81] rfl (by kernel_rfl) rfl rfl (fun _ _ h => AOp.pick rfl rfl (ltb rfl) rfl q43 rfl h) ?_
    refine AD.op [82] rfl (by kernel_rfl) rfl rfl (fun _ _ h => AOp.move rfl rfl (ltb rfl) rfl h) ?_
    refine AD.dec y46 (fun q48 => ?_) (fun q48 => ?_)
    ·replace h0 := cT h0 q48
     refine AD.opY [17, 83] rfl rfl rfl q48 (by kernel_rfl) rfl rfl (fun _ _ h => AOp.move rfl rfl (ltb rfl) rfl h) ?_
     obtain ⟨x49, q50, h0⟩ := idx_elim h0
     refine AD.opY [83, 84] rfl rfl rfl q48 (by kernel_rfl) rfl rfl (fun _ _ h => AOp.indexDs (cells := (List.flatMap c_TImpl_P2 y39)) rfl rfl (ltb rfl) rfl rfl el40 (by decide) q50.1 (ltN 2 (fun _ => rfl) (by decide) q50.2) h) ?_
     refine AD.opY [83, 85] rfl rfl rfl q48 (by kernel_rfl) rfl rfl (fun _ _ h => AOp.loadEpN rfl rfl (ltb rfl) rfl agg24 size24 (leN 2 (fun _ => rfl) q50.2) (atN 2 (fun _ => rfl) q50.2) h) ?_
     refine AD.opY [4, 83] rfl rfl rfl q48 (by kernel_rfl) rfl rfl (fun _ _ h => AOp.loadN rfl rfl (ltb rfl) rfl agg24 size24 rfl (leb rfl) rfl h) ?_
     refine AD.opY [5, 83] rfl rfl rfl q48 (by kernel_rfl) rfl rfl (fun _ _ h => AOp.loadN rfl rfl (ltb rfl) rfl agg24 size24 rfl (leb rfl) rfl h) ?_
     obtain ⟨y51, q52, h0⟩ := bind_elim h0
     refine AD.opY [83, 86, 87, 88] rfl rfl rfl q48 (by kernel_rfl) rfl rfl (fun _ _ h => AOp.callD rfl rfl (ltb rfl) rfl rfl (w_InLineBox x49 a0 a1 y51 q52) (by rintro _ rfl; exact h)) ?_
     refine AD.op [83, 89] rfl (by kernel_rfl) rfl rfl (fun _ _ h => AOp.pick rfl rfl (ltb rfl) rfl q48 rfl h) ?_
     refine AD.op [90] rfl (by kernel_rfl) rfl rfl (fun _ _ h => AOp.move rfl rfl (ltb rfl) rfl h) ?_
     refine AD.dec y51 (fun q53 => ?_) (fun q53 => ?_)
     ·replace h0 := cT h0 q53
      refine AD.opY [17, 91] rfl rfl rfl q53 (by kernel_rfl) rfl rfl (fun _ _ h => AOp.move rfl rfl (ltb rfl) rfl h) ?_
      obtain ⟨x54, q55, h0⟩ := idx_elim h0
      refine AD.opY [91, 92] rfl rfl rfl q53 (by kernel_rfl) rfl rfl (fun _ _ h => AOp.indexDs (cells := (List.flatMap c_TImpl_P2 y39)) rfl rfl (ltb rfl) rfl rfl el40 (by decide) q55.1 (ltN 2 (fun _ => rfl) (by decide) q55.2) h) ?_
      refine AD.opY [91, 93] rfl rfl rfl q53 (by kernel_rfl) rfl rfl (fun _ _ h => AOp.loadEpN rfl rfl (ltb rfl) rfl agg24 size24 (leN 2 (fun _ => rfl) q55.2) (atN 2 (fun _ => rfl) q55.2) h) ?_
      refine AD.opY [6, 91] rfl rfl rfl q53 (by kernel_rfl) rfl rfl (fun _ _ h => AOp.loadN rfl rfl (ltb rfl) rfl agg24 size24 rfl (leb rfl) rfl h) ?_
      refine AD.opY [7, 91] rfl rfl rfl q53 (by kernel_rfl) rfl rfl (fun _ _ h => AOp.loadN rfl rfl (ltb rfl) rfl agg24 size24 rfl (leb rfl) rfl h) ?_
      obtain ⟨y56, q57, h0⟩ := bind_elim h0
      refine AD.opY [91, 94, 95, 96] rfl rfl rfl q53 (by kernel_rfl) rfl rfl (fun _ _ h => AOp.callD rfl rfl (ltb rfl) rfl rfl (w_InLineBox x54 a2 a3 y56 q57) (by rintro _ rfl; exact h)) ?_
      refine AD.op [91, 97] rfl (by kernel_rfl) rfl rfl (fun _ _ h => AOp.pick rfl rfl (ltb rfl) rfl q53 rfl h) ?_
      refine AD.op [98] rfl (by kernel_rfl) rfl rfl (fun _ _ h => AOp.assign rfl rfl (ltb rfl) rfl h) ?_
      refine AD.done ?_
      refine AO.nil ?_
      change AC _ _ _ _
      refine AC.ret ?_
      change RetQ _ _ _ .ret _
      obtain rfl := Option.some.inj h0
      refine retq rfl rfl
     replace h0 := cF h0 q53
     refine AD.opN rfl rfl rfl (ltb rfl) rfl q53 ?_
     refine AD.opN rfl rfl rfl (ltb rfl) rfl q53 ?_
     refine AD.opN rfl rfl rfl (ltb rfl) rfl q53 ?_
     refine AD.opN rfl rfl rfl (ltb rfl) rfl q53 ?_
     refine AD.opN rfl rfl rfl (ltb rfl) rfl q53 ?_
     refine AD.opN rfl rfl rfl (ltb rfl) rfl q53 ?_
     refine AD.op [91, 97] rfl (by kernel_rfl) rfl rfl (fun _ _ h => AOp.pickN rfl rfl (ltb rfl) rfl q53 rfl h) ?_
     refine AD.op [98] rfl (by kernel_rfl) rfl rfl (fun _ _ h => AOp.assign rfl rfl (ltb rfl) rfl h) ?_
     refine AD.done ?_
     refine AO.nil ?_
     change AC _ _ _ _
     refine AC.ret ?_
     change RetQ _ _ _ .ret _
     obtain rfl := Option.some.inj h0
     refine retq rfl rfl
    replace h0 := cF h0 q48
    refine AD.opN rfl rfl rfl (ltb rfl) rfl q48 ?_
    refine AD.opN rfl rfl rfl (ltb rfl) rfl q48 ?_
    refine AD.opN rfl rfl rfl (ltb rfl) rfl q48 ?_
    refine AD.opN rfl rfl rfl (ltb rfl) rfl q48 ?_
    refine AD.opN rfl rfl rfl (ltb rfl) rfl q48 ?_
    refine AD.opN rfl rfl rfl (ltb rfl) rfl q48 ?_
    refine AD.op [83, 89] rfl (by kernel_rfl) rfl rfl (fun _ _ h => AOp.pickN rfl rfl (ltb rfl) rfl q48 rfl h) ?_
    refine AD.op [90] rfl (by kernel_rfl) rfl rfl (fun _ _ h => AOp.move rfl rfl (ltb rfl) rfl h) ?_
    refine AD.opN rfl rfl rfl (ltb rfl) rfl rfl ?_
    refine AD.opN rfl rfl rfl (ltb rfl) rfl rfl ?_
    refine AD.opN rfl rfl rfl (ltb rfl) rfl rfl ?_
    refine AD.opN rfl rfl rfl (ltb rfl) rfl rfl ?_
    refine AD.opN rfl rfl rfl (ltb rfl) rfl rfl ?_
    refine AD.opN rfl rfl rfl (ltb rfl) rfl rfl ?_
    refine AD.op [91, 97] rfl (by kernel_rfl) rfl rfl (fun _ _ h => AOp.pickN rfl rfl (ltb rfl) rfl rfl rfl h) ?_
    refine AD.op [98] rfl (by kernel_rfl) rfl rfl (fun _ _ h => AOp.assign rfl rfl (ltb rfl) rfl h) ?_
    refine AD.done ?_
    refine AO.nil ?_
    change AC _ _ _ _
    refine AC.ret ?_
    change RetQ _ _ _ .ret _
    obtain rfl := Option.some.inj h0
    refine retq rfl rfl
   replace h0 := cF h0 q43
   refine AD.opN rfl rfl rfl (ltb rfl) rfl q43 ?_
   refine AD.opN rfl rfl rfl (ltb rfl) rfl q43 ?_
   refine AD.opN rfl rfl rfl (ltb rfl) rfl q43 ?_
   refine AD.opN rfl rfl rfl (ltb rfl) rfl q43 ?_
   refine AD.opN rfl rfl rfl (ltb rfl) rfl q43 ?_
   refine AD.opN rfl rfl rfl (ltb rfl) rfl q43 ?_
   refine AD.op [75, 81] rfl (by kernel_rfl) rfl rfl (fun _ _ h => AOp.pickN rfl rfl (ltb rfl) rfl q43 rfl h) ?_
   refine AD.op [82] rfl (by kernel_rfl) rfl rfl (fun _ _ h => AOp.move rfl rfl (ltb rfl) rfl h) ?_
   refine AD.opN rfl rfl rfl (ltb rfl) rfl rfl ?_
   refine AD.opN rfl rfl rfl (ltb rfl) rfl rfl ?_
   refine AD.opN rfl rfl rfl (ltb rfl) rfl rfl ?_
   refine AD.opN rfl rfl rfl (ltb rfl) rfl rfl ?_
   refine AD.opN rfl rfl rfl (ltb rfl) rfl rfl ?_
   refine AD.opN rfl rfl rfl (ltb rfl) rfl rfl ?_
   refine AD.op [83, 89] rfl (by kernel_rfl) rfl rfl (fun _ _ h => AOp.pickN rfl rfl (ltb rfl) rfl rfl rfl h) ?_
   refine AD.op [90] rfl (by kernel_rfl) rfl rfl (fun _ _ h => AOp.move rfl rfl (ltb rfl) rfl h) ?_
   refine AD.opN rfl rfl rfl (ltb rfl) rfl rfl ?_
   refine AD.opN rfl rfl rfl (ltb rfl) rfl rfl ?_
   refine AD.opN rfl rfl rfl (ltb rfl) rfl rfl ?_
   refine AD.opN rfl rfl rfl (ltb rfl) rfl rfl ?_
   refine AD.opN rfl rfl rfl (ltb rfl) rfl rfl ?_
   refine AD.opN rfl rfl rfl (ltb rfl) rfl rfl ?_
   refine AD.op [91, 97] rfl (by kernel_rfl) rfl rfl (fun _ _ h => AOp.pickN rfl rfl (ltb rfl) rfl rfl rfl h) ?_
   refine AD.op [98] rfl (by kernel_rfl) rfl rfl (fun _ _ h => AOp.assign rfl rfl (ltb rfl) rfl h) ?_
   refine AD.done ?_
   refine AO.nil ?_
   change AC _ _ _ _
   refine AC.ret ?_
   change RetQ _ _ _ .ret _
   obtain rfl := Option.some.inj h0
   refine retq rfl rfl
  replace h0 := cF h0 q42
  refine AD.opN rfl rfl rfl (ltb rfl) rfl q42 ?_
  refine AD.opN rfl rfl rfl (ltb rfl) rfl q42 ?_
  refine AD.opN rfl rfl rfl (ltb rfl) rfl q42 ?_
  refine AD.op [70, 73] rfl (by kernel_rfl) rfl rfl (fun _ _ h => AOp.pickN rfl rfl (ltb rfl) rfl q42 rfl h) ?_
  refine AD.op [74] rfl (by kernel_rfl) rfl rfl (fun _ _ h => AOp.move rfl rfl (ltb rfl) rfl h) ?_
  refine AD.opN rfl rfl rfl (ltb rfl) rfl rfl ?_
  refine AD.opN rfl rfl rfl (ltb rfl) rfl rfl ?_
  refine AD.opN rfl rfl rfl (ltb rfl) rfl rfl ?_
  refine AD.opN rfl rfl rfl (ltb rfl) rfl rfl ?_
  refine AD.opN rfl rfl rfl (ltb rfl) rfl rfl ?_
  refine AD.opN rfl rfl rfl (ltb rfl) rfl rfl ?_
  refine AD.op [75, 81] rfl (by kernel_rfl) rfl rfl (fun _ _ h => AOp.pickN rfl rfl (ltb rfl) rfl rfl rfl h) ?_
  refine AD.op [82] rfl (by kernel_rfl) rfl rfl (fun _ _ h => AOp.move rfl rfl (ltb rfl) rfl h) ?_
  refine AD.opN rfl rfl rfl (ltb rfl) rfl rfl ?_
  refine AD.opN rfl rfl rfl (ltb rfl) rfl rfl ?_
  refine AD.opN rfl rfl rfl (ltb rfl) rfl rfl ?_
  refine AD.opN rfl rfl rfl (ltb rfl) rfl rfl ?_
  refine AD.opN rfl rfl rfl (ltb rfl) rfl rfl ?_
  refine AD.opN rfl rfl rfl (ltb rfl) rfl rfl ?_
  refine AD.op [83, 89] rfl (by kernel_rfl) rfl rfl (fun _ _ h => AOp.pickN rfl rfl (ltb rfl) rfl rfl rfl h) ?_
  refine AD.op [90] rfl (by kernel_rfl) rfl rfl (fun _ _ h => AOp.move rfl rfl (ltb rfl) rfl h) ?_
  refine AD.opN rfl rfl rfl (ltb rfl) rfl rfl ?_
  refine AD.opN rfl rfl rfl (ltb rfl) rfl rfl ?_
  refine AD.opN rfl rfl rfl (ltb rfl) rfl rfl ?_
  refine AD.opN rfl rfl rfl (ltb rfl) rfl rfl ?_
  refine AD.opN rfl rfl rfl (ltb rfl) rfl rfl ?_
  refine AD.opN rfl rfl rfl (ltb rfl) rfl rfl ?_
  refine AD.op [91, 97] rfl (by kernel_rfl) rfl rfl (fun _ _ h => AOp.pickN rfl rfl (ltb rfl) rfl rfl rfl h) ?_
  refine AD.op [98] rfl (by kernel_rfl) rfl rfl (fun _ _ h => AOp.assign rfl rfl (ltb rfl) rfl h) ?_
  refine AD.done ?_
  refine AO.nil ?_
  change AC _ _ _ _
  refine AC.ret ?_
  change RetQ _ _ _ .ret _
  obtain rfl := Option.some.inj h0
  refine retq rfl rfl
 replace h0 := cF h0 q41
 refine AD.opN rfl rfl rfl (ltb rfl) rfl q41 ?_
 refine AD.opN rfl rfl rfl (ltb rfl) rfl q41 ?_
 refine AD.op [66, 68] rfl (by kernel_rfl) rfl rfl (fun _ _ h => AOp.pickN rfl rfl (ltb rfl) rfl q41 rfl h) ?_
 refine AD.op [69] rfl (by kernel_rfl) rfl rfl (fun _ _ h => AOp.move rfl rfl (ltb rfl) rfl h) ?_
 refine AD.opN rfl rfl rfl (ltb rfl) rfl rfl ?_
 refine AD.opN rfl rfl rfl (ltb rfl) rfl rfl ?_
 refine AD.opN rfl rfl rfl (ltb rfl) rfl rfl ?_
 refine AD.op [70, 73] rfl (by kernel_rfl) rfl rfl (fun _ _ h => AOp.pickN rfl rfl (ltb rfl) rfl rfl rfl h) ?_
 refine AD.op [74] rfl (by kernel_rfl) rfl rfl (fun _ _ h => AOp.move rfl rfl (ltb rfl) rfl h) ?_
 refine AD.opN rfl rfl rfl (ltb rfl) rfl rfl ?_
 refine AD.opN rfl rfl rfl (ltb rfl) rfl rfl ?_
 refine AD.opN rfl rfl rfl (ltb rfl) rfl rfl ?_
 refine AD.opN rfl rfl rfl (ltb rfl) rfl rfl ?_
 refine AD.opN rfl rfl rfl (ltb rfl) rfl rfl ?_
 refine AD.opN rfl rfl rfl (ltb rfl) rfl rfl ?_
 refine AD.op [75, 81] rfl (by kernel_rfl) rfl rfl (fun _ _ h => AOp.pickN rfl rfl (ltb rfl) rfl rfl rfl h) ?_
 refine AD.op [82] rfl (by kernel_rfl) rfl rfl (fun _ _ h => AOp.move rfl rfl (ltb rfl) rfl h) ?_
 refine AD.opN rfl rfl rfl (ltb rfl) rfl rfl ?_
 refine AD.opN rfl rfl rfl (ltb rfl) rfl rfl ?_
 refine AD.opN rfl rfl rfl (ltb rfl) rfl rfl ?_
 refine AD.opN rfl rfl rfl (ltb rfl) rfl rfl ?_
 refine AD.opN rfl rfl rfl (ltb rfl) rfl rfl ?_
 refine AD.opN rfl rfl rfl (ltb rfl) rfl rfl ?_
 refine AD.op [83, 89] rfl (by kernel_rfl) rfl rfl (fun _ _ h => AOp.pickN rfl rfl (ltb rfl) rfl rfl rfl h) ?_
 refine AD.op [90] rfl (by kernel_rfl) rfl rfl (fun _ _ h => AOp.move rfl rfl (ltb rfl) rfl h) ?_
 refine AD.opN rfl rfl rfl (ltb rfl) rfl rfl ?_
 refine AD.opN rfl rfl rfl (ltb rfl) rfl rfl ?_
 refine AD.opN rfl rfl rfl (ltb rfl) rfl rfl ?_
 refine AD.opN rfl rfl rfl (ltb rfl) rfl rfl ?_
 refine AD.opN rfl rfl rfl (ltb rfl) rfl rfl ?_
 refine AD.opN rfl rfl rfl (ltb rfl) rfl rfl ?_
 refine AD.op [91, 97] rfl (by kernel_rfl) rfl rfl (fun _ _ h => AOp.pickN rfl rfl (ltb rfl) rfl rfl rfl h) ?_
 refine AD.op [98] rfl (by kernel_rfl) rfl rfl (fun _ _ h => AOp.assign rfl rfl (ltb rfl) rfl h) ?_
 refine AD.done ?_
 refine AO.nil ?_
 change AC _ _ _ _
 refine AC.ret ?_
 change RetQ _ _ _ .ret _
 obtain rfl := Option.some.inj h0
 refine retq rfl rfl

end Go.Proofs.YtohgipjhcgblfaaGreat.Wk
