/- Proved: more of it. -/
import Derived.Test.YtdchenbdnalbcaaGreatDoorWPf_2
namespace Go.Proofs.YtdchenbdnalbcaaGreatDoor.Wk
open Go.Vm
set_option linter.unusedVariables false
set_option linter.unusedSimpArgs false
set_option maxRecDepth 100000 in
/-- pub-orthodrome/spec.Finite -/
theorem finite (x : Nat) : FnD Tryz.prog 66 [dfl x] (fun r => r = dbool (Flt.isFin x)) := by
 refine FnD.of (by kernel_rfl) Tryz.func66 rfl Tryz.ntmps66 rfl (leb rfl) fun W ok => ?_
 refine AC.seq ?_
 refine AC.region ?_
 refine AO.op rfl (AOp.assign rfl rfl (ltb rfl) rfl ?_)
 refine AO.nil ?_
 change AC _ _ _ _
 refine AC.seq ?_
 refine AC.region ?_
 refine AO.op rfl (AOp.move rfl rfl (ltb rfl) rfl ?_)
 refine AO.op rfl (AOp.move rfl rfl (ltb rfl) rfl ?_)
 refine AO.op rfl (AOp.farithA (by simp) rfl rfl (ltb rfl) rfl rfl ?_)
 rintro z1_2 hz1_2
 refine AO.op rfl (AOp.feql rfl rfl (ltb rfl) rfl rfl ?_)
 refine AO.op rfl (AOp.assign rfl rfl (ltb rfl) rfl ?_)
 refine AO.nil ?_
 change AC _ _ _ _
 refine AC.ret ?_
 change RetQ _ _ _ .ret _
 refine retq rfl ?_
 rw [fin_of hz1_2]

set_option maxRecDepth 100000 in
set_option maxHeartbeats 4000000 in
/-- pub-orthodrome/laws.nearRatio -/
theorem w_nearRatio (F : Nat) (a0 : Nat) (a1 : TSpec_Ratio) (a2 : Int) (r0 : Bool) (h0 : p_nearRatio F a0 a1 a2 = some r0) : FnD Tryz.prog 26 [dfl a0, e_TSpec_Ratio a1, di .i64 a2] (fun r => r = dbool r0) := by
 refine FnD.of (by kernel_rfl) Tryz.func26 rfl Tryz.ntmps26 rfl (leb rfl) fun W ok => ?_
 unfold p_nearRatio at h0
 refine AC.seq ?_
 refine AC.region ?_
 refine AO.op rfl (AOp.box rfl rfl (ltb rfl) rfl rfl ?_)
 refine AO.op rfl (AOp.assign rfl rfl (ltb rfl) rfl ?_)
 refine AO.nil ?_
 change AC _ _ _ _
 refine AC.seq ?_
 refine AC.draw 20 mixed (by kernel_rfl) ?_
 refine AD.op [0] rfl (by kernel_rfl) rfl rfl (fun _ _ h => AOp.move rfl rfl (ltb rfl) rfl h) ?_
 refine AD.op [7] rfl (by kernel_rfl) rfl rfl (fun _ _ h => AOp.callD rfl rfl (ltb rfl) rfl rfl (finite a0) (by rintro _ rfl; exact h)) ?_
 refine AD.op [8] rfl (by kernel_rfl) rfl rfl (fun _ _ h => AOp.move rfl rfl (ltb rfl) rfl h) ?_
 refine AD.dec (Flt.isFin a0) (fun q1 => ?_) (fun q1 => ?_)
 ·replace h0 := cT h0 q1
  refine AD.opY [0, 9] rfl rfl rfl q1 (by kernel_rfl) rfl rfl (fun _ _ h => AOp.move rfl rfl (ltb rfl) rfl h) ?_
  obtain ⟨y2, q3, h0⟩ := bind_elim h0
  refine AD.opY [9, 10] rfl rfl rfl q1 (by kernel_rfl) rfl rfl (fun _ _ h => AOp.callD rfl rfl (ltb rfl) rfl rfl (w_DyadicOf F a0 y2 q3) (by rintro _ rfl; exact h)) ?_
  refine AD.opY [4, 9] rfl rfl rfl q1 (by kernel_rfl) rfl rfl (fun _ _ h => AOp.fieldAddr rfl rfl (ltb rfl) rfl fo32_1 h) ?_
  refine AD.opY [9, 12] rfl rfl rfl q1 (by kernel_rfl) rfl rfl (fun _ _ h => AOp.loadN rfl rfl (ltb rfl) rfl agg30 size30 rfl (leb rfl) rfl h) ?_
  obtain ⟨y4, q5, h0⟩ := bind_elim h0
  refine AD.opY [9, 11, 13] rfl rfl rfl q1 (by kernel_rfl) rfl rfl (fun _ _ h => AOp.callD rfl rfl (ltb rfl) rfl rfl (w_Dyadic_Mul F y2 a1.D y4 q5) (by rintro _ rfl; exact h)) ?_
  refine AD.opY [4, 9] rfl rfl rfl q1 (by kernel_rfl) rfl rfl (fun _ _ h => AOp.fieldAddr rfl rfl (ltb rfl) rfl fo32_0 h) ?_
  refine AD.opY [9, 15] rfl rfl rfl q1 (by kernel_rfl) rfl rfl (fun _ _ h => AOp.loadN rfl rfl (ltb rfl) rfl agg30 size30 rfl (leb rfl) rfl h) ?_
  obtain ⟨y6, q7, h0⟩ := bind_elim h0
  refine AD.opY [9, 14, 16] rfl rfl rfl q1 (by kernel_rfl) rfl rfl (fun _ _ h => AOp.callD rfl rfl (ltb rfl) rfl rfl (w_Dyadic_Sub F y4 a1.N y6 q7) (by rintro _ rfl; exact h)) ?_
  obtain ⟨y8, q9, h0⟩ := bind_elim h0
  refine AD.opY [9, 17] rfl rfl rfl q1 (by kernel_rfl) rfl rfl (fun _ _ h => AOp.callD rfl rfl (ltb rfl) rfl rfl (w_Dyadic_Abs y6 y8 q9) (by rintro _ rfl; exact h)) ?_
  refine AD.opY [4, 9] rfl rfl rfl q1 (by kernel_rfl) rfl rfl (fun _ _ h => AOp.fieldAddr rfl rfl (ltb rfl) rfl fo32_1 h) ?_
  refine AD.opY [9, 19] rfl rfl rfl q1 (by kernel_rfl) rfl rfl (fun _ _ h => AOp.loadN rfl rfl (ltb rfl) rfl agg30 size30 rfl (leb rfl) rfl h) ?_
  refine AD.opY [2, 9] rfl rfl rfl q1 (by kernel_rfl) rfl rfl (fun _ _ h => AOp.move rfl rfl (ltb rfl) rfl h) ?_
  obtain ⟨y10, q11, h0⟩ := bind_elim h0
  refine AD.opY [9, 20, 21] rfl rfl rfl q1 (by kernel_rfl) rfl rfl (fun _ _ h => AOp.callD rfl rfl (ltb rfl) rfl rfl (w_Dyadic_Shift a1.D a2 y10 q11) (by rintro _ rfl; exact h)) ?_
  obtain ⟨y12, q13, h0⟩ := bind_elim h0
  refine AD.opY [9, 18, 22] rfl rfl rfl q1 (by kernel_rfl) rfl rfl (fun _ _ h => AOp.callD rfl rfl (ltb rfl) rfl rfl (w_Dyadic_Cmp F y8 y10 y12 q13) (by rintro _ rfl; exact h)) ?_
  refine AD.opY [9, 23] rfl rfl rfl q1 (by kernel_rfl) rfl rfl (fun _ _ h => AOp.ilss rfl rfl (ltb rfl) rfl rfl h) ?_
  refine AD.op [9, 24] rfl (by kernel_rfl) rfl rfl (fun _ _ h => AOp.pick rfl rfl (ltb rfl) rfl q1 rfl h) ?_
  refine AD.op [25] rfl (by kernel_rfl) rfl rfl (fun _ _ h => AOp.assign rfl rfl (ltb rfl) rfl h) ?_
  refine AD.done ?_
  refine AO.nil ?_
  change AC _ _ _ _
  refine AC.ret ?_
  change RetQ _ _ _ .ret _
  obtain rfl := Option.some.inj h0
  refine retq rfl rfl
 replace h0 := cF h0 q1
 refine AD.opN rfl rfl rfl (ltb rfl) rfl q1 ?_
 refine AD.opN rfl rfl rfl (ltb rfl) rfl q1 ?_
 refine AD.opN rfl rfl rfl (ltb rfl) rfl q1 ?_
 refine AD.opN rfl rfl rfl (ltb rfl) rfl q1 ?_
 refine AD.opN rfl rfl rfl (ltb rfl) rfl q1 ?_
 refine AD.opN rfl rfl rfl (ltb rfl) rfl q1 ?_
 refine AD.opN rfl rfl rfl (ltb rfl) rfl q1 ?_
 refine AD.opN rfl rfl rfl (ltb rfl) rfl q1 ?_
 refine AD.opN rfl rfl rfl (ltb rfl) rfl q1 ?_
 refine AD.opN rfl rfl rfl (ltb rfl) rfl q1 ?_
 refine AD.opN rfl rfl rfl (ltb rfl) rfl q1 ?_
 refine AD.opN rfl rfl rfl (ltb rfl) rfl q1 ?_
 refine AD.opN rfl rfl rfl (ltb rfl) rfl q1 ?_
 refine AD.opN rfl rfl rfl (ltb rfl) rfl q1 ?_
 refine AD.opN rfl rfl rfl (ltb rfl) rfl q1 ?_
 refine AD.op [9, 24] rfl (by kernel_rfl) rfl rfl (fun _ _ h => AOp.pickN rfl rfl (ltb rfl) rfl q1 rfl h) ?_
 refine AD.op [25] rfl (by kernel_rfl) rfl rfl (fun _ _ h => AOp.assign rfl rfl (ltb rfl) rfl h) ?_
 refine AD.done ?_
 refine AO.nil ?_
 change AC _ _ _ _
 refine AC.ret ?_
 change RetQ _ _ _ .ret _
 obtain rfl := Option.some.inj h0
 refine retq rfl rfl

set_option maxRecDepth 100000 in
set_option maxHeartbeats 4000000 in
/-- pub-orthodrome/laws.centred -/
theorem w_centred (F : Nat) (a0 : (List Nat)) (a1 : TSpec_Ratio) (a2 : TSpec_Ratio) (a3 : Int) (r0 : Bool) (h0 : p_centred F a0 a1 a2 a3 = some r0) : FnD Tryz.prog 9 [eS1 a0, e_TSpec_Ratio a1, e_TSpec_Ratio a2, di .i64 a3] (fun r => r = dbool r0) := by
 refine FnD.of (by kernel_rfl) Tryz.func9 rfl Tryz.ntmps9 rfl (leb rfl) fun W ok => ?_
 unfold p_centred at h0
 refine AC.seq ?_
 refine AC.region ?_
 refine AO.op rfl (AOp.box rfl rfl (ltb rfl) rfl rfl ?_)
 refine AO.op rfl (AOp.box rfl rfl (ltb rfl) rfl rfl ?_)
 refine AO.op rfl (AOp.assign rfl rfl (ltb rfl) rfl ?_)
 refine AO.nil ?_
 change AC _ _ _ _
 refine AC.seq ?_
 refine AC.joinP (V := Bool) [0] [34] 2 (fun g1 => [(34, .d (dbool g1))]) (fun g1 => [.fix 32 [.d (dbool a1.N.N.Neg), .d (eS4 a1.N.N.L), .d (di .i64 a1.N.E), .d (dbool a1.D.N.Neg), .d (eS4 a1.D.N.L), .d (di .i64 a1.D.E)], .fix 32 [.d (dbool a2.N.N.Neg), .d (eS4 a2.N.N.L), .d (di .i64 a2.N.E), .d (dbool a2.D.N.Neg), .d (eS4 a2.D.N.L), .d (di .i64 a2.D.E)]]) (fun g1 => (p_centred_k1 a0 F) g1 = some r0) rfl ?_ ?_
 ·refine AC.draw 24 mixed (by kernel_rfl) ?_
  refine AD.op [0] rfl (by kernel_rfl) rfl rfl (fun _ _ h => AOp.move rfl rfl (ltb rfl) rfl h) ?_
  refine AD.op [11] rfl (by kernel_rfl) rfl rfl (fun _ _ h => AOp.lenDs (n := a0.length) (cells := (List.map keS1 a0)) rfl rfl (ltb rfl) rfl el40 (by decide) (len1 _ _) h) ?_
  refine AD.op [3] rfl (by kernel_rfl) rfl rfl (fun _ _ h => AOp.move rfl rfl (ltb rfl) rfl h) ?_
  refine AD.op [12, 13] rfl (by kernel_rfl) rfl rfl (fun _ _ h => AOp.ineq rfl rfl (ltb rfl) rfl rfl h) ?_
  refine AD.op [14] rfl (by kernel_rfl) rfl rfl (fun _ _ h => AOp.move rfl rfl (ltb rfl) rfl h) ?_
  refine AD.dec (!decide (((a0.length : Nat) : Int) = a3)) (fun q15 => ?_) (fun q15 => ?_)
  ·replace h0 := cT h0 q15
   refine AD.opN rfl rfl rfl (ltb rfl) rfl q15 ?_
   refine AD.opN rfl rfl rfl (ltb rfl) rfl q15 ?_
   refine AD.op [15, 17] rfl (by kernel_rfl) rfl rfl (fun _ _ h => AOp.pick rfl rfl (ltb rfl) rfl q15 rfl h) ?_
   refine AD.op [18] rfl (by kernel_rfl) rfl rfl (fun _ _ h => AOp.move rfl rfl (ltb rfl) rfl h) ?_
   refine AD.opN rfl rfl rfl (ltb rfl) rfl rfl ?_
   refine AD.opN rfl rfl rfl (ltb rfl) rfl rfl ?_
   refine AD.opN rfl rfl rfl (ltb rfl) rfl rfl ?_
   refine AD.opN rfl rfl rfl (ltb rfl) rfl rfl ?_
   refine AD.opN rfl rfl rfl (ltb rfl) rfl rfl ?_
   refine AD.opN rfl rfl rfl (ltb rfl) rfl rfl ?_
   refine AD.op [19, 25] rfl (by kernel_rfl) rfl rfl (fun _ _ h => AOp.pick rfl rfl (ltb rfl) rfl rfl rfl h) ?_
   refine AD.op [26] rfl (by kernel_rfl) rfl rfl (fun _ _ h => AOp.move rfl rfl (ltb rfl) rfl h) ?_
   refine AD.opN rfl rfl rfl (ltb rfl) rfl rfl ?_
   refine AD.opN rfl rfl rfl (ltb rfl) rfl rfl ?_
   refine AD.opN rfl rfl rfl (ltb rfl) rfl rfl ?_
   refine AD.opN rfl rfl rfl (ltb rfl) rfl rfl ?_
   refine AD.opN rfl rfl rfl (ltb rfl) rfl rfl ?_
   refine AD.opN rfl rfl rfl (ltb rfl) rfl rfl ?_
   refine AD.op [27, 33] rfl (by kernel_rfl) rfl rfl (fun _ _ h => AOp.pick rfl rfl (ltb rfl) rfl rfl rfl h) ?_
   refine AD.done ?_
   refine AO.nil ?_
   exact ⟨true, _, rfl, (LeL.refl _), rfl, rfl, h0⟩
  replace h0 := cF h0 q15
  refine AD.opY [3, 15] rfl rfl rfl q15 (by kernel_rfl) rfl rfl (fun _ _ h => AOp.move rfl rfl (ltb rfl) rfl h) ?_
  refine AD.opY [15, 16] rfl rfl rfl q15 (by kernel_rfl) rfl rfl (fun _ _ h => AOp.ilss rfl rfl (ltb rfl) rfl rfl h) ?_
  refine AD.op [15, 17] rfl (by kernel_rfl) rfl rfl (fun _ _ h => AOp.pickN rfl rfl (ltb rfl) rfl q15 rfl h) ?_
  refine AD.op [18] rfl (by kernel_rfl) rfl rfl (fun _ _ h => AOp.move rfl rfl (ltb rfl) rfl h) ?_
  refine AD.dec (decide (a3 < (2 : Int))) (fun q16 => ?_) (fun q16 => ?_)
  ·replace h0 := cT h0 q16
   refine AD.opN rfl rfl rfl (ltb rfl) rfl q16 ?_
   refine AD.opN rfl rfl rfl (ltb rfl) rfl q16 ?_
   refine AD.opN rfl rfl rfl (ltb rfl) rfl q16 ?_
   refine AD.opN rfl rfl rfl (ltb rfl) rfl q16 ?_
   refine AD.opN rfl rfl rfl (ltb rfl) rfl q16 ?_
   refine AD.opN rfl rfl rfl (ltb rfl) rfl q16 ?_
   refine AD.op [19, 25] rfl (by kernel_rfl) rfl rfl (fun _ _ h => AOp.pick rfl rfl (ltb rfl) rfl q16 rfl h) ?_
   refine AD.op [26] rfl (by kernel_rfl) rfl rfl (fun _ _ h => AOp.move rfl rfl (ltb rfl) rfl h) ?_
   refine AD.opN rfl rfl rfl (ltb rfl) rfl rfl ?_
   refine AD.opN rfl rfl rfl (ltb rfl) rfl rfl ?_
   refine AD.opN rfl rfl rfl (ltb rfl) rfl rfl ?_
   refine AD.opN rfl rfl rfl (ltb rfl) rfl rfl ?_
   refine AD.opN rfl rfl rfl (ltb rfl) rfl rfl ?_
   refine AD.opN rfl rfl rfl (ltb rfl) rfl rfl ?_
   refine AD.op [27, 33] rfl (by kernel_rfl) rfl rfl (fun _ _ h => AOp.pick rfl rfl (ltb rfl) rfl rfl rfl h) ?_
   refine AD.done ?_
   refine AO.nil ?_
   exact ⟨true, _, rfl, (LeL.refl _), rfl, rfl, h0⟩
  replace h0 := cF h0 q16
  refine AD.opY [0, 19] rfl rfl rfl q16 (by kernel_rfl) rfl rfl (fun _ _ h => AOp.move rfl rfl (ltb rfl) rfl h) ?_
  obtain ⟨x17, q18, h0⟩ := idx_elim h0
  refine AD.opY [19, 20] rfl rfl rfl q16 (by kernel_rfl) rfl rfl (fun _ _ h => AOp.indexDs (cells := (List.map keS1 a0)) rfl rfl (ltb rfl) rfl rfl el40 (by decide) q18.1 (lt1 q18.2) h) ?_
  refine AD.opY [19, 21] rfl rfl rfl q16 (by kernel_rfl) rfl rfl (fun _ _ h => AOp.loadEp rfl rfl (ltb rfl) rfl agg54 (at1 q18.2) h) ?_
  refine AD.opY [5, 19] rfl rfl rfl q16 (by kernel_rfl) rfl rfl (fun _ _ h => AOp.loadN rfl rfl (ltb rfl) rfl agg32 size32 rfl (leb rfl) rfl h) ?_
  obtain ⟨y19, q20, h0⟩ := bind_elim h0
  refine AD.opY [19, 22, 23] rfl rfl rfl q16 (by kernel_rfl) rfl rfl (fun _ _ h => AOp.callD rfl rfl (ltb rfl) rfl rfl (w_nearRatio F x17 a1 (-20 : Int) y19 q20) (by rintro _ rfl; exact h)) ?_
  refine AD.opY [19, 24] rfl rfl rfl q16 (by kernel_rfl) rfl rfl (fun _ _ h => AOp.bnot rfl rfl (ltb rfl) rfl h) ?_
  refine AD.op [19, 25] rfl (by kernel_rfl) rfl rfl (fun _ _ h => AOp.pickN rfl rfl (ltb rfl) rfl q16 rfl h) ?_
  refine AD.op [26] rfl (by kernel_rfl) rfl rfl (fun _ _ h => AOp.move rfl rfl (ltb rfl) rfl h) ?_
  refine AD.dec (!y19) (fun q21 => ?_) (fun q21 => ?_)
  ·replace h0 := cT h0 q21
   refine AD.opN rfl rfl rfl (ltb rfl) rfl q21 ?_
   refine AD.opN rfl rfl rfl (ltb rfl) rfl q21 ?_
   refine AD.opN rfl rfl rfl (ltb rfl) rfl q21 ?_
   refine AD.opN rfl rfl rfl (ltb rfl) rfl q21 ?_
   refine AD.opN rfl rfl rfl (ltb rfl) rfl q21 ?_
   refine AD.opN rfl rfl rfl (ltb rfl) rfl q21 ?_
   refine AD.op [27, 33] rfl (by kernel_rfl) rfl rfl (fun _ _ h => AOp.pick rfl rfl (ltb rfl) rfl q21 rfl h) ?_
   refine AD.done ?_
   refine AO.nil ?_
   exact ⟨true, _, rfl, (LeL.refl _), rfl, rfl, h0⟩
  replace h0 := cF h0 q21
  refine AD.opY [0, 27] rfl rfl rfl q21 (by kernel_rfl) rfl rfl (fun _ _ h => AOp.move rfl rfl (ltb rfl) rfl h) ?_
  obtain ⟨x22, q23, h0⟩ := idx_elim h0
  refine AD.opY [27, 28] rfl rfl rfl q21 (by kernel_rfl) rfl rfl (fun _ _ h => AOp.indexDs (cells := (List.map keS1 a0)) rfl rfl (ltb rfl) rfl rfl el40 (by decide) q23.1 (lt1 q23.2) h) ?_
  refine AD.opY [27, 29] rfl rfl rfl q21 (by kernel_rfl) rfl rfl (fun _ _ h => AOp.loadEp rfl rfl (ltb rfl) rfl agg54 (at1 q23.2) h) ?_
  refine AD.opY [6, 27] rfl rfl rfl q21 (by kernel_rfl) rfl rfl (fun _ _ h => AOp.loadN rfl rfl (ltb rfl) rfl agg32 size32 rfl (leb rfl) rfl h) ?_
  obtain ⟨y24, q25, h0⟩ := bind_elim h0
  refine AD.opY [27, 30, 31] rfl rfl rfl q21 (by kernel_rfl) rfl rfl (fun _ _ h => AOp.callD rfl rfl (ltb rfl) rfl rfl (w_nearRatio F x22 a2 (-20 : Int) y24 q25) (by rintro _ rfl; exact h)) ?_
  refine AD.opY [27, 32] rfl rfl rfl q21 (by kernel_rfl) rfl rfl (fun _ _ h => AOp.bnot rfl rfl (ltb rfl) rfl h) ?_
  refine AD.op [27, 33] rfl (by kernel_rfl) rfl rfl (fun _ _ h => AOp.pickN rfl rfl (ltb rfl) rfl q21 rfl h) ?_
  refine AD.done ?_
  refine AO.nil ?_
  exact ⟨(!y24), _, rfl, (LeL.refl _), rfl, rfl, h0⟩
 intro g1 h0
 unfold p_centred_k1 at h0
 refine AC.cond rfl (fun q2 => ?_) (fun q2 => ?_)
 ·replace h0 := cT h0 q2
  refine AC.seq ?_
  refine AC.region ?_
  refine AO.op rfl (AOp.assign rfl rfl (ltb rfl) rfl ?_)
  refine AO.nil ?_
  change AC _ _ _ _
  refine AC.ret ?_
  change RetQ _ _ _ .ret _
  obtain rfl := Option.some.inj h0
  refine retq rfl rfl
 replace h0 := cF h0 q2
 refine AC.skip ?_
 change AC _ _ _ _
 refine AC.seq ?_
 refine AC.seq ?_
 refine AC.region ?_
 refine AO.op rfl (AOp.move rfl rfl (ltb rfl) rfl ?_)
 obtain ⟨q3, h0⟩ := need_elim h0
 refine AO.op rfl (AOp.sliceD (cells := (List.map keS1 a0)) (n := a0.length) (l := ((2 : Int)).toNat) (hh := a0.length) rfl rfl (ltb rfl) rfl (.inr ⟨_, _, _, rfl, rfl, q3.1.1, rfl⟩) (.inl ⟨rfl, rfl⟩) el40 (by decide) (len1 _ _) q3.2.1 q3.2.2 (sub1 _ _ _ _) ?_)
 refine AO.op rfl (AOp.lenDs (n := ((a0.drop ((2 : Int)).toNat).take (a0.length - ((2 : Int)).toNat)).length) (cells := (List.map keS1 ((a0.drop ((2 : Int)).toNat).take (a0.length - ((2 : Int)).toNat)))) rfl rfl (ltb rfl) rfl el40 (by decide) (len1 _ _) ?_)
 refine AO.op rfl (AOp.move rfl rfl (ltb rfl) rfl ?_)
 refine AO.nil ?_
 change AC _ _ _ _
 obtain ⟨o4, l5, h0⟩ := bind_elim h0
 refine AC.joinE (V := Unit) [] [] 2 (fun g6 => []) (fun g6 => [.fix 32 [.d (dbool a1.N.N.Neg), .d (eS4 a1.N.N.L), .d (di .i64 a1.N.E), .d (dbool a1.D.N.Neg), .d (eS4 a1.D.N.L), .d (di .i64 a1.D.E)], .fix 32 [.d (dbool a2.N.N.Neg), .d (eS4 a2.N.N.L), .d (di .i64 a2.N.E), .d (dbool a2.D.N.Neg), .d (eS4 a2.D.N.L), .d (di .i64 a2.D.E)]]) (fun g6 => p_centred_k2 g6 = some r0) rfl ?_ ?_
 ·refine AC.block ?_
  refine AC.loopP (V := Int) (p_centred_l3 a0) o4 [36, 37] [38] 2 (fun g7 => [(38, .d (di .i64 g7))]) (fun g7 => [.fix 32 [.d (dbool a1.N.N.Neg), .d (eS4 a1.N.N.L), .d (di .i64 a1.N.E), .d (dbool a1.D.N.Neg), .d (eS4 a1.D.N.L), .d (di .i64 a1.D.E)], .fix 32 [.d (dbool a2.N.N.Neg), .d (eS4 a2.N.N.L), .d (di .i64 a2.N.E), .d (dbool a2.D.N.Neg), .d (eS4 a2.D.N.L), .d (di .i64 a2.D.E)]]) F (0 : Int) l5 rfl rfl (LeL.refl _) rfl rfl ?_
  intro n9 g7 h1
  unfold p_centred_l3 at h1
  refine AC.seq ?_
  refine AC.region ?_
  refine AO.op rfl (AOp.ilss rfl rfl (ltb rfl) rfl rfl ?_)
  refine AO.nil ?_
  change AC _ _ _ _
  refine AC.seq ?_
  refine AC.cond rfl (fun q10 => ?_) (fun q10 => ?_)
  ·replace h1 := cT h1 q10
   refine AC.skip ?_
   change AC _ _ _ _
   refine AC.seq ?_
   refine AC.block ?_
   refine AC.seq ?_
   refine AC.region ?_
   obtain ⟨x11, q12, h1⟩ := idx_elim h1
   refine AO.op rfl (AOp.indexDs (cells := (List.map keS1 ((a0.drop ((2 : Int)).toNat).take (a0.length - ((2 : Int)).toNat)))) rfl rfl (ltb rfl) rfl rfl el40 (by decide) q12.1 (lt1 q12.2) ?_)
   refine AO.op rfl (AOp.loadEp rfl rfl (ltb rfl) rfl agg54 (at1 q12.2) ?_)
   refine AO.op rfl (AOp.assign rfl rfl (ltb rfl) rfl ?_)
   refine AO.nil ?_
   change AC _ _ _ _
   refine AC.seq ?_
   refine AC.region ?_
   refine AO.op rfl (AOp.move rfl rfl (ltb rfl) rfl ?_)
   refine AO.op rfl (AOp.fneq rfl rfl (ltb rfl) rfl rfl ?_)
   refine AO.nil ?_
   change AC _ _ _ _
   refine AC.cond rfl (fun q13 => ?_) (fun q13 => ?_)
   ·replace h1 := cT h1 q13
    refine AC.seq ?_
    refine AC.region ?_
    refine AO.op rfl (AOp.assign rfl rfl (ltb rfl) rfl ?_)
    refine AO.nil ?_
    change AC _ _ _ _
    refine AC.ret ?_
    change RetQ _ _ _ .ret _
    obtain rfl := Option.some.inj h1
    replace h0 := aftR h0
    obtain rfl := Option.some.inj h0
    refine retq rfl rfl
   replace h1 := cF h1 q13
   refine AC.skip ?_
   change AC _ _ _ _
   refine AC.region ?_
   obtain ⟨q14, h1⟩ := need_elim h1
   refine AO.op rfl (AOp.iadd rfl rfl (ltb rfl) rfl rfl rfl q14.1 q14.2 ?_)
   refine AO.op rfl (AOp.move rfl rfl (ltb rfl) rfl ?_)
   refine AO.nil ?_
   exact ⟨(g7 + (1 : Int)), _, rfl, (LeL.refl _), rfl, rfl, h1⟩
  replace h1 := cF h1 q10
  refine AC.exit ?_
  obtain rfl := Option.some.inj h1
  exact ⟨(), _, rfl, (LeL.refl _), rfl, rfl, aftL h0⟩
 intro g6 h0
 unfold p_centred_k2 at h0
 change AC _ _ _ _
 refine AC.seq ?_
 refine AC.region ?_
 refine AO.op rfl (AOp.assign rfl rfl (ltb rfl) rfl ?_)
 refine AO.nil ?_
 change AC _ _ _ _
 refine AC.ret ?_
 change RetQ _ _ _ .ret _
 obtain rfl := Option.some.inj h0
 refine retq rfl rfl

set_option maxRecDepth 100000 in
set_option maxHeartbeats 4000000 in
/-- pub-orthodrome/laws.FnPolygonsFlat -/
theorem w_FnPolygonsFlat (F : Nat) (a0 : Int) (a1 : (List TImpl_Geom)) (r0 : Bool) (h0 : p_FnPolygonsFlat F a0 a1 = some r0) : FnD Tryz.prog 3 [di .i64 a0, eS0 a1] (fun r => r = dbool r0) := by
 refine FnD.of (by kernel_rfl) Tryz.func3 rfl Tryz.ntmps3 rfl (leb rfl) fun W ok => ?_
 unfold p_FnPolygonsFlat at h0
 refine AC.seq ?_
 refine AC.region ?_
 refine AO.op rfl (AOp.assign rfl rfl (ltb rfl) rfl ?_)
 refine AO.nil ?_
 change AC _ _ _ _
 refine AC.seq ?_
 refine AC.seq ?_
 refine AC.region ?_
 refine AO.op rfl (AOp.move rfl rfl (ltb rfl) rfl ?_)
 refine AO.op rfl (AOp.lenDs (n := a1.length) (cells := (List.flatMap c0_TImpl_Geom a1)) rfl rfl (ltb rfl) rfl el22 (by decide) (lenN _ 7 c0_TImpl_Geom_len _) ?_)
 refine AO.op rfl (AOp.igtr rfl rfl (ltb rfl) rfl rfl ?_)
 refine AO.nil ?_
 change AC _ _ _ _
 refine AC.cond rfl (fun q1 => ?_) (fun q1 => ?_)
 ·replace h0 := cT h0 q1
  refine AC.seq ?_
  refine AC.region ?_
  refine AO.op rfl (AOp.assign rfl rfl (ltb rfl) rfl ?_)
  refine AO.nil ?_
  change AC _ _ _ _
  refine AC.ret ?_
  change RetQ _ _ _ .ret _
  obtain rfl := Option.some.inj h0
  refine retq rfl rfl
 replace h0 := cF h0 q1
 refine AC.skip ?_
 change AC _ _ _ _
 refine AC.seq ?_
 refine AC.region ?_
 refine AO.op rfl (AOp.move rfl rfl (ltb rfl) rfl ?_)
 refine AO.op rfl (AOp.move rfl rfl (ltb rfl) rfl ?_)
 obtain ⟨y2, q3, h0⟩ := bind_elim h0
 refine AO.op rfl (AOp.callD rfl rfl (ltb rfl) rfl rfl (w_kindred F (3 : Int) a0 a1 y2 q3) ?_)
 rintro _ rfl
 refine AO.op rfl (AOp.move rfl rfl (ltb rfl) rfl ?_)
 first | refine AO.op rfl (AOp.extractD rfl rfl (ltb rfl) rfl rfl ?_) | refine AO.op rfl (AOp.extract rfl rfl (ltb rfl) rfl rfl ?_)
 first | refine AO.op rfl (AOp.extractD rfl rfl (ltb rfl) rfl rfl ?_) | refine AO.op rfl (AOp.extract rfl rfl (ltb rfl) rfl rfl ?_)
 refine AO.op rfl (AOp.assign rfl rfl (ltb rfl) rfl ?_)
 refine AO.op rfl (AOp.assign rfl rfl (ltb rfl) rfl ?_)
 refine AO.nil ?_
 change AC _ _ _ _
 refine AC.seq ?_
 refine AC.region ?_
 refine AO.op rfl (AOp.move rfl rfl (ltb rfl) rfl ?_)
 obtain ⟨y4, q5, h0⟩ := bind_elim h0
 refine AO.op rfl (AOp.callD rfl rfl (ltb rfl) rfl rfl (w_LineCentroid F y2.1 y4 q5) ?_)
 rintro _ rfl
 refine AO.op rfl (AOp.move rfl rfl (ltb rfl) rfl ?_)
 first | refine AO.op rfl (AOp.extractD rfl rfl (ltb rfl) rfl rfl ?_) | refine AO.op rfl (AOp.extract rfl rfl (ltb rfl) rfl rfl ?_)
 first | refine AO.op rfl (AOp.extractD rfl rfl (ltb rfl) rfl rfl ?_) | refine AO.op rfl (AOp.extract rfl rfl (ltb rfl) rfl rfl ?_)
 first | refine AO.op rfl (AOp.extractD rfl rfl (ltb rfl) rfl rfl ?_) | refine AO.op rfl (AOp.extract rfl rfl (ltb rfl) rfl rfl ?_)
 refine AO.op rfl (AOp.alloc rfl rfl (ltb rfl) zero32 rfl ?_)
 refine AO.op rfl (AOp.alloc rfl rfl (ltb rfl) zero32 rfl ?_)
 refine AO.op rfl (AOp.store rfl rfl rfl rfl size32 rfl rfl rfl (leb rfl) ?_)
 refine AO.op rfl (AOp.store rfl rfl rfl rfl size32 rfl rfl rfl (leb rfl) ?_)
 refine AO.op rfl (AOp.assign rfl rfl (ltb rfl) rfl ?_)
 refine AO.nil ?_
 change AC _ _ _ _
 refine AC.seq ?_
 refine AC.joinP (V := Bool) [0, 1, 5, 7, 8] [38] 2 (fun g6 => [(38, .d (dbool g6))]) (fun g6 => [.fix 32 [.d (dbool y4.1.N.N.Neg), .d (eS4 y4.1.N.N.L), .d (di .i64 y4.1.N.E), .d (dbool y4.1.D.N.Neg), .d (eS4 y4.1.D.N.L), .d (di .i64 y4.1.D.E)], .fix 32 [.d (dbool y4.2.1.N.N.Neg), .d (eS4 y4.2.1.N.N.L), .d (di .i64 y4.2.1.N.E), .d (dbool y4.2.1.D.N.Neg), .d (eS4 y4.2.1.D.N.L), .d (di .i64 y4.2.1.D.E)]]) (fun g6 => (p_FnPolygonsFlat_k1 a0 a1 F y2 y4) g6 = some r0) rfl ?_ ?_
 ·refine AC.region ?_
  refine AO.op rfl (AOp.move rfl rfl (ltb rfl) rfl ?_)
  refine AO.op rfl (AOp.bnot rfl rfl (ltb rfl) rfl ?_)
  refine AO.op rfl (AOp.move rfl rfl (ltb rfl) rfl ?_)
  refine AO.dec (!y2.2) (fun q66 => ?_) (fun q66 => ?_)
  ·replace h0 := cT h0 q66
   refine AO.guardN rfl rfl rfl (ltb rfl) rfl q66 ?_
   refine AO.guardN rfl rfl rfl (ltb rfl) rfl q66 ?_
   refine AO.op rfl (AOp.pick rfl rfl (ltb rfl) rfl q66 rfl ?_)
   refine AO.nil ?_
   exact ⟨true, _, rfl, (LeL.refl _), rfl, rfl, h0⟩
  replace h0 := cF h0 q66
  refine AO.guardY rfl rfl rfl q66 (AOp.move rfl rfl (ltb rfl) rfl ?_)
  refine AO.guardY rfl rfl rfl q66 (AOp.bnot rfl rfl (ltb rfl) rfl ?_)
  refine AO.op rfl (AOp.pickN rfl rfl (ltb rfl) rfl q66 rfl ?_)
  refine AO.nil ?_
  exact ⟨(!y4.2.2), _, rfl, (LeL.refl _), rfl, rfl, h0⟩
 intro g6 h0
 unfold p_FnPolygonsFlat_k1 at h0
 refine AC.cond rfl (fun q7 => ?_) (fun q7 => ?_)
 ·replace h0 := cT h0 q7
  refine AC.seq ?_
  refine AC.region ?_
  refine AO.op rfl (AOp.assign rfl rfl (ltb rfl) rfl ?_)
  refine AO.nil ?_
  change AC _ _ _ _
  refine AC.ret ?_
  change RetQ _ _ _ .ret _
  obtain rfl := Option.some.inj h0
  refine retq rfl rfl
 replace h0 := cF h0 q7
 refine AC.skip ?_
 change AC _ _ _ _
 refine AC.seq ?_
 refine AC.seq ?_
 refine AC.region ?_
 refine AO.op rfl (AOp.move rfl rfl (ltb rfl) rfl ?_)
 refine AO.op rfl (AOp.lenDs (n := y2.1.length) (cells := (List.map keS7 y2.1)) rfl rfl (ltb rfl) rfl el23 (by decide) (len1 _ _) ?_)
 refine AO.op rfl (AOp.move rfl rfl (ltb rfl) rfl ?_)
 refine AO.nil ?_
 change AC _ _ _ _
 obtain ⟨o8, l9, h0⟩ := bind_elim h0
 refine AC.joinE (V := Unit) [0, 1, 7, 8] [] 2 (fun g10 => []) (fun g10 => [.fix 32 [.d (dbool y4.1.N.N.Neg), .d (eS4 y4.1.N.N.L), .d (di .i64 y4.1.N.E), .d (dbool y4.1.D.N.Neg), .d (eS4 y4.1.D.N.L), .d (di .i64 y4.1.D.E)], .fix 32 [.d (dbool y4.2.1.N.N.Neg), .d (eS4 y4.2.1.N.N.L), .d (di .i64 y4.2.1.N.E), .d (dbool y4.2.1.D.N.Neg), .d (eS4 y4.2.1.D.N.L), .d (di .i64 y4.2.1.D.E)]]) (fun g10 => (p_FnPolygonsFlat_k2 a0 a1 F y4) g10 = some r0) rfl ?_ ?_
 ·refine AC.block ?_
  refine AC.loopP (V := Int) (p_FnPolygonsFlat_l3 F y2) o8 [0, 1, 7, 8, 39, 40] [41] 2 (fun g18 => [(41, .d (di .i64 g18))]) (fun g18 => [.fix 32 [.d (dbool y4.1.N.N.Neg), .d (eS4 y4.1.N.N.L), .d (di .i64 y4.1.N.E), .d (dbool y4.1.D.N.Neg), .d (eS4 y4.1.D.N.L), .d (di .i64 y4.1.D.E)], .fix 32 [.d (dbool y4.2.1.N.N.Neg), .d (eS4 y4.2.1.N.N.L), .d (di .i64 y4.2.1.N.E), .d (dbool y4.2.1.D.N.Neg), .d (eS4 y4.2.1.D.N.L), .d (di .i64 y4.2.1.D.E)]]) F (0 : Int) l9 rfl rfl (LeL.refl _) rfl rfl ?_
  intro n20 g18 h1
  unfold p_FnPolygonsFlat_l3 at h1
  refine AC.seq ?_
  refine AC.region ?_
  refine AO.op rfl (AOp.ilss rfl rfl (ltb rfl) rfl rfl ?_)
  refine AO.nil ?_
  change AC _ _ _ _
  refine AC.seq ?_
  refine AC.cond rfl (fun q21 => ?_) (fun q21 => ?_)
  ·replace h1 := cT h1 q21
   refine AC.skip ?_
   change AC _ _ _ _
   refine AC.seq ?_
   refine AC.block ?_
   refine AC.seq ?_
   refine AC.region ?_
   obtain ⟨x22, q23, h1⟩ := idx_elim h1
   refine AO.op rfl (AOp.indexDs (cells := (List.map keS7 y2.1)) rfl rfl (ltb rfl) rfl rfl el23 (by decide) q23.1 (lt1 q23.2) ?_)
   refine AO.op rfl (AOp.loadEp rfl rfl (ltb rfl) rfl agg35 (at1 q23.2) ?_)
   refine AO.op rfl (AOp.assign rfl rfl (ltb rfl) rfl ?_)
   refine AO.nil ?_
   change AC _ _ _ _
   refine AC.seq ?_
   refine AC.joinP (V := Bool) [0, 1, 7, 8, 11, 39, 40, 41] [60] 2 (fun g24 => [(60, .d (dbool g24))]) (fun g24 => [.fix 32 [.d (dbool y4.1.N.N.Neg), .d (eS4 y4.1.N.N.L), .d (di .i64 y4.1.N.E), .d (dbool y4.1.D.N.Neg), .d (eS4 y4.1.D.N.L), .d (di .i64 y4.1.D.E)], .fix 32 [.d (dbool y4.2.1.N.N.Neg), .d (eS4 y4.2.1.N.N.L), .d (di .i64 y4.2.1.N.E), .d (dbool y4.2.1.D.N.Neg), .d (eS4 y4.2.1.D.N.L), .d (di .i64 y4.2.1.D.E)]]) (fun g24 => (p_FnPolygonsFlat_k4 F g18 (iter (p_FnPolygonsFlat_l3 F y2) n20) x22) g24 = some o8) rfl ?_ ?_
   ·refine AC.draw 16 mixed (by kernel_rfl) ?_
    refine AD.op [11] rfl (by kernel_rfl) rfl rfl (fun _ _ h => AOp.move rfl rfl (ltb rfl) rfl h) ?_
    refine AD.op [45] rfl (by kernel_rfl) rfl rfl (fun _ _ h => AOp.lenDs (n := x22.length) (cells := (List.flatMap c_TSpec_Point x22)) rfl rfl (ltb rfl) rfl el35 (by decide) (lenN _ 6 (fun _ => rfl) _) h) ?_
    refine AD.op [46] rfl (by kernel_rfl) rfl rfl (fun _ _ h => AOp.ilss rfl rfl (ltb rfl) rfl rfl h) ?_
    refine AD.op [47] rfl (by kernel_rfl) rfl rfl (fun _ _ h => AOp.move rfl rfl (ltb rfl) rfl h) ?_
    refine AD.dec (decide (((x22.length : Nat) : Int) < (4 : Int))) (fun q58 => ?_) (fun q58 => ?_)
    ·replace h1 := cT h1 q58
     refine AD.opN rfl rfl rfl (ltb rfl) rfl q58 ?_
     refine AD.opN rfl rfl rfl (ltb rfl) rfl q58 ?_
     refine AD.opN rfl rfl rfl (ltb rfl) rfl q58 ?_
     refine AD.opN rfl rfl rfl (ltb rfl) rfl q58 ?_
     refine AD.opN rfl rfl rfl (ltb rfl) rfl q58 ?_
     refine AD.opN rfl rfl rfl (ltb rfl) rfl q58 ?_
     refine AD.opN rfl rfl rfl (ltb rfl) rfl q58 ?_
     refine AD.opN rfl rfl rfl (ltb rfl) rfl q58 ?_
     refine AD.opN rfl rfl rfl (ltb rfl) rfl q58 ?_
     refine AD.opN rfl rfl rfl (ltb rfl) rfl q58 ?_
     refine AD.opN rfl rfl rfl (ltb rfl) rfl q58 ?_
     refine AD.op [48, 59] rfl (by kernel_rfl) rfl rfl (fun _ _ h => AOp.pick rfl rfl (ltb rfl) rfl q58 rfl h) ?_
     refine AD.done ?_
     refine AO.nil ?_
     exact ⟨true, _, rfl, (LeL.refl _), rfl, rfl, h1⟩
    replace h1 := cF h1 q58
    refine AD.opY [11, 48] rfl rfl rfl q58 (by kernel_rfl) rfl rfl (fun _ _ h => AOp.move rfl rfl (ltb rfl) rfl h) ?_
    obtain ⟨x59, q60, h1⟩ := idx_elim h1
    refine AD.opY [48, 49] rfl rfl rfl q58 (by kernel_rfl) rfl rfl (fun _ _ h => AOp.indexDs (cells := (List.flatMap c_TSpec_Point x22)) rfl rfl (ltb rfl) rfl rfl el35 (by decide) q60.1 (ltN 6 (fun _ => rfl) (by decide) q60.2) h) ?_
    refine AD.opY [48, 50] rfl rfl rfl q58 (by kernel_rfl) rfl rfl (fun _ _ h => AOp.loadEpN rfl rfl (ltb rfl) rfl agg38 size38 (leN 6 (fun _ => rfl) q60.2) (atN 6 (fun _ => rfl) q60.2) h) ?_
    refine AD.opY [11, 48] rfl rfl rfl q58 (by kernel_rfl) rfl rfl (fun _ _ h => AOp.move rfl rfl (ltb rfl) rfl h) ?_
    refine AD.opY [11, 48] rfl rfl rfl q58 (by kernel_rfl) rfl rfl (fun _ _ h => AOp.move rfl rfl (ltb rfl) rfl h) ?_
    refine AD.opY [48, 53] rfl rfl rfl q58 (by kernel_rfl) rfl rfl (fun _ _ h => AOp.lenDs (n := x22.length) (cells := (List.flatMap c_TSpec_Point x22)) rfl rfl (ltb rfl) rfl el35 (by decide) (lenN _ 6 (fun _ => rfl) _) h) ?_
    obtain ⟨q61, h1⟩ := need_elim h1
    refine AD.opY [48, 54] rfl rfl rfl q58 (by kernel_rfl) rfl rfl (fun _ _ h => AOp.isub rfl rfl (ltb rfl) rfl rfl rfl q61.1 q61.2 h) ?_
    obtain ⟨x62, q63, h1⟩ := idx_elim h1
    refine AD.opY [48, 52, 55] rfl rfl rfl q58 (by kernel_rfl) rfl rfl (fun _ _ h => AOp.indexDs (cells := (List.flatMap c_TSpec_Point x22)) rfl rfl (ltb rfl) rfl rfl el35 (by decide) q63.1 (ltN 6 (fun _ => rfl) (by decide) q63.2) h) ?_
    refine AD.opY [48, 56] rfl rfl rfl q58 (by kernel_rfl) rfl rfl (fun _ _ h => AOp.loadEpN rfl rfl (ltb rfl) rfl agg38 size38 (leN 6 (fun _ => rfl) q63.2) (atN 6 (fun _ => rfl) q63.2) h) ?_
    obtain ⟨y64, q65, h1⟩ := bind_elim h1
    refine AD.opY [48, 51, 57] rfl rfl rfl q58 (by kernel_rfl) rfl rfl (fun _ _ h => AOp.callD rfl rfl (ltb rfl) rfl rfl (w_Same F x59 x62 y64 q65) (by rintro _ rfl; exact h)) ?_
    refine AD.opY [48, 58] rfl rfl rfl q58 (by kernel_rfl) rfl rfl (fun _ _ h => AOp.bnot rfl rfl (ltb rfl) rfl h) ?_
    refine AD.op [48, 59] rfl (by kernel_rfl) rfl rfl (fun _ _ h => AOp.pickN rfl rfl (ltb rfl) rfl q58 rfl h) ?_
    refine AD.done ?_
    refine AO.nil ?_
    exact ⟨(!y64), _, rfl, (LeL.refl _), rfl, rfl, h1⟩
   intro g24 h1
   unfold p_FnPolygonsFlat_k4 at h1
   refine AC.cond rfl (fun q25 => ?_) (fun q25 => ?_)
   ·replace h1 := cT h1 q25
    refine AC.seq ?_
    refine AC.region ?_
    refine AO.op rfl (AOp.assign rfl rfl (ltb rfl) rfl ?_)
    refine AO.nil ?_
    change AC _ _ _ _
    refine AC.ret ?_
    change RetQ _ _ _ .ret _
    obtain rfl := Option.some.inj h1
    replace h0 := aftR h0
    obtain rfl := Option.some.inj h0
    refine retq rfl rfl
   replace h1 := cF h1 q25
   refine AC.skip ?_
   change AC _ _ _ _
   refine AC.seq ?_
   refine AC.region ?_
   refine AO.op rfl (AOp.assign rfl rfl (ltb rfl) rfl ?_)
   refine AO.op rfl (AOp.assign rfl rfl (ltb rfl) rfl ?_)
   refine AO.nil ?_
   change AC _ _ _ _
   refine AC.seq ?_
   refine AC.seq ?_
   refine AC.region ?_
   refine AO.op rfl (AOp.move rfl rfl (ltb rfl) rfl ?_)
   refine AO.op rfl (AOp.lenDs (n := x22.length) (cells := (List.flatMap c_TSpec_Point x22)) rfl rfl (ltb rfl) rfl el35 (by decide) (lenN _ 6 (fun _ => rfl) _) ?_)
   refine AO.op rfl (AOp.move rfl rfl (ltb rfl) rfl ?_)
   refine AO.nil ?_
   change AC _ _ _ _
   obtain ⟨o26, l27, h1⟩ := bind_elim h1
   refine AC.joinE (V := (Bool × Bool)) [0, 1, 7, 8, 39, 40, 41] [12, 13] 2 (fun g28 => [(12, .d (dbool g28.1)), (13, .d (dbool g28.2))]) (fun g28 => [.fix 32 [.d (dbool y4.1.N.N.Neg), .d (eS4 y4.1.N.N.L), .d (di .i64 y4.1.N.E), .d (dbool y4.1.D.N.Neg), .d (eS4 y4.1.D.N.L), .d (di .i64 y4.1.D.E)], .fix 32 [.d (dbool y4.2.1.N.N.Neg), .d (eS4 y4.2.1.N.N.L), .d (di .i64 y4.2.1.N.E), .d (dbool y4.2.1.D.N.Neg), .d (eS4 y4.2.1.D.N.L), .d (di .i64 y4.2.1.D.E)]]) (fun g28 => (p_FnPolygonsFlat_k5 g18 (iter (p_FnPolygonsFlat_l3 F y2) n20)) g28 = some o8) rfl ?_ ?_
   ·refine AC.block ?_
    refine AC.loopP (V := (Bool × Bool × Int)) (p_FnPolygonsFlat_l6 F x22) o26 [0, 1, 7, 8, 11, 39, 40, 41, 61, 62] [12, 13, 63] 2 (fun g33 => [(12, .d (dbool g33.1)), (13, .d (dbool g33.2.1)), (63, .d (di .i64 g33.2.2))]) (fun g33 => [.fix 32 [.d (dbool y4.1.N.N.Neg), .d (eS4 y4.1.N.N.L), .d (di .i64 y4.1.N.E), .d (dbool y4.1.D.N.Neg), .d (eS4 y4.1.D.N.L), .d (di .i64 y4.1.D.E)], .fix 32 [.d (dbool y4.2.1.N.N.Neg), .d (eS4 y4.2.1.N.N.L), .d (di .i64 y4.2.1.N.E), .d (dbool y4.2.1.D.N.Neg), .d (eS4 y4.2.1.D.N.L), .d (di .i64 y4.2.1.D.E)]]) F (true, true, (0 : Int)) l27 rfl rfl (LeL.refl _) rfl rfl ?_
    intro n35 g33 h2
    unfold p_FnPolygonsFlat_l6 at h2
    refine AC.seq ?_
    refine AC.region ?_
    refine AO.op rfl (AOp.ilss rfl rfl (ltb rfl) rfl rfl ?_)
    refine AO.nil ?_
    change AC _ _ _ _
    refine AC.seq ?_
    refine AC.cond rfl (fun q36 => ?_) (fun q36 => ?_)
    ·replace h2 := cT h2 q36
     refine AC.skip ?_
     change AC _ _ _ _
     refine AC.seq ?_
     refine AC.block ?_
     refine AC.seq ?_
     refine AC.region ?_
     obtain ⟨x37, q38, h2⟩ := idx_elim h2
     refine AO.op rfl (AOp.indexDs (cells := (List.flatMap c_TSpec_Point x22)) rfl rfl (ltb rfl) rfl rfl el35 (by decide) q38.1 (ltN 6 (fun _ => rfl) (by decide) q38.2) ?_)
     refine AO.op rfl (AOp.loadEpN rfl rfl (ltb rfl) rfl agg38 size38 (leN 6 (fun _ => rfl) q38.2) (atN 6 (fun _ => rfl) q38.2) ?_)
     refine AO.op rfl (AOp.alloc rfl rfl (ltb rfl) zero38 rfl ?_)
     refine AO.op rfl (AOp.store rfl rfl rfl rfl size38 rfl rfl rfl (leb rfl) ?_)
     refine AO.nil ?_
     change AC _ _ _ _
     refine AC.draw 24 mixed (by kernel_rfl) ?_
     refine AD.op [12] rfl (by kernel_rfl) rfl rfl (fun _ _ h => AOp.move rfl rfl (ltb rfl) rfl h) ?_
     refine AD.op [67] rfl (by kernel_rfl) rfl rfl (fun _ _ h => AOp.move rfl rfl (ltb rfl) rfl h) ?_
     refine AD.dec g33.1 (fun q39 => ?_) (fun q39 => ?_)
     ·replace h2 := cT h2 q39
      refine AD.opY [15, 68] rfl rfl rfl q39 (by kernel_rfl) rfl rfl (fun _ _ h => AOp.fieldAddr rfl rfl (ltb rfl) rfl fo38_1 h) ?_
      refine AD.opY [68, 69] rfl rfl rfl q39 (by kernel_rfl) rfl rfl (fun _ _ h => AOp.loadN rfl rfl (ltb rfl) rfl agg30 size30 rfl (leb rfl) rfl h) ?_
      refine AD.opY [11, 68] rfl rfl rfl q39 (by kernel_rfl) rfl rfl (fun _ _ h => AOp.move rfl rfl (ltb rfl) rfl h) ?_
      obtain ⟨x40, q41, h2⟩ := idx_elim h2
      refine AD.opY [68, 71] rfl rfl rfl q39 (by kernel_rfl) rfl rfl (fun _ _ h => AOp.indexDs (cells := (List.flatMap c_TSpec_Point x22)) rfl rfl (ltb rfl) rfl rfl el35 (by decide) q41.1 (ltN 6 (fun _ => rfl) (by decide) q41.2) h) ?_
      refine AD.opY [68, 72] rfl rfl rfl q39 (by kernel_rfl) rfl rfl (fun _ _ h => AOp.fieldAddrEp rfl rfl (ltb rfl) rfl fo38_1 h) ?_
      refine AD.opY [68, 73] rfl rfl rfl q39 (by kernel_rfl) rfl rfl (fun _ _ h => AOp.loadEpN rfl rfl (ltb rfl) rfl agg30 size30 (leNs 6 (fun _ => rfl) q41.2 3 3 (by decide)) (atNs 6 (fun _ => rfl) q41.2 3 3 (by decide) rfl) h) ?_
      obtain ⟨y42, q43, h2⟩ := bind_elim h2
      refine AD.opY [68, 70, 74] rfl rfl rfl q39 (by kernel_rfl) rfl rfl (fun _ _ h => AOp.callD rfl rfl (ltb rfl) rfl rfl (w_Dyadic_Cmp F x37.Y x40.Y y42 q43) (by rintro _ rfl; exact h)) ?_
      refine AD.opY [68, 75] rfl rfl rfl q39 (by kernel_rfl) rfl rfl (fun _ _ h => AOp.ieql rfl rfl (ltb rfl) rfl rfl h) ?_
      refine AD.op [68, 76] rfl (by kernel_rfl) rfl rfl (fun _ _ h => AOp.pick rfl rfl (ltb rfl) rfl q39 rfl h) ?_
      refine AD.op [13] rfl (by kernel_rfl) rfl rfl (fun _ _ h => AOp.move rfl rfl (ltb rfl) rfl h) ?_
      refine AD.op [78] rfl (by kernel_rfl) rfl rfl (fun _ _ h => AOp.move rfl rfl (ltb rfl) rfl h) ?_
      refine AD.dec g33.2.1 (fun q44 => ?_) (fun q44 => ?_)
      ·replace h2 := cT h2 q44
       refine AD.opY [15, 79] rfl rfl rfl q44 (by kernel_rfl) rfl rfl (fun _ _ h => AOp.fieldAddr rfl rfl (ltb rfl) rfl fo38_0 h) ?_
       refine AD.opY [79, 80] rfl rfl rfl q44 (by kernel_rfl) rfl rfl (fun _ _ h => AOp.loadN rfl rfl (ltb rfl) rfl agg30 size30 rfl (leb rfl) rfl h) ?_
       refine AD.opY [11, 79] rfl rfl rfl q44 (by kernel_rfl) rfl rfl (fun _ _ h => AOp.move rfl rfl (ltb rfl) rfl h) ?_
       obtain ⟨x45, q46, h2⟩ := idx_elim h2
       refine AD.opY [79, 82] rfl rfl rfl q44 (by kernel_rfl) rfl rfl (fun _ _ h => AOp.indexDs (cells := (List.flatMap c_TSpec_Point x22)) rfl rfl (ltb rfl) rfl rfl el35 (by decide) q46.1 (ltN 6 (fun _ => rfl) (by decide) q46.2) h) ?_
       refine AD.opY [79, 83] rfl rfl rfl q44 (by kernel_rfl) rfl rfl (fun _ _ h => AOp.fieldAddrEp rfl rfl (ltb rfl) rfl fo38_0 h) ?_
       refine AD.opY [79, 84] rfl rfl rfl q44 (by kernel_rfl) rfl rfl (fun _ _ h => AOp.loadEpN rfl rfl (ltb rfl) rfl agg30 size30 (leNs 6 (fun _ => rfl) q46.2 0 3 (by decide)) (atNs 6 (fun _ => rfl) q46.2 0 3 (by decide) rfl) h) ?_
       obtain ⟨y47, q48, h2⟩ := bind_elim h2
       refine AD.opY [79, 81, 85] rfl rfl rfl q44 (by kernel_rfl) rfl rfl (fun _ _ h => AOp.callD rfl rfl (ltb rfl) rfl rfl (w_Dyadic_Cmp F x37.X x45.X y47 q48) (by rintro _ rfl; exact h)) ?_
       refine AD.opY [79, 86] rfl rfl rfl q44 (by kernel_rfl) rfl rfl (fun _ _ h => AOp.ieql rfl rfl (ltb rfl) rfl rfl h) ?_
       refine AD.op [79, 87] rfl (by kernel_rfl) rfl rfl (fun _ _ h => AOp.pick rfl rfl (ltb rfl) rfl q44 rfl h) ?_
       refine AD.op [77] rfl (by kernel_rfl) rfl rfl (fun _ _ h => AOp.assign rfl rfl (ltb rfl) rfl h) ?_
       refine AD.op [88] rfl (by kernel_rfl) rfl rfl (fun _ _ h => AOp.assign rfl rfl (ltb rfl) rfl h) ?_
       refine AD.done ?_
       refine AO.nil ?_
       change AC _ _ _ _
       refine AC.region ?_
       obtain ⟨q49, h2⟩ := need_elim h2
       refine AO.op rfl (AOp.iadd rfl rfl (ltb rfl) rfl rfl rfl q49.1 q49.2 ?_)
       refine AO.op rfl (AOp.move rfl rfl (ltb rfl) rfl ?_)
       refine AO.nil ?_
       exact ⟨((decide (y42 = (0 : Int))), (decide (y47 = (0 : Int))), (g33.2.2 + (1 : Int))), _, rfl, (LeL.refl _), rfl, rfl, h2⟩
      replace h2 := cF h2 q44
      refine AD.opN rfl rfl rfl (ltb rfl) rfl q44 ?_
      refine AD.opN rfl rfl rfl (ltb rfl) rfl q44 ?_
      refine AD.opN rfl rfl rfl (ltb rfl) rfl q44 ?_
      refine AD.opN rfl rfl rfl (ltb rfl) rfl q44 ?_
      refine AD.opN rfl rfl rfl (ltb rfl) rfl q44 ?_
      refine AD.opN rfl rfl rfl (ltb rfl) rfl q44 ?_
      refine AD.opN rfl rfl rfl (ltb rfl) rfl q44 ?_
      refine AD.opN rfl rfl rfl (ltb rfl) rfl q44 ?_
      refine AD.op [79, 87] rfl (by kernel_rfl) rfl rfl (fun _ _ h => AOp.pickN rfl rfl (ltb rfl) rfl q44 rfl h) ?_
      refine AD.op [77] rfl (by kernel_rfl) rfl rfl (fun _ _ h => AOp.assign rfl rfl (ltb rfl) rfl h) ?_
      refine AD.op [88] rfl (by kernel_rfl) rfl rfl (fun _ _ h => AOp.assign rfl rfl (ltb rfl) rfl h) ?_
      refine AD.done ?_
      refine AO.nil ?_
      change AC _ _ _ _
      refine AC.region ?_
      obtain ⟨q50, h2⟩ := need_elim h2
      refine AO.op rfl (AOp.iadd rfl rfl (ltb rfl) rfl rfl rfl q50.1 q50.2 ?_)
      refine AO.op rfl (AOp.move rfl rfl (ltb rfl) rfl ?_)
      refine AO.nil ?_
      exact ⟨((decide (y42 = (0 : Int))), false, (g33.2.2 + (1 : Int))), _, rfl, (LeL.refl _), rfl, rfl, h2⟩
     replace h2 := cF h2 q39
     refine AD.opN rfl rfl rfl (ltb rfl) rfl q39 ?_
     refine AD.opN rfl rfl rfl (ltb rfl) rfl q39 ?_
     refine AD.opN rfl rfl rfl (ltb rfl) rfl q39 ?_
     refine AD.opN rfl rfl rfl (ltb rfl) rfl q39 ?_
     refine AD.opN rfl rfl rfl (ltb rfl) rfl q39 ?_
     refine AD.opN rfl rfl rfl (ltb rfl) rfl q39 ?_
     refine AD.opN rfl rfl rfl (ltb rfl) rfl q39 ?_
     refine AD.opN rfl rfl rfl (ltb rfl) rfl q39 ?_
     refine AD.op [68, 76] rfl (by kernel_rfl) rfl rfl (fun _ _ h => AOp.pickN rfl rfl (ltb rfl) rfl q39 rfl h) ?_
     refine AD.op [13] rfl (by kernel_rfl) rfl rfl (fun _ _ h => AOp.move rfl rfl (ltb rfl) rfl h) ?_
     refine AD.op [78] rfl (by kernel_rfl) rfl rfl (fun _ _ h => AOp.move rfl rfl (ltb rfl) rfl h) ?_
     refine AD.dec g33.2.1 (fun q51 => ?_) (fun q51 => ?_)
     ·replace h2 := cT h2 q51
      refine AD.opY [15, 79] rfl rfl rfl q51 (by kernel_rfl) rfl rfl (fun _ _ h => AOp.fieldAddr rfl rfl (ltb rfl) rfl fo38_0 h) ?_
      refine AD.opY [79, 80] rfl rfl rfl q51 (by kernel_rfl) rfl rfl (fun _ _ h => AOp.loadN rfl rfl (ltb rfl) rfl agg30 size30 rfl (leb rfl) rfl h) ?_
      refine AD.opY [11, 79] rfl rfl rfl q51 (by kernel_rfl) rfl rfl (fun _ _ h => AOp.move rfl rfl (ltb rfl) rfl h) ?_
      obtain ⟨x52, q53, h2⟩ := idx_elim h2
      refine AD.opY [79, 82] rfl rfl rfl q51 (by kernel_rfl) rfl rfl (fun _ _ h => AOp.indexDs (cells := (List.flatMap c_TSpec_Point x22)) rfl rfl (ltb rfl) rfl rfl el35 (by decide) q53.1 (ltN 6 (fun _ => rfl) (by decide) q53.2) h) ?_
      refine AD.opY [79, 83] rfl rfl rfl q51 (by kernel_rfl) rfl rfl (fun _ _ h => AOp.fieldAddrEp rfl rfl (ltb rfl) rfl fo38_0 h) ?_
      refine AD.opY [79, 84] rfl rfl rfl q51 (by kernel_rfl) rfl rfl (fun _ _ h => AOp.loadEpN rfl rfl (ltb rfl) rfl agg30 size30 (leNs 6 (fun _ => rfl) q53.2 0 3 (by decide)) (atNs 6 (fun _ => rfl) q53.2 0 3 (by decide) rfl) h) ?_
      obtain ⟨y54, q55, h2⟩ := bind_elim h2
      refine AD.opY [79, 81, 85] rfl rfl rfl q51 (by kernel_rfl) rfl rfl (fun _ _ h => AOp.callD rfl rfl (ltb rfl) rfl rfl (w_Dyadic_Cmp F x37.X x52.X y54 q55) (by rintro _ rfl; exact h)) ?_
      refine AD.opY [79, 86] rfl rfl rfl q51 (by kernel_rfl) rfl rfl (fun _ _ h => AOp.ieql rfl rfl (ltb rfl) rfl rfl h) ?_
      refine AD.op [79, 87] rfl (by kernel_rfl) rfl rfl (fun _ _ h => AOp.pick rfl rfl (ltb rfl) rfl q51 rfl h) ?_
      refine AD.op [77] rfl (by kernel_rfl) rfl rfl (fun _ _ h => AOp.assign rfl rfl (ltb rfl) rfl h) ?_
      refine AD.op [88] rfl (by kernel_rfl) rfl rfl (fun _ _ h => AOp.assign rfl rfl (ltb rfl) rfl h) ?_
      refine AD.done ?_
      refine AO.nil ?_
      change AC _ _ _ _
      refine AC.region ?_
      obtain ⟨q56, h2⟩ := need_elim h2
      refine AO.op rfl (AOp.iadd rfl rfl (ltb rfl) rfl rfl rfl q56.1 q56.2 ?_)
      refine AO.op rfl (AOp.move rfl rfl (ltb rfl) rfl ?_)
      refine AO.nil ?_
      exact ⟨(false, (decide (y54 = (0 : Int))), (g33.2.2 + (1 : Int))), _, rfl, (LeL.refl _), rfl, rfl, h2⟩
     replace h2 := cF h2 q51
     refine AD.opN rfl rfl rfl (ltb rfl) rfl q51 ?_
     refine AD.opN rfl rfl rfl (ltb rfl) rfl q51 ?_
     refine AD.opN rfl rfl rfl (ltb rfl) rfl q51 ?_
     refine AD.opN rfl rfl rfl (ltb rfl) rfl q51 ?_
     refine AD.opN rfl rfl rfl (ltb rfl) rfl q51 ?_
     refine AD.opN rfl rfl rfl (ltb rfl) rfl q51 ?_
     refine AD.opN rfl rfl rfl (ltb rfl) rfl q51 ?_
     refine AD.opN rfl rfl rfl (ltb rfl) rfl q51 ?_
     refine AD.op [79, 87] rfl (by kernel_rfl) rfl rfl (fun _ _ h => AOp.pickN rfl rfl (ltb rfl) rfl q51 rfl h) ?_
     refine AD.op [77] rfl (by kernel_rfl) rfl rfl (fun _ _ h => AOp.assign rfl rfl (ltb rfl) rfl h) ?_
     refine AD.op [88] rfl (by kernel_rfl) rfl rfl (fun _ _ h => AOp.assign rfl rfl (ltb rfl) rfl h) ?_
     refine AD.done ?_
     refine AO.nil ?_
     change AC _ _ _ _
     refine AC.region ?_
     obtain ⟨q57, h2⟩ := need_elim h2
     refine AO.op rfl (AOp.iadd rfl rfl (ltb rfl) rfl rfl rfl q57.1 q57.2 ?_)
     refine AO.op rfl (AOp.move rfl rfl (ltb rfl) rfl ?_)
     refine AO.nil ?_
     exact ⟨(false, false, (g33.2.2 + (1 : Int))), _, rfl, (LeL.refl _), rfl, rfl, h2⟩
    replace h2 := cF h2 q36
    refine AC.exit ?_
    obtain rfl := Option.some.inj h2
    exact ⟨(g33.1, g33.2.1), _, rfl, (LeL.refl _), rfl, rfl, aftL h1⟩
   intro g28 h1
   unfold p_FnPolygonsFlat_k5 at h1
   change AC _ _ _ _
   refine AC.seq ?_
   refine AC.region ?_
   refine AO.op rfl (AOp.move rfl rfl (ltb rfl) rfl ?_)
   refine AO.op rfl (AOp.bnot rfl rfl (ltb rfl) rfl ?_)
   refine AO.op rfl (AOp.move rfl rfl (ltb rfl) rfl ?_)
   refine AO.dec (!g28.1) (fun q29 => ?_) (fun q29 => ?_)
   ·replace h1 := cT h1 q29
    refine AO.guardY rfl rfl rfl q29 (AOp.move rfl rfl (ltb rfl) rfl ?_)
    refine AO.guardY rfl rfl rfl q29 (AOp.bnot rfl rfl (ltb rfl) rfl ?_)
    refine AO.op rfl (AOp.pick rfl rfl (ltb rfl) rfl q29 rfl ?_)
    refine AO.nil ?_
    change AC _ _ _ _
    refine AC.cond rfl (fun q30 => ?_) (fun q30 => ?_)
    ·replace h1 := cT h1 q30
     refine AC.seq ?_
     refine AC.region ?_
     refine AO.op rfl (AOp.assign rfl rfl (ltb rfl) rfl ?_)
     refine AO.nil ?_
     change AC _ _ _ _
     refine AC.ret ?_
     change RetQ _ _ _ .ret _
     obtain rfl := Option.some.inj h1
     replace h0 := aftR h0
     obtain rfl := Option.some.inj h0
     refine retq rfl rfl
    replace h1 := cF h1 q30
    refine AC.skip ?_
    change AC _ _ _ _
    refine AC.region ?_
    obtain ⟨q31, h1⟩ := need_elim h1
    refine AO.op rfl (AOp.iadd rfl rfl (ltb rfl) rfl rfl rfl q31.1 q31.2 ?_)
    refine AO.op rfl (AOp.move rfl rfl (ltb rfl) rfl ?_)
    refine AO.nil ?_
    exact ⟨(g18 + (1 : Int)), _, rfl, (LeL.refl _), rfl, rfl, h1⟩
   replace h1 := cF h1 q29
   refine AO.guardN rfl rfl rfl (ltb rfl) rfl q29 ?_
   refine AO.guardN rfl rfl rfl (ltb rfl) rfl q29 ?_
   refine AO.op rfl (AOp.pickN rfl rfl (ltb rfl) rfl q29 rfl ?_)
   refine AO.nil ?_
   change AC _ _ _ _
   refine AC.condF rfl rfl ?_
   refine AC.skip ?_
   change AC _ _ _ _
   refine AC.region ?_
   obtain ⟨q32, h1⟩ := need_elim h1
   refine AO.op rfl (AOp.iadd rfl rfl (ltb rfl) rfl rfl rfl q32.1 q32.2 ?_)
   refine AO.op rfl (AOp.move rfl rfl (ltb rfl) rfl ?_)
   refine AO.nil ?_
   exact ⟨(g18 + (1 : Int)), _, rfl, (LeL.refl _), rfl, rfl, h1⟩
  replace h1 := cF h1 q21
  refine AC.exit ?_
  obtain rfl := Option.some.inj h1
  exact ⟨(), _, rfl, (LeL.refl _), rfl, rfl, aftL h0⟩
 intro g10 h0
 unfold p_FnPolygonsFlat_k2 at h0
 change AC _ _ _ _
 refine AC.seq ?_
 refine AC.region ?_
 refine AO.op rfl (AOp.move rfl rfl (ltb rfl) rfl ?_)
 refine AO.op rfl (AOp.move rfl rfl (ltb rfl) rfl ?_)
 obtain ⟨y11, q12, h0⟩ := bind_elim h0
 refine AO.op rfl (AOp.callD rfl rfl (ltb rfl) rfl rfl (w_PolygonsCentroid F a0 a1 y11 q12) ?_)
 rintro _ rfl
 refine AO.op rfl (AOp.move rfl rfl (ltb rfl) rfl ?_)
 first | refine AO.op rfl (AOp.extractD rfl rfl (ltb rfl) rfl rfl ?_) | refine AO.op rfl (AOp.extract rfl rfl (ltb rfl) rfl rfl ?_)
 first | refine AO.op rfl (AOp.extractD rfl rfl (ltb rfl) rfl rfl ?_) | refine AO.op rfl (AOp.extract rfl rfl (ltb rfl) rfl rfl ?_)
 refine AO.op rfl (AOp.assign rfl rfl (ltb rfl) rfl ?_)
 refine AO.op rfl (AOp.assign rfl rfl (ltb rfl) rfl ?_)
 refine AO.nil ?_
 change AC _ _ _ _
 refine AC.seq ?_
 refine AC.draw 10 mixed (by kernel_rfl) ?_
 refine AD.op [17] rfl (by kernel_rfl) rfl rfl (fun _ _ h => AOp.move rfl rfl (ltb rfl) rfl h) ?_
 refine AD.op [103] rfl (by kernel_rfl) rfl rfl (fun _ _ h => AOp.move rfl rfl (ltb rfl) rfl h) ?_
 refine AD.dec y11.2 (fun q13 => ?_) (fun q13 => ?_)
 ·replace h0 := cT h0 q13
  refine AD.opY [16, 104] rfl rfl rfl q13 (by kernel_rfl) rfl rfl (fun _ _ h => AOp.move rfl rfl (ltb rfl) rfl h) ?_
  refine AD.opY [7, 104] rfl rfl rfl q13 (by kernel_rfl) rfl rfl (fun _ _ h => AOp.loadN rfl rfl (ltb rfl) rfl agg32 size32 rfl (leb rfl) rfl h) ?_
  refine AD.opY [8, 104] rfl rfl rfl q13 (by kernel_rfl) rfl rfl (fun _ _ h => AOp.loadN rfl rfl (ltb rfl) rfl agg32 size32 rfl (leb rfl) rfl h) ?_
  refine AD.opY [0, 104] rfl rfl rfl q13 (by kernel_rfl) rfl rfl (fun _ _ h => AOp.move rfl rfl (ltb rfl) rfl h) ?_
  obtain ⟨y14, q15, h0⟩ := bind_elim h0
  refine AD.opY [104, 108] rfl rfl rfl q13 (by kernel_rfl) rfl rfl (fun _ _ h => AOp.callD rfl rfl (ltb rfl) rfl rfl (w_Stride a0 y14 q15) (by rintro _ rfl; exact h)) ?_
  obtain ⟨y16, q17, h0⟩ := bind_elim h0
  refine AD.opY [104, 105, 106, 107, 109] rfl rfl rfl q13 (by kernel_rfl) rfl rfl (fun _ _ h => AOp.callD rfl rfl (ltb rfl) rfl rfl (w_centred F y11.1 y4.1 y4.2.1 y14 y16 q17) (by rintro _ rfl; exact h)) ?_
  refine AD.op [104, 110] rfl (by kernel_rfl) rfl rfl (fun _ _ h => AOp.pick rfl rfl (ltb rfl) rfl q13 rfl h) ?_
  refine AD.op [111] rfl (by kernel_rfl) rfl rfl (fun _ _ h => AOp.assign rfl rfl (ltb rfl) rfl h) ?_
  refine AD.done ?_
  refine AO.nil ?_
  change AC _ _ _ _
  refine AC.ret ?_
  change RetQ _ _ _ .ret _
  obtain rfl := Option.some.inj h0
  refine retq rfl rfl
 replace h0 := cF h0 q13
 refine AD.opN rfl rfl rfl (ltb rfl) rfl q13 ?_
 refine AD.opN rfl rfl rfl (ltb rfl) rfl q13 ?_
 refine AD.opN rfl rfl rfl (ltb rfl) rfl q13 ?_
 refine AD.opN rfl rfl rfl (ltb rfl) rfl q13 ?_
 refine AD.opN rfl rfl rfl (ltb rfl) rfl q13 ?_
 refine AD.opN rfl rfl rfl (ltb rfl) rfl q13 ?_
 refine AD.op [104, 110] rfl (by kernel_rfl) rfl rfl (fun _ _ h => AOp.pickN rfl rfl (ltb rfl) rfl q13 rfl h) ?_
 refine AD.op [111] rfl (by kernel_rfl) rfl rfl (fun _ _ h => AOp.assign rfl rfl (ltb rfl) rfl h) ?_
 refine AD.done ?_
 refine AO.nil ?_
 change AC _ _ _ _
 refine AC.ret ?_
 change RetQ _ _ _ .ret _
 obtain rfl := Option.some.inj h0
 refine retq rfl rfl

end Go.Proofs.YtdchenbdnalbcaaGreatDoor.Wk
