/- Proved: more of it. -/
import Derived.Test.YtdchenbdnalbcaaGreatWRc_0
namespace Go.Proofs.YtdchenbdnalbcaaGreat.Wk
open Go.Vm
set_option linter.unusedVariables false
set_option linter.unusedSimpArgs false
set_option maxRecDepth 100000 in
/-- pub-orthodrome/pub/gogeom.NewLinearRingFlat: a new block -/
theorem wa_NewLinearRingFlat (a0 : Int) (a1 : (List Nat)) (r0 : TGeom_LinearRing) (h0 : p_NewLinearRingFlat a0 a1 = some r0) : FnA Tryz.prog 41 [di .i64 a0, eS1 a1] 87 (fun r => r = c_TGeom_LinearRing r0) := by
  refine FnA.of (by kernel_rfl) Tryz.func41 rfl Tryz.ntmps41 rfl (leb rfl) fun W ok => ?_
  unfold p_NewLinearRingFlat at h0
  refine AC.seq ?_
  refine AC.region ?_
  refine AO.op rfl (AOp.assign rfl rfl (ltb rfl) rfl ?_)
  refine AO.nil ?_
  change AC _ _ _ _
  refine AC.seq ?_
  refine AC.region ?_
  refine AO.op rfl (AOp.alloc rfl rfl (ltb rfl) zero87 rfl ?_)
  refine AO.op rfl (AOp.assign rfl rfl (ltb rfl) rfl ?_)
  refine AO.nil ?_
  change AC _ _ _ _
  refine AC.seq ?_
  refine AC.region ?_
  refine AO.op rfl (AOp.move rfl rfl (ltb rfl) rfl ?_)
  refine AO.op rfl (AOp.move rfl rfl (ltb rfl) rfl ?_)
  refine AO.op rfl (AOp.nilCheck rfl rfl (ltb rfl) rfl rfl ?_)
  refine AO.op rfl (AOp.fieldAddr rfl rfl (ltb rfl) rfl fo87_0 ?_)
  refine AO.op rfl (AOp.fieldAddr rfl rfl (ltb rfl) rfl fo85_0 ?_)
  refine AO.op rfl (AOp.fieldAddr rfl rfl (ltb rfl) rfl fo83_0 ?_)
  refine AO.op rfl (AOp.store rfl rfl rfl rfl size60 rfl rfl rfl (leb rfl) ?_)
  refine AO.nil ?_
  change AC _ _ _ _
  refine AC.seq ?_
  refine AC.region ?_
  refine AO.op rfl (AOp.move rfl rfl (ltb rfl) rfl ?_)
  refine AO.op rfl (AOp.move rfl rfl (ltb rfl) rfl ?_)
  obtain ⟨y1, q2, h0⟩ := bind_elim h0
  refine AO.op rfl (AOp.callD rfl rfl (ltb rfl) rfl rfl (w_Layout_Stride a0 y1 q2) ?_)
  rintro _ rfl
  refine AO.op rfl (AOp.nilCheck rfl rfl (ltb rfl) rfl rfl ?_)
  refine AO.op rfl (AOp.fieldAddr rfl rfl (ltb rfl) rfl fo87_0 ?_)
  refine AO.op rfl (AOp.fieldAddr rfl rfl (ltb rfl) rfl fo85_0 ?_)
  refine AO.op rfl (AOp.fieldAddr rfl rfl (ltb rfl) rfl fo83_1 ?_)
  refine AO.op rfl (AOp.store rfl rfl rfl rfl size3 rfl rfl rfl (leb rfl) ?_)
  refine AO.nil ?_
  change AC _ _ _ _
  refine AC.seq ?_
  refine AC.region ?_
  refine AO.op rfl (AOp.move rfl rfl (ltb rfl) rfl ?_)
  refine AO.op rfl (AOp.move rfl rfl (ltb rfl) rfl ?_)
  refine AO.op rfl (AOp.nilCheck rfl rfl (ltb rfl) rfl rfl ?_)
  refine AO.op rfl (AOp.fieldAddr rfl rfl (ltb rfl) rfl fo87_0 ?_)
  refine AO.op rfl (AOp.fieldAddr rfl rfl (ltb rfl) rfl fo85_0 ?_)
  refine AO.op rfl (AOp.fieldAddr rfl rfl (ltb rfl) rfl fo83_2 ?_)
  refine AO.op rfl (AOp.store rfl rfl rfl rfl size35 rfl rfl rfl (leb rfl) ?_)
  refine AO.nil ?_
  change AC _ _ _ _
  refine AC.seq ?_
  refine AC.region ?_
  refine AO.op rfl (AOp.move rfl rfl (ltb rfl) rfl ?_)
  refine AO.op rfl (AOp.assign rfl rfl (ltb rfl) rfl ?_)
  refine AO.nil ?_
  change AC _ _ _ _
  refine AC.ret ?_
  change RetA _ _ _ .ret _
  obtain rfl := Option.some.inj h0
  exact ⟨_, _, _, _, rfl, rfl, rfl, rfl, rfl⟩

theorem callSqrt (x z : Nat) (h : FloatKind.f64.format.sqrt x = some z) (w : World) : (callFunc 82 #[.float .f64 x]).run Tryz.prog w = .ok (.value (.float .f64 z)) w := by
  rw [run_callFunc_extern Tryz.func82 (by kernel_rfl) (by kernel_rfl) (by kernel_rfl) (e := Extern.MathSqrt.sqrt) (by kernel_rfl)]
  have e : Extern.MathSqrt.sqrt #[.float .f64 x] = (match FloatKind.f64.format.sqrt x with | some r => pure (.float .f64 r) | none => do pure (.float .f64 (← choose (.nanBits .f64 x x)))) := rfl
  rw [e, h]
  rfl

set_option maxRecDepth 100000 in
set_option maxHeartbeats 4000000 in
/-- math.Sqrt -/
theorem w_Sqrt (a0 : Nat) (r0 : Nat) (h0 : p_Sqrt a0 = some r0) : FnD Tryz.prog 77 [dfl a0] (fun r => r = dfl r0) := by
  refine FnD.of (by kernel_rfl) Tryz.func77 rfl Tryz.ntmps77 rfl (leb rfl) fun W ok => ?_
  unfold p_Sqrt at h0
  refine AC.seq ?_
  refine AC.region ?_
  refine AO.op rfl (AOp.assign rfl rfl (ltb rfl) rfl ?_)
  refine AO.nil ?_
  change AC _ _ _ _
  refine AC.seq ?_
  refine AC.region ?_
  refine AO.op rfl (AOp.move rfl rfl (ltb rfl) rfl ?_)
  obtain ⟨z1, q2, h0⟩ := bind_elim h0
  refine AO.op rfl (AOp.callX [.float .f64 a0] rfl rfl (ltb rfl) rfl (callSqrt _ _ q2) ?_)
  refine AO.op rfl (AOp.assign rfl rfl (ltb rfl) rfl ?_)
  refine AO.nil ?_
  change AC _ _ _ _
  refine AC.ret ?_
  change RetQ _ _ _ .ret _
  obtain rfl := Option.some.inj h0
  refine retq rfl rfl

set_option maxRecDepth 100000 in
set_option maxHeartbeats 4000000 in
/-- pub-orthodrome/pub/gogeom/xy/inner.Distance2D -/
theorem w_Distance2D (a0 : (List Nat)) (a1 : (List Nat)) (r0 : Nat) (h0 : p_Distance2D a0 a1 = some r0) : FnD Tryz.prog 69 [eS1 a0, eS1 a1] (fun r => r = dfl r0) := by
  refine FnD.of (by kernel_rfl) Tryz.func69 rfl Tryz.ntmps69 rfl (leb rfl) fun W ok => ?_
  unfold p_Distance2D at h0
  refine AC.seq ?_
  refine AC.region ?_
  refine AO.op rfl (AOp.assign rfl rfl (ltb rfl) rfl ?_)
  refine AO.nil ?_
  change AC _ _ _ _
  refine AC.seq ?_
  refine AC.draw 8 mixed (by kernel_rfl) ?_
  refine AD.op [0] rfl (by kernel_rfl) rfl rfl (fun _ _ h => AOp.move rfl rfl (ltb rfl) rfl h) ?_
  obtain ⟨x1, q2, h0⟩ := idx_elim h0
  refine AD.op [7] rfl (by kernel_rfl) rfl rfl (fun _ _ h => AOp.indexDs (cells := (List.map keS1 a0)) rfl rfl (ltb rfl) rfl rfl el67 (by decide) q2.1 (lt1 q2.2) h) ?_
  refine AD.op [8] rfl (by kernel_rfl) rfl rfl (fun _ _ h => AOp.loadEp rfl rfl (ltb rfl) rfl agg49 (at1 q2.2) h) ?_
  refine AD.op [1] rfl (by kernel_rfl) rfl rfl (fun _ _ h => AOp.move rfl rfl (ltb rfl) rfl h) ?_
  obtain ⟨x3, q4, h0⟩ := idx_elim h0
  refine AD.op [10] rfl (by kernel_rfl) rfl rfl (fun _ _ h => AOp.indexDs (cells := (List.map keS1 a1)) rfl rfl (ltb rfl) rfl rfl el67 (by decide) q4.1 (lt1 q4.2) h) ?_
  refine AD.op [11] rfl (by kernel_rfl) rfl rfl (fun _ _ h => AOp.loadEp rfl rfl (ltb rfl) rfl agg49 (at1 q4.2) h) ?_
  obtain ⟨z5, q6, h0⟩ := bind_elim h0
  refine AD.op [9, 12] rfl (by kernel_rfl) rfl rfl (fun _ _ h => AOp.farith rfl rfl (ltb rfl) rfl rfl q6 h) ?_
  refine AD.op [13] rfl (by kernel_rfl) rfl rfl (fun _ _ h => AOp.assign rfl rfl (ltb rfl) rfl h) ?_
  refine AD.done ?_
  refine AO.nil ?_
  change AC _ _ _ _
  refine AC.seq ?_
  refine AC.draw 8 mixed (by kernel_rfl) ?_
  refine AD.op [0] rfl (by kernel_rfl) rfl rfl (fun _ _ h => AOp.move rfl rfl (ltb rfl) rfl h) ?_
  obtain ⟨x7, q8, h0⟩ := idx_elim h0
  refine AD.op [14] rfl (by kernel_rfl) rfl rfl (fun _ _ h => AOp.indexDs (cells := (List.map keS1 a0)) rfl rfl (ltb rfl) rfl rfl el67 (by decide) q8.1 (lt1 q8.2) h) ?_
  refine AD.op [15] rfl (by kernel_rfl) rfl rfl (fun _ _ h => AOp.loadEp rfl rfl (ltb rfl) rfl agg49 (at1 q8.2) h) ?_
  refine AD.op [1] rfl (by kernel_rfl) rfl rfl (fun _ _ h => AOp.move rfl rfl (ltb rfl) rfl h) ?_
  obtain ⟨x9, q10, h0⟩ := idx_elim h0
  refine AD.op [17] rfl (by kernel_rfl) rfl rfl (fun _ _ h => AOp.indexDs (cells := (List.map keS1 a1)) rfl rfl (ltb rfl) rfl rfl el67 (by decide) q10.1 (lt1 q10.2) h) ?_
  refine AD.op [18] rfl (by kernel_rfl) rfl rfl (fun _ _ h => AOp.loadEp rfl rfl (ltb rfl) rfl agg49 (at1 q10.2) h) ?_
  obtain ⟨z11, q12, h0⟩ := bind_elim h0
  refine AD.op [16, 19] rfl (by kernel_rfl) rfl rfl (fun _ _ h => AOp.farith rfl rfl (ltb rfl) rfl rfl q12 h) ?_
  refine AD.op [20] rfl (by kernel_rfl) rfl rfl (fun _ _ h => AOp.assign rfl rfl (ltb rfl) rfl h) ?_
  refine AD.done ?_
  refine AO.nil ?_
  change AC _ _ _ _
  refine AC.seq ?_
  refine AC.region ?_
  refine AO.op rfl (AOp.move rfl rfl (ltb rfl) rfl ?_)
  refine AO.op rfl (AOp.move rfl rfl (ltb rfl) rfl ?_)
  obtain ⟨z13, q14, h0⟩ := bind_elim h0
  refine AO.op rfl (AOp.farith rfl rfl (ltb rfl) rfl rfl q14 ?_)
  refine AO.op rfl (AOp.move rfl rfl (ltb rfl) rfl ?_)
  refine AO.op rfl (AOp.move rfl rfl (ltb rfl) rfl ?_)
  obtain ⟨z15, q16, h0⟩ := bind_elim h0
  refine AO.op rfl (AOp.farith rfl rfl (ltb rfl) rfl rfl q16 ?_)
  obtain ⟨z17, q18, h0⟩ := bind_elim h0
  refine AO.op rfl (AOp.farith rfl rfl (ltb rfl) rfl rfl q18 ?_)
  obtain ⟨y19, q20, h0⟩ := bind_elim h0
  refine AO.op rfl (AOp.callD rfl rfl (ltb rfl) rfl rfl (w_Sqrt z17 y19 q20) ?_)
  rintro _ rfl
  refine AO.op rfl (AOp.assign rfl rfl (ltb rfl) rfl ?_)
  refine AO.nil ?_
  change AC _ _ _ _
  refine AC.ret ?_
  change RetQ _ _ _ .ret _
  obtain rfl := Option.some.inj h0
  refine retq rfl rfl

set_option maxRecDepth 100000 in
set_option maxHeartbeats 4000000 in
/-- pub-orthodrome/impl.RingsCentroid -/
theorem w_RingsCentroid (F : Nat) (a0 : Int) (a1 : (List TImpl_Geom)) (r0 : ((List Nat) × Bool)) (h0 : p_RingsCentroid F a0 a1 = some r0) : FnD Tryz.prog 6 [di .i64 a0, eS0 a1] (fun r => r = .tu [eS1 r0.1, dbool r0.2]) := by
  refine FnD.wrap (g := 18) (m := 2) (fun vs w h => idle18 vs w h) (by kernel_rfl) Tryz.func6 rfl Tryz.ntmps6 rfl (leb rfl) fun W ok => ?_
  unfold p_RingsCentroid at h0
  refine AW.seq ?_
  refine AC.region ?_
  refine AO.op rfl (AOp.alloc rfl rfl (ltb rfl) zero35 rfl ?_)
  refine AO.op rfl (AOp.alloc rfl rfl (ltb rfl) zero4 rfl ?_)
  refine AO.nil ?_
  refine ⟨rfl, ?_⟩
  refine AW.defer (caps := [.tmp 4, .tmp 5]) rfl rfl rfl (ltb rfl) rfl rfl rfl rfl (by kernel_rfl) rfl fun df => ?_
  refine AC.seq ?_
  refine AC.region ?_
  refine AO.op rfl (AOp.move rfl rfl (ltb rfl) rfl ?_)
  refine AO.op rfl (AOp.inl [1, 4, 5] (by kernel_rfl) Tryz.func19 rfl Tryz.ntmps19 rfl rfl (ltb rfl) rfl (leb rfl) rfl ?_)
  intro fr1
  refine AC.seq ?_
  refine AC.region ?_
  refine AO.op rfl (AOp.assign rfl rfl (ltb rfl) rfl ?_)
  refine AO.nil ?_
  change AC _ _ _ _
  refine AC.seq ?_
  refine AC.region ?_
  refine AO.op rfl (AOp.move rfl rfl (ltb rfl) rfl ?_)
  refine AO.op rfl (AOp.move rfl rfl (ltb rfl) rfl ?_)
  obtain ⟨y2, q3, h0⟩ := bind_elim h0
  refine AO.op rfl (AOp.callD rfl rfl (ltb rfl) rfl rfl (w_Layout_Stride a0 y2 q3) ?_)
  rintro _ rfl
  refine AO.op rfl (AOp.move rfl rfl (ltb rfl) rfl ?_)
  obtain ⟨y4, q5, h0⟩ := bind_elim h0
  refine AO.op rfl (AOp.callD rfl rfl (ltb rfl) rfl rfl (w_Layout_Stride a0 y4 q5) ?_)
  rintro _ rfl
  obtain ⟨q6, h0⟩ := need_elim h0
  refine AO.op rfl (AOp.makeL (f := fun z => SV.d (keS1 z)) (z0 := (0 : Nat)) rfl rfl (ltb rfl) rfl rfl el35 info49 rfl rfl (by decide) q6.1 q6.2 rfl ?_)
  refine AO.op rfl (AOp.build rfl rfl (ltb rfl) zero80 rfl places80 rfl rfl ?_)
  refine AO.op rfl (AOp.box rfl rfl (ltb rfl) rfl rfl ?_)
  refine AO.op rfl (AOp.assign rfl rfl (ltb rfl) rfl ?_)
  refine AO.objs (obs' := [.fix 35 [.d (.v (.slice none 0 0))], .fix 4 [.d (dbool false)], .frame fr1 [(1, .d (eS0 a1)), (4, .ptr 0 0), (5, .ptr 1 0)], .fix 49 (List.map (fun z => SV.d (keS1 z)) (List.replicate (y4).toNat (0 : Nat))), .fix 80 [.d (di .i64 a0), .d (di .i64 y2), .sl 3 1 0 ((y4).toNat) ((y4).toNat), .d (dfl (0 : Nat))]]) rfl ?_
  refine AO.nil ?_
  change AC _ _ _ _
  refine AC.ret ?_
  refine inlret (ob' := [.fix 35 [.d (.v (.slice none 0 0))], .fix 4 [.d (dbool false)], .dead, .fix 49 (List.map (fun z => SV.d (keS1 z)) (List.replicate (y4).toNat (0 : Nat))), .fix 80 [.d (di .i64 a0), .d (di .i64 y2), .sl 3 1 0 ((y4).toNat) ((y4).toNat), .d (dfl (0 : Nat))]]) (e' := [(1, .d (eS0 a1)), (4, .ptr 0 0), (5, .ptr 1 0)]) (r := .ptr 4 0) rfl rfl rfl ?_
  change AO _ _ _ _ _
  refine AO.op rfl (AOp.assign rfl rfl (ltb rfl) rfl ?_)
  refine AO.objs (obs' := [.fix 35 [.d (.v (.slice none 0 0))], .fix 4 [.d (dbool false)], .dead, .fix 49 (List.map (fun z => SV.d (keS1 z)) (List.replicate (y4).toNat (0 : Nat))), .fix 80 [.d (di .i64 a0), .d (di .i64 y2), .sl 3 1 0 ((y4).toNat) ((y4).toNat), .d (dfl (0 : Nat))]]) rfl ?_
  refine AO.nil ?_
  change AC _ _ _ _
  refine AC.seq ?_
  refine AC.seq ?_
  refine AC.region ?_
  refine AO.op rfl (AOp.move rfl rfl (ltb rfl) rfl ?_)
  refine AO.op rfl (AOp.lenDs (n := a1.length) (cells := (List.flatMap c0_TImpl_Geom a1)) rfl rfl (ltb rfl) rfl el22 (by decide) (lenN _ 7 c0_TImpl_Geom_len _) ?_)
  refine AO.op rfl (AOp.move rfl rfl (ltb rfl) rfl ?_)
  refine AO.nil ?_
  change AC _ _ _ _
  obtain ⟨o7, l8, h0⟩ := bind_elim h0
  refine AC.joinE (V := ((List Nat) × Nat)) [4, 5, 6] [] 5 (fun g9 => []) (fun g9 => [.fix 35 [.d (.v (.slice none 0 0))], .fix 4 [.d (dbool false)], .dead, .fix 49 (List.map (fun z => SV.d (keS1 z)) g9.1), .fix 80 [.d (di .i64 a0), .d (di .i64 y2), .sl 3 1 0 ((y4).toNat) ((y4).toNat), .d (dfl g9.2)]]) (fun g9 => (p_RingsCentroid_k1 a0 y4) g9 = some r0) rfl ?_ ?_
  · refine AC.block ?_
    refine AC.loopP (V := (Int × (List Nat) × Nat)) (p_RingsCentroid_l2 a1 F y2 y4) o7 [4, 5, 6, 12, 13] [14] 5 (fun g31 => [(14, .d (di .i64 g31.1))]) (fun g31 => [.fix 35 [.d (.v (.slice none 0 0))], .fix 4 [.d (dbool false)], .dead, .fix 49 (List.map (fun z => SV.d (keS1 z)) g31.2.1), .fix 80 [.d (di .i64 a0), .d (di .i64 y2), .sl 3 1 0 ((y4).toNat) ((y4).toNat), .d (dfl g31.2.2)]]) F ((0 : Int), (List.replicate (y4).toNat (0 : Nat)), (0 : Nat)) l8 rfl rfl (LeL.refl _) rfl (okU_mk rfl (okU_cons rfl (okU_cons rfl (okU_cons rfl (okU_cons (okU_fixl (fun _ => rfl)) (okU_cons rfl okU_nil)))))) ?_
    intro n33 g31 h1
    unfold p_RingsCentroid_l2 at h1
    refine AC.seq ?_
    refine AC.region ?_
    refine AO.op rfl (AOp.ilss rfl rfl (ltb rfl) rfl rfl ?_)
    refine AO.nil ?_
    change AC _ _ _ _
    refine AC.seq ?_
    refine AC.cond rfl (fun q34 => ?_) (fun q34 => ?_)
    · replace h1 := cT h1 q34
      refine AC.skip ?_
      change AC _ _ _ _
      refine AC.seq ?_
      refine AC.block ?_
      refine AC.seq ?_
      refine AC.region ?_
      obtain ⟨x35, q36, h1⟩ := idx_elim h1
      refine AO.op rfl (AOp.indexDs (cells := (List.flatMap c0_TImpl_Geom a1)) rfl rfl (ltb rfl) rfl rfl el22 (by decide) q36.1 (ltN 7 c0_TImpl_Geom_len (by decide) q36.2) ?_)
      refine AO.op rfl (AOp.loadEpN rfl rfl (ltb rfl) rfl agg44 size44 (leN 7 c0_TImpl_Geom_len q36.2) ((atN 7 c0_TImpl_Geom_len q36.2).trans (c0_TImpl_Geom_eq x35)) ?_)
      refine AO.op rfl (AOp.alloc rfl rfl (ltb rfl) zero44 rfl ?_)
      refine AO.op rfl (AOp.store rfl rfl rfl rfl size44 rfl rfl rfl (leb rfl) ?_)
      refine AO.objs (obs' := [.fix 35 [.d (.v (.slice none 0 0))], .fix 4 [.d (dbool false)], .dead, .fix 49 (List.map (fun z => SV.d (keS1 z)) g31.2.1), .fix 80 [.d (di .i64 a0), .d (di .i64 y2), .sl 3 1 0 ((y4).toNat) ((y4).toNat), .d (dfl g31.2.2)], .fix 44 [.d (di .i64 x35.Kind), .d (di .i64 x35.Layout), .d (di .i64 x35.SRID), .d (eS1 x35.Flat), .d (eS2 x35.Ends), .d (eS3 x35.Endss), .d (eS0 x35.Kids)]]) rfl ?_
      refine AO.nil ?_
      change AC _ _ _ _
      refine AC.region ?_
      refine AO.op rfl (AOp.move rfl rfl (ltb rfl) rfl ?_)
      refine AO.op rfl (AOp.loadN rfl rfl (ltb rfl) rfl agg44 size44 rfl (leb rfl) rfl ?_)
      refine AO.op rfl (AOp.inl [4, 5, 6, 12, 13, 14, 18] (by kernel_rfl) Tryz.func21 rfl Tryz.ntmps21 rfl rfl (ltb rfl) rfl (leb rfl) rfl ?_)
      intro fr37
      refine AC.seq ?_
      refine AC.region ?_
      refine AO.op rfl (AOp.box rfl rfl (ltb rfl) rfl rfl ?_)
      refine AO.op rfl (AOp.assign rfl rfl (ltb rfl) rfl ?_)
      refine AO.objs (obs' := [.fix 35 [.d (.v (.slice none 0 0))], .fix 4 [.d (dbool false)], .dead, .fix 49 (List.map (fun z => SV.d (keS1 z)) g31.2.1), .fix 80 [.d (di .i64 a0), .d (di .i64 y2), .sl 3 1 0 ((y4).toNat) ((y4).toNat), .d (dfl g31.2.2)], .fix 44 [.d (di .i64 x35.Kind), .d (di .i64 x35.Layout), .d (di .i64 x35.SRID), .d (eS1 x35.Flat), .d (eS2 x35.Ends), .d (eS3 x35.Endss), .d (eS0 x35.Kids)], .frame fr37 [(4, .ptr 0 0), (5, .ptr 1 0), (6, .ptr 4 0), (12, .d (eS0 a1)), (13, .d (di .i64 ((a1.length : Nat) : Int))), (14, .d (di .i64 g31.1)), (18, .ptr 4 0)], .fix 44 [.d (di .i64 x35.Kind), .d (di .i64 x35.Layout), .d (di .i64 x35.SRID), .d (eS1 x35.Flat), .d (eS2 x35.Ends), .d (eS3 x35.Endss), .d (eS0 x35.Kids)]]) rfl ?_
      refine AO.nil ?_
      change AC _ _ _ _
      refine AC.seq ?_
      refine AC.draw 7 mixed (by kernel_rfl) ?_
      refine AD.op [1] rfl (by kernel_rfl) rfl rfl (fun _ _ h => AOp.fieldAddr rfl rfl (ltb rfl) rfl fo44_1 h) ?_
      refine AD.op [8] rfl (by kernel_rfl) rfl rfl (fun _ _ h => AOp.load1 rfl rfl (ltb rfl) rfl agg3 rfl rfl h) ?_
      refine AD.op [1] rfl (by kernel_rfl) rfl rfl (fun _ _ h => AOp.fieldAddr rfl rfl (ltb rfl) rfl fo44_3 h) ?_
      refine AD.op [10] rfl (by kernel_rfl) rfl rfl (fun _ _ h => AOp.load1 rfl rfl (ltb rfl) rfl agg35 rfl rfl h) ?_
      obtain ⟨y38, q39, h1⟩ := bind_elim h1
      refine AD.op [11] rfl (by kernel_rfl) rfl rfl (fun _ _ h => AOp.callD rfl rfl (ltb rfl) rfl rfl (w_floats x35.Flat y38 q39) (by rintro _ rfl; exact h)) ?_
      refine AD.op [9] rfl (by kernel_rfl) rfl rfl (fun _ _ h => AOp.assign rfl rfl (ltb rfl) rfl h) ?_
      refine AD.op [12] rfl (by kernel_rfl) rfl rfl (fun _ _ h => AOp.assign rfl rfl (ltb rfl) rfl h) ?_
      refine AD.done ?_
      refine AO.nil ?_
      change AC _ _ _ _
      refine AC.seq ?_
      refine AC.seq ?_
      refine AC.region ?_
      refine AO.op rfl (AOp.fieldAddr rfl rfl (ltb rfl) rfl fo44_0 ?_)
      refine AO.op rfl (AOp.load1 rfl rfl (ltb rfl) rfl agg3 rfl rfl ?_)
      refine AO.nil ?_
      change AC _ _ _ _
      refine AC.block ?_
      refine AC.seq ?_
      refine AC.region ?_
      refine AO.op rfl (AOp.ieql rfl rfl (ltb rfl) rfl rfl ?_)
      refine AO.op rfl (AOp.assign rfl rfl (ltb rfl) rfl ?_)
      refine AO.nil ?_
      change AC _ _ _ _
      refine AC.cond rfl (fun q40 => ?_) (fun q40 => ?_)
      · replace h1 := cT h1 q40
        cases h1
      replace h1 := cF h1 q40
      refine AC.seq ?_
      refine AC.region ?_
      refine AO.op rfl (AOp.ieql rfl rfl (ltb rfl) rfl rfl ?_)
      refine AO.op rfl (AOp.assign rfl rfl (ltb rfl) rfl ?_)
      refine AO.nil ?_
      change AC _ _ _ _
      refine AC.cond rfl (fun q41 => ?_) (fun q41 => ?_)
      · replace h1 := cT h1 q41
        cases h1
      replace h1 := cF h1 q41
      refine AC.seq ?_
      refine AC.region ?_
      refine AO.op rfl (AOp.ieql rfl rfl (ltb rfl) rfl rfl ?_)
      refine AO.op rfl (AOp.assign rfl rfl (ltb rfl) rfl ?_)
      refine AO.nil ?_
      change AC _ _ _ _
      refine AC.cond rfl (fun q42 => ?_) (fun q42 => ?_)
      · replace h1 := cT h1 q42
        refine AC.seq ?_
        refine AC.room ?_
        obtain ⟨y43, q44, h1⟩ := bind_elim h1
        refine AC.drawS [0, 1, 2, 3, 4] [2] [5, 6, 7] (fun L => [.fix 35 [.d (.v (.slice none 0 0))], .fix 4 [.d (dbool false)], .dead, .fix 49 (List.map (fun z => SV.d (keS1 z)) g31.2.1), .fix 80 [.d (di .i64 a0), .d (di .i64 y2), .sl 3 1 0 ((y4).toNat) ((y4).toNat), .d (dfl g31.2.2)], .fix 44 [.d (di .i64 x35.Kind), .d (di .i64 x35.Layout), .d (di .i64 x35.SRID), .d (eS1 x35.Flat), .d (eS2 x35.Ends), .d (eS3 x35.Endss), .d (eS0 x35.Kids)], .frame fr37 [(4, .ptr 0 0), (5, .ptr 1 0), (6, .ptr 4 0), (12, .d (eS0 a1)), (13, .d (di .i64 ((a1.length : Nat) : Int))), (14, .d (di .i64 g31.1)), (18, .ptr 4 0)], .fix 44 [.d (di .i64 x35.Kind), .d (di .i64 x35.Layout), .d (di .i64 x35.SRID), .d (eS1 x35.Flat), .d (eS2 x35.Ends), .d (eS3 x35.Endss), .d (eS0 x35.Kids)], bif L 2 then .fix 87 [.d (di .i64 y43.geom1.geom0.layout), .d (di .i64 y43.geom1.geom0.stride), .d (eS1 y43.geom1.geom0.flatCoords), .d (di .i64 y43.geom1.geom0.srid)] else .dead]) [(2, SV.noO2 8 9)] mixed (by kernel_rfl) (fun L L' h => by simp only [h 2 (by decide)]) rfl ?_
        refine AS.op [3] [] [2] [] rfl rfl rfl (by kernel_rfl) (by kernel_rfl) rfl rfl (fun _ _ _ h => AOp.move rfl rfl (ltb rfl) rfl h) (by kernel_rfl) ?_
        refine AS.op [4] [] [2] [] rfl rfl rfl (by kernel_rfl) (by kernel_rfl) rfl rfl (fun _ _ _ h => AOp.move rfl rfl (ltb rfl) rfl h) (by kernel_rfl) ?_
        refine AS.mid [35, 36] [] [2] [] rfl rfl rfl rfl (by kernel_rfl) (by kernel_rfl) rfl rfl (fun _ _ _ h => AOp.callA rfl rfl (ltb rfl) rfl rfl (wa_NewLinearRingFlat x35.Layout y38 y43 q44) (AO.sink 8 9 rfl rfl rfl (.cons rfl (.cons rfl (.cons rfl (.cons (noO2_fixl (fun _ => rfl)) (.cons rfl (.cons rfl (.cons rfl (.cons rfl (.cons (noO2_cond rfl rfl) .nil))))))))) rfl h)) (by kernel_rfl) rfl ?_
        refine AS.op [1] [] [] [2] rfl rfl rfl (by kernel_rfl) (by kernel_rfl) rfl rfl (fun _ _ _ h => AOp.fieldAddr rfl rfl (ltb rfl) rfl fo44_2 h) (by kernel_rfl) ?_
        refine AS.op [38] [] [] [2] rfl rfl rfl (by kernel_rfl) (by kernel_rfl) rfl rfl (fun _ _ _ h => AOp.load1 rfl rfl (ltb rfl) rfl agg3 rfl rfl h) (by kernel_rfl) ?_
        refine AS.done ?_
        refine AO.objs (obs' := [.fix 35 [.d (.v (.slice none 0 0))], .fix 4 [.d (dbool false)], .dead, .fix 49 (List.map (fun z => SV.d (keS1 z)) g31.2.1), .fix 80 [.d (di .i64 a0), .d (di .i64 y2), .sl 3 1 0 ((y4).toNat) ((y4).toNat), .d (dfl g31.2.2)], .fix 44 [.d (di .i64 x35.Kind), .d (di .i64 x35.Layout), .d (di .i64 x35.SRID), .d (eS1 x35.Flat), .d (eS2 x35.Ends), .d (eS3 x35.Endss), .d (eS0 x35.Kids)], .frame fr37 [(4, .ptr 0 0), (5, .ptr 1 0), (6, .ptr 4 0), (12, .d (eS0 a1)), (13, .d (di .i64 ((a1.length : Nat) : Int))), (14, .d (di .i64 g31.1)), (18, .ptr 4 0)], .fix 44 [.d (di .i64 x35.Kind), .d (di .i64 x35.Layout), .d (di .i64 x35.SRID), .d (eS1 x35.Flat), .d (eS2 x35.Ends), .d (eS3 x35.Endss), .d (eS0 x35.Kids)], .fix 87 [.d (di .i64 y43.geom1.geom0.layout), .d (di .i64 y43.geom1.geom0.stride), .d (eS1 y43.geom1.geom0.flatCoords), .d (di .i64 y43.geom1.geom0.srid)]]) rfl ?_
        refine AO.op rfl (AOp.inl [2] (by kernel_rfl) Tryz.func42 rfl Tryz.ntmps42 rfl rfl (ltb rfl) rfl (leb rfl) rfl ?_)
        intro fr45
        refine AC.seq ?_
        refine AC.region ?_
        refine AO.op rfl (AOp.assign rfl rfl (ltb rfl) rfl ?_)
        refine AO.objs (obs' := [.fix 35 [.d (.v (.slice none 0 0))], .fix 4 [.d (dbool false)], .dead, .fix 49 (List.map (fun z => SV.d (keS1 z)) g31.2.1), .fix 80 [.d (di .i64 a0), .d (di .i64 y2), .sl 3 1 0 ((y4).toNat) ((y4).toNat), .d (dfl g31.2.2)], .fix 44 [.d (di .i64 x35.Kind), .d (di .i64 x35.Layout), .d (di .i64 x35.SRID), .d (eS1 x35.Flat), .d (eS2 x35.Ends), .d (eS3 x35.Endss), .d (eS0 x35.Kids)], .frame fr37 [(4, .ptr 0 0), (5, .ptr 1 0), (6, .ptr 4 0), (12, .d (eS0 a1)), (13, .d (di .i64 ((a1.length : Nat) : Int))), (14, .d (di .i64 g31.1)), (18, .ptr 4 0)], .fix 44 [.d (di .i64 x35.Kind), .d (di .i64 x35.Layout), .d (di .i64 x35.SRID), .d (eS1 x35.Flat), .d (eS2 x35.Ends), .d (eS3 x35.Endss), .d (eS0 x35.Kids)], .fix 87 [.d (di .i64 y43.geom1.geom0.layout), .d (di .i64 y43.geom1.geom0.stride), .d (eS1 y43.geom1.geom0.flatCoords), .d (di .i64 y43.geom1.geom0.srid)], .frame fr45 [(2, .d (.v (.nilIface)))]]) rfl ?_
        refine AO.nil ?_
        change AC _ _ _ _
        refine AC.seq ?_
        refine AC.region ?_
        refine AO.op rfl (AOp.move rfl rfl (ltb rfl) rfl ?_)
        refine AO.op rfl (AOp.move rfl rfl (ltb rfl) rfl ?_)
        refine AO.op rfl (AOp.nilCheck rfl rfl (ltb rfl) rfl rfl ?_)
        refine AO.op rfl (AOp.fieldAddr rfl rfl (ltb rfl) rfl fo87_0 ?_)
        refine AO.op rfl (AOp.fieldAddr rfl rfl (ltb rfl) rfl fo85_0 ?_)
        refine AO.op rfl (AOp.fieldAddr rfl rfl (ltb rfl) rfl fo83_3 ?_)
        refine AO.op rfl (AOp.store rfl rfl rfl rfl size3 rfl rfl rfl (leb rfl) ?_)
        refine AO.objs (obs' := [.fix 35 [.d (.v (.slice none 0 0))], .fix 4 [.d (dbool false)], .dead, .fix 49 (List.map (fun z => SV.d (keS1 z)) g31.2.1), .fix 80 [.d (di .i64 a0), .d (di .i64 y2), .sl 3 1 0 ((y4).toNat) ((y4).toNat), .d (dfl g31.2.2)], .fix 44 [.d (di .i64 x35.Kind), .d (di .i64 x35.Layout), .d (di .i64 x35.SRID), .d (eS1 x35.Flat), .d (eS2 x35.Ends), .d (eS3 x35.Endss), .d (eS0 x35.Kids)], .frame fr37 [(4, .ptr 0 0), (5, .ptr 1 0), (6, .ptr 4 0), (12, .d (eS0 a1)), (13, .d (di .i64 ((a1.length : Nat) : Int))), (14, .d (di .i64 g31.1)), (18, .ptr 4 0)], .fix 44 [.d (di .i64 x35.Kind), .d (di .i64 x35.Layout), .d (di .i64 x35.SRID), .d (eS1 x35.Flat), .d (eS2 x35.Ends), .d (eS3 x35.Endss), .d (eS0 x35.Kids)], .fix 87 [.d (di .i64 y43.geom1.geom0.layout), .d (di .i64 y43.geom1.geom0.stride), .d (eS1 y43.geom1.geom0.flatCoords), .d (di .i64 x35.SRID)], .frame fr45 [(2, .d (.v (.nilIface)))]]) rfl ?_
        refine AO.nil ?_
        change AC _ _ _ _
        refine AC.seq ?_
        refine AC.region ?_
        refine AO.op rfl (AOp.move rfl rfl (ltb rfl) rfl ?_)
        refine AO.op rfl (AOp.assign rfl rfl (ltb rfl) rfl ?_)
        refine AO.nil ?_
        change AC _ _ _ _
        refine AC.ret ?_
        refine inlret (ob' := [.fix 35 [.d (.v (.slice none 0 0))], .fix 4 [.d (dbool false)], .dead, .fix 49 (List.map (fun z => SV.d (keS1 z)) g31.2.1), .fix 80 [.d (di .i64 a0), .d (di .i64 y2), .sl 3 1 0 ((y4).toNat) ((y4).toNat), .d (dfl g31.2.2)], .fix 44 [.d (di .i64 x35.Kind), .d (di .i64 x35.Layout), .d (di .i64 x35.SRID), .d (eS1 x35.Flat), .d (eS2 x35.Ends), .d (eS3 x35.Endss), .d (eS0 x35.Kids)], .frame fr37 [(4, .ptr 0 0), (5, .ptr 1 0), (6, .ptr 4 0), (12, .d (eS0 a1)), (13, .d (di .i64 ((a1.length : Nat) : Int))), (14, .d (di .i64 g31.1)), (18, .ptr 4 0)], .fix 44 [.d (di .i64 x35.Kind), .d (di .i64 x35.Layout), .d (di .i64 x35.SRID), .d (eS1 x35.Flat), .d (eS2 x35.Ends), .d (eS3 x35.Endss), .d (eS0 x35.Kids)], .fix 87 [.d (di .i64 y43.geom1.geom0.layout), .d (di .i64 y43.geom1.geom0.stride), .d (eS1 y43.geom1.geom0.flatCoords), .d (di .i64 x35.SRID)], .dead]) (e' := [(2, .d (.v (.nilIface)))]) (r := .ptr 8 0) rfl rfl rfl ?_
        change AO _ _ _ _ _
        refine AO.op rfl (AOp.makeIfc rfl rfl (ltb rfl) rfl conc62 ?_)
        refine AO.op rfl (AOp.assign rfl rfl (ltb rfl) rfl ?_)
        refine AO.objs (obs' := [.fix 35 [.d (.v (.slice none 0 0))], .fix 4 [.d (dbool false)], .dead, .fix 49 (List.map (fun z => SV.d (keS1 z)) g31.2.1), .fix 80 [.d (di .i64 a0), .d (di .i64 y2), .sl 3 1 0 ((y4).toNat) ((y4).toNat), .d (dfl g31.2.2)], .fix 44 [.d (di .i64 x35.Kind), .d (di .i64 x35.Layout), .d (di .i64 x35.SRID), .d (eS1 x35.Flat), .d (eS2 x35.Ends), .d (eS3 x35.Endss), .d (eS0 x35.Kids)], .frame fr37 [(4, .ptr 0 0), (5, .ptr 1 0), (6, .ptr 4 0), (12, .d (eS0 a1)), (13, .d (di .i64 ((a1.length : Nat) : Int))), (14, .d (di .i64 g31.1)), (18, .ptr 4 0)], .fix 44 [.d (di .i64 x35.Kind), .d (di .i64 x35.Layout), .d (di .i64 x35.SRID), .d (eS1 x35.Flat), .d (eS2 x35.Ends), .d (eS3 x35.Endss), .d (eS0 x35.Kids)], .fix 87 [.d (di .i64 y43.geom1.geom0.layout), .d (di .i64 y43.geom1.geom0.stride), .d (eS1 y43.geom1.geom0.flatCoords), .d (di .i64 x35.SRID)], .dead]) rfl ?_
        refine AO.nil ?_
        change AC _ _ _ _
        refine AC.ret ?_
        refine inlret (ob' := [.fix 35 [.d (.v (.slice none 0 0))], .fix 4 [.d (dbool false)], .dead, .fix 49 (List.map (fun z => SV.d (keS1 z)) g31.2.1), .fix 80 [.d (di .i64 a0), .d (di .i64 y2), .sl 3 1 0 ((y4).toNat) ((y4).toNat), .d (dfl g31.2.2)], .fix 44 [.d (di .i64 x35.Kind), .d (di .i64 x35.Layout), .d (di .i64 x35.SRID), .d (eS1 x35.Flat), .d (eS2 x35.Ends), .d (eS3 x35.Endss), .d (eS0 x35.Kids)], .dead, .fix 44 [.d (di .i64 x35.Kind), .d (di .i64 x35.Layout), .d (di .i64 x35.SRID), .d (eS1 x35.Flat), .d (eS2 x35.Ends), .d (eS3 x35.Endss), .d (eS0 x35.Kids)], .fix 87 [.d (di .i64 y43.geom1.geom0.layout), .d (di .i64 y43.geom1.geom0.stride), .d (eS1 y43.geom1.geom0.flatCoords), .d (di .i64 x35.SRID)], .dead]) (e' := [(4, .ptr 0 0), (5, .ptr 1 0), (6, .ptr 4 0), (12, .d (eS0 a1)), (13, .d (di .i64 ((a1.length : Nat) : Int))), (14, .d (di .i64 g31.1)), (18, .ptr 4 0)]) (r := .ifc 62 (.ptr 8 0)) rfl rfl rfl ?_
        change AO _ _ _ _ _
        refine AO.op rfl (AOp.assertYes rfl rfl (ltb rfl) rfl rfl pass62_62 rfl ?_)
        refine AO.op rfl (AOp.inl [4, 5, 6, 12, 13, 14] (by kernel_rfl) Tryz.func20 rfl Tryz.ntmps20 rfl rfl (ltb rfl) rfl (leb rfl) rfl ?_)
        intro fr46
        refine AC.seq ?_
        refine AC.region ?_
        refine AO.op rfl (AOp.assign rfl rfl (ltb rfl) rfl ?_)
        refine AO.objs (obs' := [.fix 35 [.d (.v (.slice none 0 0))], .fix 4 [.d (dbool false)], .dead, .fix 49 (List.map (fun z => SV.d (keS1 z)) g31.2.1), .fix 80 [.d (di .i64 a0), .d (di .i64 y2), .sl 3 1 0 ((y4).toNat) ((y4).toNat), .d (dfl g31.2.2)], .fix 44 [.d (di .i64 x35.Kind), .d (di .i64 x35.Layout), .d (di .i64 x35.SRID), .d (eS1 x35.Flat), .d (eS2 x35.Ends), .d (eS3 x35.Endss), .d (eS0 x35.Kids)], .dead, .fix 44 [.d (di .i64 x35.Kind), .d (di .i64 x35.Layout), .d (di .i64 x35.SRID), .d (eS1 x35.Flat), .d (eS2 x35.Ends), .d (eS3 x35.Endss), .d (eS0 x35.Kids)], .fix 87 [.d (di .i64 y43.geom1.geom0.layout), .d (di .i64 y43.geom1.geom0.stride), .d (eS1 y43.geom1.geom0.flatCoords), .d (di .i64 x35.SRID)], .dead, .frame fr46 [(4, .ptr 0 0), (5, .ptr 1 0), (6, .ptr 4 0), (12, .d (eS0 a1)), (13, .d (di .i64 ((a1.length : Nat) : Int))), (14, .d (di .i64 g31.1))]]) rfl ?_
        refine AO.nil ?_
        change AC _ _ _ _
        refine AC.seq ?_
        refine AC.region ?_
        refine AO.op rfl (AOp.move rfl rfl (ltb rfl) rfl ?_)
        refine AO.op rfl (AOp.nilCheck rfl rfl (ltb rfl) rfl rfl ?_)
        refine AO.op rfl (AOp.fieldAddr rfl rfl (ltb rfl) rfl fo87_0 ?_)
        refine AO.op rfl (AOp.fieldAddr rfl rfl (ltb rfl) rfl fo85_0 ?_)
        refine AO.op rfl (AOp.inl [0] (by kernel_rfl) Tryz.func35 rfl Tryz.ntmps35 rfl rfl (ltb rfl) rfl (leb rfl) rfl ?_)
        intro fr47
        refine AC.seq ?_
        refine AC.region ?_
        refine AO.op rfl (AOp.assign rfl rfl (ltb rfl) rfl ?_)
        refine AO.objs (obs' := [.fix 35 [.d (.v (.slice none 0 0))], .fix 4 [.d (dbool false)], .dead, .fix 49 (List.map (fun z => SV.d (keS1 z)) g31.2.1), .fix 80 [.d (di .i64 a0), .d (di .i64 y2), .sl 3 1 0 ((y4).toNat) ((y4).toNat), .d (dfl g31.2.2)], .fix 44 [.d (di .i64 x35.Kind), .d (di .i64 x35.Layout), .d (di .i64 x35.SRID), .d (eS1 x35.Flat), .d (eS2 x35.Ends), .d (eS3 x35.Endss), .d (eS0 x35.Kids)], .dead, .fix 44 [.d (di .i64 x35.Kind), .d (di .i64 x35.Layout), .d (di .i64 x35.SRID), .d (eS1 x35.Flat), .d (eS2 x35.Ends), .d (eS3 x35.Endss), .d (eS0 x35.Kids)], .fix 87 [.d (di .i64 y43.geom1.geom0.layout), .d (di .i64 y43.geom1.geom0.stride), .d (eS1 y43.geom1.geom0.flatCoords), .d (di .i64 x35.SRID)], .dead, .frame fr46 [(4, .ptr 0 0), (5, .ptr 1 0), (6, .ptr 4 0), (12, .d (eS0 a1)), (13, .d (di .i64 ((a1.length : Nat) : Int))), (14, .d (di .i64 g31.1))], .frame fr47 [(0, .ptr 4 0)]]) rfl ?_
        refine AO.nil ?_
        change AC _ _ _ _
        refine AC.seq ?_
        refine AC.region ?_
        refine AO.op rfl (AOp.move rfl rfl (ltb rfl) rfl ?_)
        refine AO.op rfl (AOp.nilCheck rfl rfl (ltb rfl) rfl rfl ?_)
        refine AO.op rfl (AOp.fieldAddr rfl rfl (ltb rfl) rfl fo83_2 ?_)
        refine AO.op rfl (AOp.load1 rfl rfl (ltb rfl) rfl agg35 rfl rfl ?_)
        refine AO.op rfl (AOp.assign rfl rfl (ltb rfl) rfl ?_)
        refine AO.nil ?_
        change AC _ _ _ _
        refine AC.ret ?_
        refine inlret (ob' := [.fix 35 [.d (.v (.slice none 0 0))], .fix 4 [.d (dbool false)], .dead, .fix 49 (List.map (fun z => SV.d (keS1 z)) g31.2.1), .fix 80 [.d (di .i64 a0), .d (di .i64 y2), .sl 3 1 0 ((y4).toNat) ((y4).toNat), .d (dfl g31.2.2)], .fix 44 [.d (di .i64 x35.Kind), .d (di .i64 x35.Layout), .d (di .i64 x35.SRID), .d (eS1 x35.Flat), .d (eS2 x35.Ends), .d (eS3 x35.Endss), .d (eS0 x35.Kids)], .dead, .fix 44 [.d (di .i64 x35.Kind), .d (di .i64 x35.Layout), .d (di .i64 x35.SRID), .d (eS1 x35.Flat), .d (eS2 x35.Ends), .d (eS3 x35.Endss), .d (eS0 x35.Kids)], .fix 87 [.d (di .i64 y43.geom1.geom0.layout), .d (di .i64 y43.geom1.geom0.stride), .d (eS1 y43.geom1.geom0.flatCoords), .d (di .i64 x35.SRID)], .dead, .frame fr46 [(4, .ptr 0 0), (5, .ptr 1 0), (6, .ptr 4 0), (12, .d (eS0 a1)), (13, .d (di .i64 ((a1.length : Nat) : Int))), (14, .d (di .i64 g31.1))], .dead]) (e' := [(0, .ptr 4 0)]) (r := .d (eS1 y43.geom1.geom0.flatCoords)) rfl rfl rfl ?_
        change AO _ _ _ _ _
        refine AO.op rfl (AOp.assign rfl rfl (ltb rfl) rfl ?_)
        refine AO.objs (obs' := [.fix 35 [.d (.v (.slice none 0 0))], .fix 4 [.d (dbool false)], .dead, .fix 49 (List.map (fun z => SV.d (keS1 z)) g31.2.1), .fix 80 [.d (di .i64 a0), .d (di .i64 y2), .sl 3 1 0 ((y4).toNat) ((y4).toNat), .d (dfl g31.2.2)], .fix 44 [.d (di .i64 x35.Kind), .d (di .i64 x35.Layout), .d (di .i64 x35.SRID), .d (eS1 x35.Flat), .d (eS2 x35.Ends), .d (eS3 x35.Endss), .d (eS0 x35.Kids)], .dead, .fix 44 [.d (di .i64 x35.Kind), .d (di .i64 x35.Layout), .d (di .i64 x35.SRID), .d (eS1 x35.Flat), .d (eS2 x35.Ends), .d (eS3 x35.Endss), .d (eS0 x35.Kids)], .fix 87 [.d (di .i64 y43.geom1.geom0.layout), .d (di .i64 y43.geom1.geom0.stride), .d (eS1 y43.geom1.geom0.flatCoords), .d (di .i64 x35.SRID)], .dead, .frame fr46 [(4, .ptr 0 0), (5, .ptr 1 0), (6, .ptr 4 0), (12, .d (eS0 a1)), (13, .d (di .i64 ((a1.length : Nat) : Int))), (14, .d (di .i64 g31.1))], .dead]) rfl ?_
        refine AO.nil ?_
        change AC _ _ _ _
        refine AC.seq ?_
        refine AC.region ?_
        refine AO.op rfl (AOp.move rfl rfl (ltb rfl) rfl ?_)
        refine AO.op rfl (AOp.move rfl rfl (ltb rfl) rfl ?_)
        refine AO.op rfl (AOp.move rfl rfl (ltb rfl) rfl ?_)
        refine AO.op rfl (AOp.lenDs (n := y43.geom1.geom0.flatCoords.length) (cells := (List.map keS1 y43.geom1.geom0.flatCoords)) rfl rfl (ltb rfl) rfl el35 (by decide) (len1 _ _) ?_)
        refine AO.op rfl (AOp.inl [0] (by kernel_rfl) Tryz.func36 rfl Tryz.ntmps36 rfl rfl (ltb rfl) rfl (leb rfl) rfl ?_)
        intro fr48
        refine AC.seq ?_
        refine AC.region ?_
        refine AO.op rfl (AOp.move rfl rfl (ltb rfl) rfl ?_)
        refine AO.op rfl (AOp.move rfl rfl (ltb rfl) rfl ?_)
        refine AO.op rfl (AOp.nilCheck rfl rfl (ltb rfl) rfl rfl ?_)
        refine AO.op rfl (AOp.fieldAddr rfl rfl (ltb rfl) rfl fo80_1 ?_)
        refine AO.op rfl (AOp.load1 rfl rfl (ltb rfl) rfl agg3 rfl rfl ?_)
        obtain ⟨q49, h1⟩ := need_elim h1
        refine AO.op rfl (AOp.isub rfl rfl (ltb rfl) rfl rfl rfl q49.1 q49.2 ?_)
        refine AO.op rfl (AOp.assign rfl rfl (ltb rfl) rfl ?_)
        refine AO.objs (obs' := [.fix 35 [.d (.v (.slice none 0 0))], .fix 4 [.d (dbool false)], .dead, .fix 49 (List.map (fun z => SV.d (keS1 z)) g31.2.1), .fix 80 [.d (di .i64 a0), .d (di .i64 y2), .sl 3 1 0 ((y4).toNat) ((y4).toNat), .d (dfl g31.2.2)], .fix 44 [.d (di .i64 x35.Kind), .d (di .i64 x35.Layout), .d (di .i64 x35.SRID), .d (eS1 x35.Flat), .d (eS2 x35.Ends), .d (eS3 x35.Endss), .d (eS0 x35.Kids)], .dead, .fix 44 [.d (di .i64 x35.Kind), .d (di .i64 x35.Layout), .d (di .i64 x35.SRID), .d (eS1 x35.Flat), .d (eS2 x35.Ends), .d (eS3 x35.Endss), .d (eS0 x35.Kids)], .fix 87 [.d (di .i64 y43.geom1.geom0.layout), .d (di .i64 y43.geom1.geom0.stride), .d (eS1 y43.geom1.geom0.flatCoords), .d (di .i64 x35.SRID)], .dead, .frame fr46 [(4, .ptr 0 0), (5, .ptr 1 0), (6, .ptr 4 0), (12, .d (eS0 a1)), (13, .d (di .i64 ((a1.length : Nat) : Int))), (14, .d (di .i64 g31.1))], .dead, .frame fr48 [(0, .ptr 4 0)]]) rfl ?_
        refine AO.nil ?_
        change AC _ _ _ _
        refine AC.seq ?_
        refine AC.region ?_
        refine AO.op rfl (AOp.move rfl rfl (ltb rfl) rfl ?_)
        refine AO.op rfl (AOp.assign rfl rfl (ltb rfl) rfl ?_)
        refine AO.nil ?_
        change AC _ _ _ _
        obtain ⟨o50, l51, h1⟩ := bind_elim h1
        refine AC.joinE (V := ((List Nat) × Nat)) [] [] 13 (fun g52 => []) (fun g52 => [.fix 35 [.d (.v (.slice none 0 0))], .fix 4 [.d (dbool false)], .dead, .fix 49 (List.map (fun z => SV.d (keS1 z)) g52.1), .fix 80 [.d (di .i64 a0), .d (di .i64 y2), .sl 3 1 0 ((y4).toNat) ((y4).toNat), .d (dfl g52.2)], .fix 44 [.d (di .i64 x35.Kind), .d (di .i64 x35.Layout), .d (di .i64 x35.SRID), .d (eS1 x35.Flat), .d (eS2 x35.Ends), .d (eS3 x35.Endss), .d (eS0 x35.Kids)], .dead, .fix 44 [.d (di .i64 x35.Kind), .d (di .i64 x35.Layout), .d (di .i64 x35.SRID), .d (eS1 x35.Flat), .d (eS2 x35.Ends), .d (eS3 x35.Endss), .d (eS0 x35.Kids)], .fix 87 [.d (di .i64 y43.geom1.geom0.layout), .d (di .i64 y43.geom1.geom0.stride), .d (eS1 y43.geom1.geom0.flatCoords), .d (di .i64 x35.SRID)], .dead, .frame fr46 [(4, .ptr 0 0), (5, .ptr 1 0), (6, .ptr 4 0), (12, .d (eS0 a1)), (13, .d (di .i64 ((a1.length : Nat) : Int))), (14, .d (di .i64 g31.1))], .dead, .frame fr48 [(0, .ptr 4 0)]]) (fun g52 => (p_RingsCentroid_k3 g31 (iter (p_RingsCentroid_l2 a1 F y2 y4) n33)) g52 = some o7) rfl ?_ ?_
        · refine AC.block ?_
          refine AC.loopP (V := (Int × (List Nat) × Nat)) (p_RingsCentroid_l4 y2 y4 y43) o50 [0, 1, 8] [9] 13 (fun g54 => [(9, .d (di .i64 g54.1))]) (fun g54 => [.fix 35 [.d (.v (.slice none 0 0))], .fix 4 [.d (dbool false)], .dead, .fix 49 (List.map (fun z => SV.d (keS1 z)) g54.2.1), .fix 80 [.d (di .i64 a0), .d (di .i64 y2), .sl 3 1 0 ((y4).toNat) ((y4).toNat), .d (dfl g54.2.2)], .fix 44 [.d (di .i64 x35.Kind), .d (di .i64 x35.Layout), .d (di .i64 x35.SRID), .d (eS1 x35.Flat), .d (eS2 x35.Ends), .d (eS3 x35.Endss), .d (eS0 x35.Kids)], .dead, .fix 44 [.d (di .i64 x35.Kind), .d (di .i64 x35.Layout), .d (di .i64 x35.SRID), .d (eS1 x35.Flat), .d (eS2 x35.Ends), .d (eS3 x35.Endss), .d (eS0 x35.Kids)], .fix 87 [.d (di .i64 y43.geom1.geom0.layout), .d (di .i64 y43.geom1.geom0.stride), .d (eS1 y43.geom1.geom0.flatCoords), .d (di .i64 x35.SRID)], .dead, .frame fr46 [(4, .ptr 0 0), (5, .ptr 1 0), (6, .ptr 4 0), (12, .d (eS0 a1)), (13, .d (di .i64 ((a1.length : Nat) : Int))), (14, .d (di .i64 g31.1))], .dead, .frame fr48 [(0, .ptr 4 0)]]) F ((0 : Int), g31.2.1, g31.2.2) l51 rfl rfl (LeL.refl _) rfl (okU_mk rfl (okU_cons rfl (okU_cons rfl (okU_cons rfl (okU_cons (okU_fixl (fun _ => rfl)) (okU_cons rfl (okU_cons rfl (okU_cons rfl (okU_cons rfl (okU_cons rfl (okU_cons rfl (okU_cons rfl (okU_cons rfl (okU_cons rfl okU_nil)))))))))))))) ?_
          intro n56 g54 h2
          unfold p_RingsCentroid_l4 at h2
          refine AC.seq ?_
          refine AC.seq ?_
          refine AC.region ?_
          refine AO.op rfl (AOp.move rfl rfl (ltb rfl) rfl ?_)
          refine AO.op rfl (AOp.move rfl rfl (ltb rfl) rfl ?_)
          refine AO.op rfl (AOp.ilss rfl rfl (ltb rfl) rfl rfl ?_)
          refine AO.nil ?_
          change AC _ _ _ _
          refine AC.cond rfl (fun q57 => ?_) (fun q57 => ?_)
          · replace h2 := cT h2 q57
            refine AC.skip ?_
            change AC _ _ _ _
            refine AC.seq ?_
            refine AC.block ?_
            refine AC.seq ?_
            refine AC.draw 22 mixed (by kernel_rfl) ?_
            refine AD.op [1] rfl (by kernel_rfl) rfl rfl (fun _ _ h => AOp.move rfl rfl (ltb rfl) rfl h) ?_
            refine AD.op [9] rfl (by kernel_rfl) rfl rfl (fun _ _ h => AOp.move rfl rfl (ltb rfl) rfl h) ?_
            refine AD.op [9] rfl (by kernel_rfl) rfl rfl (fun _ _ h => AOp.move rfl rfl (ltb rfl) rfl h) ?_
            obtain ⟨q58, h2⟩ := need_elim h2
            refine AD.op [31] rfl (by kernel_rfl) rfl rfl (fun _ _ h => AOp.iadd rfl rfl (ltb rfl) rfl rfl rfl q58.1 q58.2 h) ?_
            obtain ⟨q59, h2⟩ := need_elim h2
            refine AD.op [29, 30, 32] rfl (by kernel_rfl) rfl rfl (fun _ _ h => AOp.sliceD (cells := (List.map keS1 y43.geom1.geom0.flatCoords)) (n := y43.geom1.geom0.flatCoords.length) (l := (g54.1).toNat) (hh := ((g54.1 + (2 : Int))).toNat) rfl rfl (ltb rfl) rfl (.inr ⟨_, _, _, rfl, rfl, q59.1.1, rfl⟩) (.inr ⟨_, _, _, rfl, rfl, q59.1.2, rfl⟩) el35 (by decide) (len1 _ _) q59.2.1 q59.2.2 (sub1 _ _ _ _) h) ?_
            refine AD.op [1] rfl (by kernel_rfl) rfl rfl (fun _ _ h => AOp.move rfl rfl (ltb rfl) rfl h) ?_
            refine AD.op [9] rfl (by kernel_rfl) rfl rfl (fun _ _ h => AOp.move rfl rfl (ltb rfl) rfl h) ?_
            refine AD.op [0] rfl (by kernel_rfl) rfl rfl (fun _ _ h => AOp.move rfl rfl (ltb rfl) rfl h) ?_
            refine AD.op [36] rfl (by kernel_rfl) rfl rfl (fun _ _ h => AOp.nilCheck rfl rfl (ltb rfl) rfl rfl h) ?_
            refine AD.op [37] rfl (by kernel_rfl) rfl rfl (fun _ _ h => AOp.fieldAddr rfl rfl (ltb rfl) rfl fo80_1 h) ?_
            refine AD.op [38] rfl (by kernel_rfl) rfl rfl (fun _ _ h => AOp.load1 rfl rfl (ltb rfl) rfl agg3 rfl rfl h) ?_
            obtain ⟨q60, h2⟩ := need_elim h2
            refine AD.op [35, 39] rfl (by kernel_rfl) rfl rfl (fun _ _ h => AOp.iadd rfl rfl (ltb rfl) rfl rfl rfl q60.1 q60.2 h) ?_
            refine AD.op [9] rfl (by kernel_rfl) rfl rfl (fun _ _ h => AOp.move rfl rfl (ltb rfl) rfl h) ?_
            refine AD.op [0] rfl (by kernel_rfl) rfl rfl (fun _ _ h => AOp.move rfl rfl (ltb rfl) rfl h) ?_
            refine AD.op [42] rfl (by kernel_rfl) rfl rfl (fun _ _ h => AOp.nilCheck rfl rfl (ltb rfl) rfl rfl h) ?_
            refine AD.op [43] rfl (by kernel_rfl) rfl rfl (fun _ _ h => AOp.fieldAddr rfl rfl (ltb rfl) rfl fo80_1 h) ?_
            refine AD.op [44] rfl (by kernel_rfl) rfl rfl (fun _ _ h => AOp.load1 rfl rfl (ltb rfl) rfl agg3 rfl rfl h) ?_
            obtain ⟨q61, h2⟩ := need_elim h2
            refine AD.op [41, 45] rfl (by kernel_rfl) rfl rfl (fun _ _ h => AOp.iadd rfl rfl (ltb rfl) rfl rfl rfl q61.1 q61.2 h) ?_
            obtain ⟨q62, h2⟩ := need_elim h2
            refine AD.op [46] rfl (by kernel_rfl) rfl rfl (fun _ _ h => AOp.iadd rfl rfl (ltb rfl) rfl rfl rfl q62.1 q62.2 h) ?_
            obtain ⟨q63, h2⟩ := need_elim h2
            refine AD.op [34, 40, 47] rfl (by kernel_rfl) rfl rfl (fun _ _ h => AOp.sliceD (cells := (List.map keS1 y43.geom1.geom0.flatCoords)) (n := y43.geom1.geom0.flatCoords.length) (l := ((g54.1 + y2)).toNat) (hh := (((g54.1 + y2) + (2 : Int))).toNat) rfl rfl (ltb rfl) rfl (.inr ⟨_, _, _, rfl, rfl, q63.1.1, rfl⟩) (.inr ⟨_, _, _, rfl, rfl, q63.1.2, rfl⟩) el35 (by decide) (len1 _ _) q63.2.1 q63.2.2 (sub1 _ _ _ _) h) ?_
            obtain ⟨y64, q65, h2⟩ := bind_elim h2
            refine AD.op [33, 48] rfl (by kernel_rfl) rfl rfl (fun _ _ h => AOp.callD rfl rfl (ltb rfl) rfl rfl (w_Distance2D ((y43.geom1.geom0.flatCoords.drop (g54.1).toNat).take (((g54.1 + (2 : Int))).toNat - (g54.1).toNat)) ((y43.geom1.geom0.flatCoords.drop ((g54.1 + y2)).toNat).take ((((g54.1 + y2) + (2 : Int))).toNat - ((g54.1 + y2)).toNat)) y64 q65) (by rintro _ rfl; exact h)) ?_
            refine AD.op [49] rfl (by kernel_rfl) rfl rfl (fun _ _ h => AOp.assign rfl rfl (ltb rfl) rfl h) ?_
            refine AD.done ?_
            refine AO.nil ?_
            change AC _ _ _ _
            refine AC.seq ?_
            refine AC.region ?_
            refine AO.op rfl (AOp.move rfl rfl (ltb rfl) rfl ?_)
            refine AO.op rfl (AOp.nilCheck rfl rfl (ltb rfl) rfl rfl ?_)
            refine AO.op rfl (AOp.fieldAddr rfl rfl (ltb rfl) rfl fo80_3 ?_)
            refine AO.op rfl (AOp.load1 rfl rfl (ltb rfl) rfl agg49 rfl rfl ?_)
            refine AO.op rfl (AOp.move rfl rfl (ltb rfl) rfl ?_)
            obtain ⟨z66, q67, h2⟩ := bind_elim h2
            refine AO.op rfl (AOp.farith rfl rfl (ltb rfl) rfl rfl q67 ?_)
            refine AO.op rfl (AOp.nilCheck rfl rfl (ltb rfl) rfl rfl ?_)
            refine AO.op rfl (AOp.fieldAddr rfl rfl (ltb rfl) rfl fo80_3 ?_)
            refine AO.op rfl (AOp.store rfl rfl rfl rfl size49 rfl rfl rfl (leb rfl) ?_)
            refine AO.objs (obs' := [.fix 35 [.d (.v (.slice none 0 0))], .fix 4 [.d (dbool false)], .dead, .fix 49 (List.map (fun z => SV.d (keS1 z)) g54.2.1), .fix 80 [.d (di .i64 a0), .d (di .i64 y2), .sl 3 1 0 ((y4).toNat) ((y4).toNat), .d (dfl z66)], .fix 44 [.d (di .i64 x35.Kind), .d (di .i64 x35.Layout), .d (di .i64 x35.SRID), .d (eS1 x35.Flat), .d (eS2 x35.Ends), .d (eS3 x35.Endss), .d (eS0 x35.Kids)], .dead, .fix 44 [.d (di .i64 x35.Kind), .d (di .i64 x35.Layout), .d (di .i64 x35.SRID), .d (eS1 x35.Flat), .d (eS2 x35.Ends), .d (eS3 x35.Endss), .d (eS0 x35.Kids)], .fix 87 [.d (di .i64 y43.geom1.geom0.layout), .d (di .i64 y43.geom1.geom0.stride), .d (eS1 y43.geom1.geom0.flatCoords), .d (di .i64 x35.SRID)], .dead, .frame fr46 [(4, .ptr 0 0), (5, .ptr 1 0), (6, .ptr 4 0), (12, .d (eS0 a1)), (13, .d (di .i64 ((a1.length : Nat) : Int))), (14, .d (di .i64 g31.1))], .dead, .frame fr48 [(0, .ptr 4 0)]]) rfl ?_
            refine AO.nil ?_
            change AC _ _ _ _
            refine AC.seq ?_
            refine AC.draw 16 mixed (by kernel_rfl) ?_
            refine AD.op [1] rfl (by kernel_rfl) rfl rfl (fun _ _ h => AOp.move rfl rfl (ltb rfl) rfl h) ?_
            refine AD.op [9] rfl (by kernel_rfl) rfl rfl (fun _ _ h => AOp.move rfl rfl (ltb rfl) rfl h) ?_
            obtain ⟨x68, q69, h2⟩ := idx_elim h2
            refine AD.op [58, 59] rfl (by kernel_rfl) rfl rfl (fun _ _ h => AOp.indexDs (cells := (List.map keS1 y43.geom1.geom0.flatCoords)) rfl rfl (ltb rfl) rfl rfl el35 (by decide) q69.1 (lt1 q69.2) h) ?_
            refine AD.op [60] rfl (by kernel_rfl) rfl rfl (fun _ _ h => AOp.loadEp rfl rfl (ltb rfl) rfl agg49 (at1 q69.2) h) ?_
            refine AD.op [1] rfl (by kernel_rfl) rfl rfl (fun _ _ h => AOp.move rfl rfl (ltb rfl) rfl h) ?_
            refine AD.op [9] rfl (by kernel_rfl) rfl rfl (fun _ _ h => AOp.move rfl rfl (ltb rfl) rfl h) ?_
            refine AD.op [0] rfl (by kernel_rfl) rfl rfl (fun _ _ h => AOp.move rfl rfl (ltb rfl) rfl h) ?_
            refine AD.op [64] rfl (by kernel_rfl) rfl rfl (fun _ _ h => AOp.nilCheck rfl rfl (ltb rfl) rfl rfl h) ?_
            refine AD.op [65] rfl (by kernel_rfl) rfl rfl (fun _ _ h => AOp.fieldAddr rfl rfl (ltb rfl) rfl fo80_1 h) ?_
            refine AD.op [66] rfl (by kernel_rfl) rfl rfl (fun _ _ h => AOp.load1 rfl rfl (ltb rfl) rfl agg3 rfl rfl h) ?_
            obtain ⟨q70, h2⟩ := need_elim h2
            refine AD.op [63, 67] rfl (by kernel_rfl) rfl rfl (fun _ _ h => AOp.iadd rfl rfl (ltb rfl) rfl rfl rfl q70.1 q70.2 h) ?_
            obtain ⟨x71, q72, h2⟩ := idx_elim h2
            refine AD.op [62, 68] rfl (by kernel_rfl) rfl rfl (fun _ _ h => AOp.indexDs (cells := (List.map keS1 y43.geom1.geom0.flatCoords)) rfl rfl (ltb rfl) rfl rfl el35 (by decide) q72.1 (lt1 q72.2) h) ?_
            refine AD.op [69] rfl (by kernel_rfl) rfl rfl (fun _ _ h => AOp.loadEp rfl rfl (ltb rfl) rfl agg49 (at1 q72.2) h) ?_
            obtain ⟨z73, q74, h2⟩ := bind_elim h2
            refine AD.op [61, 70] rfl (by kernel_rfl) rfl rfl (fun _ _ h => AOp.farith rfl rfl (ltb rfl) rfl rfl q74 h) ?_
            obtain ⟨z75, q76, h2⟩ := bind_elim h2
            refine AD.op [71] rfl (by kernel_rfl) rfl rfl (fun _ _ h => AOp.farith rfl rfl (ltb rfl) rfl rfl q76 h) ?_
            refine AD.op [72] rfl (by kernel_rfl) rfl rfl (fun _ _ h => AOp.assign rfl rfl (ltb rfl) rfl h) ?_
            refine AD.done ?_
            refine AO.nil ?_
            change AC _ _ _ _
            refine AC.seq ?_
            refine AC.region ?_
            refine AO.op rfl (AOp.move rfl rfl (ltb rfl) rfl ?_)
            refine AO.op rfl (AOp.nilCheck rfl rfl (ltb rfl) rfl rfl ?_)
            refine AO.op rfl (AOp.fieldAddr rfl rfl (ltb rfl) rfl fo80_2 ?_)
            refine AO.op rfl (AOp.load1 rfl rfl (ltb rfl) rfl agg67 rfl rfl ?_)
            obtain ⟨q77, h2⟩ := need_elim h2
            refine AO.op rfl (AOp.indexSl rfl rfl (ltb rfl) rfl rfl el67 q77.1 q77.2 ?_)
            obtain ⟨x78, q79, h2⟩ := idx_elim h2
            refine AO.op rfl (AOp.load1 rfl rfl (ltb rfl) rfl agg49 rfl (atO q79.2) ?_)
            refine AO.op rfl (AOp.move rfl rfl (ltb rfl) rfl ?_)
            refine AO.op rfl (AOp.move rfl rfl (ltb rfl) rfl ?_)
            obtain ⟨z80, q81, h2⟩ := bind_elim h2
            refine AO.op rfl (AOp.farith rfl rfl (ltb rfl) rfl rfl q81 ?_)
            obtain ⟨z82, q83, h2⟩ := bind_elim h2
            refine AO.op rfl (AOp.farith rfl rfl (ltb rfl) rfl rfl q83 ?_)
            obtain ⟨q84, h2⟩ := need_elim h2
            refine AO.op rfl (AOp.indexSl rfl rfl (ltb rfl) rfl rfl el67 q84.1 q84.2 ?_)
            obtain ⟨q85, h2⟩ := need_elim h2
            refine AO.op rfl (AOp.storeL (f := fun z => SV.d (keS1 z)) (l := g54.2.1) (i := ((0 : Int)).toNat) (v := z82) rfl rfl rfl rfl size49 rfl rfl rfl q85 ?_)
            refine AO.objs (obs' := [.fix 35 [.d (.v (.slice none 0 0))], .fix 4 [.d (dbool false)], .dead, .fix 49 (List.map (fun z => SV.d (keS1 z)) (g54.2.1.set ((0 : Int)).toNat z82)), .fix 80 [.d (di .i64 a0), .d (di .i64 y2), .sl 3 1 0 ((y4).toNat) ((y4).toNat), .d (dfl z66)], .fix 44 [.d (di .i64 x35.Kind), .d (di .i64 x35.Layout), .d (di .i64 x35.SRID), .d (eS1 x35.Flat), .d (eS2 x35.Ends), .d (eS3 x35.Endss), .d (eS0 x35.Kids)], .dead, .fix 44 [.d (di .i64 x35.Kind), .d (di .i64 x35.Layout), .d (di .i64 x35.SRID), .d (eS1 x35.Flat), .d (eS2 x35.Ends), .d (eS3 x35.Endss), .d (eS0 x35.Kids)], .fix 87 [.d (di .i64 y43.geom1.geom0.layout), .d (di .i64 y43.geom1.geom0.stride), .d (eS1 y43.geom1.geom0.flatCoords), .d (di .i64 x35.SRID)], .dead, .frame fr46 [(4, .ptr 0 0), (5, .ptr 1 0), (6, .ptr 4 0), (12, .d (eS0 a1)), (13, .d (di .i64 ((a1.length : Nat) : Int))), (14, .d (di .i64 g31.1))], .dead, .frame fr48 [(0, .ptr 4 0)]]) rfl ?_
            refine AO.nil ?_
            change AC _ _ _ _
            refine AC.seq ?_
            refine AC.draw 18 mixed (by kernel_rfl) ?_
            refine AD.op [1] rfl (by kernel_rfl) rfl rfl (fun _ _ h => AOp.move rfl rfl (ltb rfl) rfl h) ?_
            refine AD.op [9] rfl (by kernel_rfl) rfl rfl (fun _ _ h => AOp.move rfl rfl (ltb rfl) rfl h) ?_
            obtain ⟨q86, h2⟩ := need_elim h2
            refine AD.op [85] rfl (by kernel_rfl) rfl rfl (fun _ _ h => AOp.iadd rfl rfl (ltb rfl) rfl rfl rfl q86.1 q86.2 h) ?_
            obtain ⟨x87, q88, h2⟩ := idx_elim h2
            refine AD.op [84, 86] rfl (by kernel_rfl) rfl rfl (fun _ _ h => AOp.indexDs (cells := (List.map keS1 y43.geom1.geom0.flatCoords)) rfl rfl (ltb rfl) rfl rfl el35 (by decide) q88.1 (lt1 q88.2) h) ?_
            refine AD.op [87] rfl (by kernel_rfl) rfl rfl (fun _ _ h => AOp.loadEp rfl rfl (ltb rfl) rfl agg49 (at1 q88.2) h) ?_
            refine AD.op [1] rfl (by kernel_rfl) rfl rfl (fun _ _ h => AOp.move rfl rfl (ltb rfl) rfl h) ?_
            refine AD.op [9] rfl (by kernel_rfl) rfl rfl (fun _ _ h => AOp.move rfl rfl (ltb rfl) rfl h) ?_
            refine AD.op [0] rfl (by kernel_rfl) rfl rfl (fun _ _ h => AOp.move rfl rfl (ltb rfl) rfl h) ?_
            refine AD.op [91] rfl (by kernel_rfl) rfl rfl (fun _ _ h => AOp.nilCheck rfl rfl (ltb rfl) rfl rfl h) ?_
            refine AD.op [92] rfl (by kernel_rfl) rfl rfl (fun _ _ h => AOp.fieldAddr rfl rfl (ltb rfl) rfl fo80_1 h) ?_
            refine AD.op [93] rfl (by kernel_rfl) rfl rfl (fun _ _ h => AOp.load1 rfl rfl (ltb rfl) rfl agg3 rfl rfl h) ?_
            obtain ⟨q89, h2⟩ := need_elim h2
            refine AD.op [90, 94] rfl (by kernel_rfl) rfl rfl (fun _ _ h => AOp.iadd rfl rfl (ltb rfl) rfl rfl rfl q89.1 q89.2 h) ?_
            obtain ⟨q90, h2⟩ := need_elim h2
            refine AD.op [95] rfl (by kernel_rfl) rfl rfl (fun _ _ h => AOp.iadd rfl rfl (ltb rfl) rfl rfl rfl q90.1 q90.2 h) ?_
            obtain ⟨x91, q92, h2⟩ := idx_elim h2
            refine AD.op [89, 96] rfl (by kernel_rfl) rfl rfl (fun _ _ h => AOp.indexDs (cells := (List.map keS1 y43.geom1.geom0.flatCoords)) rfl rfl (ltb rfl) rfl rfl el35 (by decide) q92.1 (lt1 q92.2) h) ?_
            refine AD.op [97] rfl (by kernel_rfl) rfl rfl (fun _ _ h => AOp.loadEp rfl rfl (ltb rfl) rfl agg49 (at1 q92.2) h) ?_
            obtain ⟨z93, q94, h2⟩ := bind_elim h2
            refine AD.op [88, 98] rfl (by kernel_rfl) rfl rfl (fun _ _ h => AOp.farith rfl rfl (ltb rfl) rfl rfl q94 h) ?_
            obtain ⟨z95, q96, h2⟩ := bind_elim h2
            refine AD.op [99] rfl (by kernel_rfl) rfl rfl (fun _ _ h => AOp.farith rfl rfl (ltb rfl) rfl rfl q96 h) ?_
            refine AD.op [100] rfl (by kernel_rfl) rfl rfl (fun _ _ h => AOp.assign rfl rfl (ltb rfl) rfl h) ?_
            refine AD.done ?_
            refine AO.nil ?_
            change AC _ _ _ _
            refine AC.region ?_
            refine AO.op rfl (AOp.move rfl rfl (ltb rfl) rfl ?_)
            refine AO.op rfl (AOp.nilCheck rfl rfl (ltb rfl) rfl rfl ?_)
            refine AO.op rfl (AOp.fieldAddr rfl rfl (ltb rfl) rfl fo80_2 ?_)
            refine AO.op rfl (AOp.load1 rfl rfl (ltb rfl) rfl agg67 rfl rfl ?_)
            obtain ⟨q97, h2⟩ := need_elim h2
            refine AO.op rfl (AOp.indexSl rfl rfl (ltb rfl) rfl rfl el67 q97.1 q97.2 ?_)
            obtain ⟨x98, q99, h2⟩ := idx_elim h2
            refine AO.op rfl (AOp.load1 rfl rfl (ltb rfl) rfl agg49 rfl (atO q99.2) ?_)
            refine AO.op rfl (AOp.move rfl rfl (ltb rfl) rfl ?_)
            refine AO.op rfl (AOp.move rfl rfl (ltb rfl) rfl ?_)
            obtain ⟨z100, q101, h2⟩ := bind_elim h2
            refine AO.op rfl (AOp.farith rfl rfl (ltb rfl) rfl rfl q101 ?_)
            obtain ⟨z102, q103, h2⟩ := bind_elim h2
            refine AO.op rfl (AOp.farith rfl rfl (ltb rfl) rfl rfl q103 ?_)
            obtain ⟨q104, h2⟩ := need_elim h2
            refine AO.op rfl (AOp.indexSl rfl rfl (ltb rfl) rfl rfl el67 q104.1 q104.2 ?_)
            obtain ⟨q105, h2⟩ := need_elim h2
            refine AO.op rfl (AOp.storeL (f := fun z => SV.d (keS1 z)) (l := (g54.2.1.set ((0 : Int)).toNat z82)) (i := ((1 : Int)).toNat) (v := z102) rfl rfl rfl rfl size49 rfl rfl rfl q105 ?_)
            refine AO.objs (obs' := [.fix 35 [.d (.v (.slice none 0 0))], .fix 4 [.d (dbool false)], .dead, .fix 49 (List.map (fun z => SV.d (keS1 z)) ((g54.2.1.set ((0 : Int)).toNat z82).set ((1 : Int)).toNat z102)), .fix 80 [.d (di .i64 a0), .d (di .i64 y2), .sl 3 1 0 ((y4).toNat) ((y4).toNat), .d (dfl z66)], .fix 44 [.d (di .i64 x35.Kind), .d (di .i64 x35.Layout), .d (di .i64 x35.SRID), .d (eS1 x35.Flat), .d (eS2 x35.Ends), .d (eS3 x35.Endss), .d (eS0 x35.Kids)], .dead, .fix 44 [.d (di .i64 x35.Kind), .d (di .i64 x35.Layout), .d (di .i64 x35.SRID), .d (eS1 x35.Flat), .d (eS2 x35.Ends), .d (eS3 x35.Endss), .d (eS0 x35.Kids)], .fix 87 [.d (di .i64 y43.geom1.geom0.layout), .d (di .i64 y43.geom1.geom0.stride), .d (eS1 y43.geom1.geom0.flatCoords), .d (di .i64 x35.SRID)], .dead, .frame fr46 [(4, .ptr 0 0), (5, .ptr 1 0), (6, .ptr 4 0), (12, .d (eS0 a1)), (13, .d (di .i64 ((a1.length : Nat) : Int))), (14, .d (di .i64 g31.1))], .dead, .frame fr48 [(0, .ptr 4 0)]]) rfl ?_
            refine AO.nil ?_
            change AC _ _ _ _
            refine AC.region ?_
            refine AO.op rfl (AOp.move rfl rfl (ltb rfl) rfl ?_)
            refine AO.op rfl (AOp.move rfl rfl (ltb rfl) rfl ?_)
            refine AO.op rfl (AOp.nilCheck rfl rfl (ltb rfl) rfl rfl ?_)
            refine AO.op rfl (AOp.fieldAddr rfl rfl (ltb rfl) rfl fo80_1 ?_)
            refine AO.op rfl (AOp.load1 rfl rfl (ltb rfl) rfl agg3 rfl rfl ?_)
            obtain ⟨q106, h2⟩ := need_elim h2
            refine AO.op rfl (AOp.iadd rfl rfl (ltb rfl) rfl rfl rfl q106.1 q106.2 ?_)
            refine AO.op rfl (AOp.assign rfl rfl (ltb rfl) rfl ?_)
            refine AO.nil ?_
            exact ⟨((g54.1 + y2), ((g54.2.1.set ((0 : Int)).toNat z82).set ((1 : Int)).toNat z102), z66), _, rfl, (LeL.refl _), rfl, (okU_mk rfl (okU_cons rfl (okU_cons rfl (okU_cons rfl (okU_cons (okU_fixl (fun _ => rfl)) (okU_cons rfl (okU_cons rfl (okU_cons rfl (okU_cons rfl (okU_cons rfl (okU_cons rfl (okU_cons rfl (okU_cons rfl (okU_cons rfl okU_nil)))))))))))))), h2⟩
          replace h2 := cF h2 q57
          refine AC.exit ?_
          obtain rfl := Option.some.inj h2
          exact ⟨(g54.2.1, g54.2.2), _, rfl, (LeL.refl _), rfl, (okU_mk rfl (okU_cons rfl (okU_cons rfl (okU_cons rfl (okU_cons (okU_fixl (fun _ => rfl)) (okU_cons rfl (okU_cons rfl (okU_cons rfl (okU_cons rfl (okU_cons rfl (okU_cons rfl (okU_cons rfl (okU_cons rfl (okU_cons rfl okU_nil)))))))))))))), aftL h1⟩
        intro g52 h1
        unfold p_RingsCentroid_k3 at h1
        refine inlend (ob' := [.fix 35 [.d (.v (.slice none 0 0))], .fix 4 [.d (dbool false)], .dead, .fix 49 (List.map (fun z => SV.d (keS1 z)) g52.1), .fix 80 [.d (di .i64 a0), .d (di .i64 y2), .sl 3 1 0 ((y4).toNat) ((y4).toNat), .d (dfl g52.2)], .fix 44 [.d (di .i64 x35.Kind), .d (di .i64 x35.Layout), .d (di .i64 x35.SRID), .d (eS1 x35.Flat), .d (eS2 x35.Ends), .d (eS3 x35.Endss), .d (eS0 x35.Kids)], .dead, .fix 44 [.d (di .i64 x35.Kind), .d (di .i64 x35.Layout), .d (di .i64 x35.SRID), .d (eS1 x35.Flat), .d (eS2 x35.Ends), .d (eS3 x35.Endss), .d (eS0 x35.Kids)], .fix 87 [.d (di .i64 y43.geom1.geom0.layout), .d (di .i64 y43.geom1.geom0.stride), .d (eS1 y43.geom1.geom0.flatCoords), .d (di .i64 x35.SRID)], .dead, .frame fr46 [(4, .ptr 0 0), (5, .ptr 1 0), (6, .ptr 4 0), (12, .d (eS0 a1)), (13, .d (di .i64 ((a1.length : Nat) : Int))), (14, .d (di .i64 g31.1))], .dead, .dead]) (e' := [(0, .ptr 4 0)]) (r := .tu []) rfl rfl rfl ?_
        change AO _ _ _ _ _
        refine AO.objs (obs' := [.fix 35 [.d (.v (.slice none 0 0))], .fix 4 [.d (dbool false)], .dead, .fix 49 (List.map (fun z => SV.d (keS1 z)) g52.1), .fix 80 [.d (di .i64 a0), .d (di .i64 y2), .sl 3 1 0 ((y4).toNat) ((y4).toNat), .d (dfl g52.2)], .fix 44 [.d (di .i64 x35.Kind), .d (di .i64 x35.Layout), .d (di .i64 x35.SRID), .d (eS1 x35.Flat), .d (eS2 x35.Ends), .d (eS3 x35.Endss), .d (eS0 x35.Kids)], .dead, .fix 44 [.d (di .i64 x35.Kind), .d (di .i64 x35.Layout), .d (di .i64 x35.SRID), .d (eS1 x35.Flat), .d (eS2 x35.Ends), .d (eS3 x35.Endss), .d (eS0 x35.Kids)], .fix 87 [.d (di .i64 y43.geom1.geom0.layout), .d (di .i64 y43.geom1.geom0.stride), .d (eS1 y43.geom1.geom0.flatCoords), .d (di .i64 x35.SRID)], .dead, .frame fr46 [(4, .ptr 0 0), (5, .ptr 1 0), (6, .ptr 4 0), (12, .d (eS0 a1)), (13, .d (di .i64 ((a1.length : Nat) : Int))), (14, .d (di .i64 g31.1))], .dead, .dead]) rfl ?_
        refine AO.nil ?_
        change AC _ _ _ _
        refine AC.seq ?_
        refine AC.region ?_
        refine AO.op rfl (AOp.move rfl rfl (ltb rfl) rfl ?_)
        refine AO.op rfl (AOp.assign rfl rfl (ltb rfl) rfl ?_)
        refine AO.nil ?_
        change AC _ _ _ _
        refine AC.ret ?_
        refine inlret (ob' := [.fix 35 [.d (.v (.slice none 0 0))], .fix 4 [.d (dbool false)], .dead, .fix 49 (List.map (fun z => SV.d (keS1 z)) g52.1), .fix 80 [.d (di .i64 a0), .d (di .i64 y2), .sl 3 1 0 ((y4).toNat) ((y4).toNat), .d (dfl g52.2)], .fix 44 [.d (di .i64 x35.Kind), .d (di .i64 x35.Layout), .d (di .i64 x35.SRID), .d (eS1 x35.Flat), .d (eS2 x35.Ends), .d (eS3 x35.Endss), .d (eS0 x35.Kids)], .dead, .fix 44 [.d (di .i64 x35.Kind), .d (di .i64 x35.Layout), .d (di .i64 x35.SRID), .d (eS1 x35.Flat), .d (eS2 x35.Ends), .d (eS3 x35.Endss), .d (eS0 x35.Kids)], .fix 87 [.d (di .i64 y43.geom1.geom0.layout), .d (di .i64 y43.geom1.geom0.stride), .d (eS1 y43.geom1.geom0.flatCoords), .d (di .i64 x35.SRID)], .dead, .dead, .dead, .dead]) (e' := [(4, .ptr 0 0), (5, .ptr 1 0), (6, .ptr 4 0), (12, .d (eS0 a1)), (13, .d (di .i64 ((a1.length : Nat) : Int))), (14, .d (di .i64 g31.1))]) (r := .ptr 4 0) rfl rfl rfl ?_
        change AO _ _ _ _ _
        refine AO.objs (obs' := [.fix 35 [.d (.v (.slice none 0 0))], .fix 4 [.d (dbool false)], .dead, .fix 49 (List.map (fun z => SV.d (keS1 z)) g52.1), .fix 80 [.d (di .i64 a0), .d (di .i64 y2), .sl 3 1 0 ((y4).toNat) ((y4).toNat), .d (dfl g52.2)], .fix 44 [.d (di .i64 x35.Kind), .d (di .i64 x35.Layout), .d (di .i64 x35.SRID), .d (eS1 x35.Flat), .d (eS2 x35.Ends), .d (eS3 x35.Endss), .d (eS0 x35.Kids)], .dead, .fix 44 [.d (di .i64 x35.Kind), .d (di .i64 x35.Layout), .d (di .i64 x35.SRID), .d (eS1 x35.Flat), .d (eS2 x35.Ends), .d (eS3 x35.Endss), .d (eS0 x35.Kids)], .fix 87 [.d (di .i64 y43.geom1.geom0.layout), .d (di .i64 y43.geom1.geom0.stride), .d (eS1 y43.geom1.geom0.flatCoords), .d (di .i64 x35.SRID)], .dead, .dead, .dead, .dead]) rfl ?_
        refine AO.nil ?_
        change AC _ _ _ _
        refine AC.region ?_
        obtain ⟨q53, h1⟩ := need_elim h1
        refine AO.op rfl (AOp.iadd rfl rfl (ltb rfl) rfl rfl rfl q53.1 q53.2 ?_)
        refine AO.op rfl (AOp.move rfl rfl (ltb rfl) rfl ?_)
        refine AO.nil ?_
        exact ⟨((g31.1 + (1 : Int)), g52.1, g52.2), _, rfl, (LeL.refl _), rfl, (okU_mk rfl (okU_cons rfl (okU_cons rfl (okU_cons rfl (okU_cons (okU_fixl (fun _ => rfl)) (okU_cons rfl okU_nil)))))), h1⟩
      replace h1 := cF h1 q42
      refine AC.seq ?_
      refine AC.region ?_
      refine AO.op rfl (AOp.ieql rfl rfl (ltb rfl) rfl rfl ?_)
      refine AO.op rfl (AOp.assign rfl rfl (ltb rfl) rfl ?_)
      refine AO.nil ?_
      change AC _ _ _ _
      refine AC.cond rfl (fun q107 => ?_) (fun q107 => ?_)
      · replace h1 := cT h1 q107
        cases h1
      replace h1 := cF h1 q107
      refine AC.seq ?_
      refine AC.region ?_
      refine AO.op rfl (AOp.ieql rfl rfl (ltb rfl) rfl rfl ?_)
      refine AO.op rfl (AOp.assign rfl rfl (ltb rfl) rfl ?_)
      refine AO.nil ?_
      change AC _ _ _ _
      refine AC.cond rfl (fun q108 => ?_) (fun q108 => ?_)
      · replace h1 := cT h1 q108
        cases h1
      replace h1 := cF h1 q108
      refine AC.seq ?_
      refine AC.region ?_
      refine AO.op rfl (AOp.ieql rfl rfl (ltb rfl) rfl rfl ?_)
      refine AO.op rfl (AOp.assign rfl rfl (ltb rfl) rfl ?_)
      refine AO.nil ?_
      change AC _ _ _ _
      refine AC.cond rfl (fun q109 => ?_) (fun q109 => ?_)
      · replace h1 := cT h1 q109
        cases h1
      replace h1 := cF h1 q109
      refine AC.seq ?_
      refine AC.region ?_
      refine AO.op rfl (AOp.ieql rfl rfl (ltb rfl) rfl rfl ?_)
      refine AO.op rfl (AOp.assign rfl rfl (ltb rfl) rfl ?_)
      refine AO.nil ?_
      change AC _ _ _ _
      refine AC.cond rfl (fun q110 => ?_) (fun q110 => ?_)
      · replace h1 := cT h1 q110
        cases h1
      replace h1 := cF h1 q110
      refine AC.seq ?_
      refine AC.region ?_
      refine AO.op rfl (AOp.ieql rfl rfl (ltb rfl) rfl rfl ?_)
      refine AO.op rfl (AOp.assign rfl rfl (ltb rfl) rfl ?_)
      refine AO.nil ?_
      change AC _ _ _ _
      refine AC.cond rfl (fun q111 => ?_) (fun q111 => ?_)
      · replace h1 := cT h1 q111
        cases h1
      replace h1 := cF h1 q111
      refine AC.skip ?_
      change AC _ _ _ _
      refine AC.region ?_
      cases h1
    replace h1 := cF h1 q34
    refine AC.exit ?_
    obtain rfl := Option.some.inj h1
    exact ⟨(g31.2.1, g31.2.2), _, rfl, (LeL.refl _), rfl, (okU_mk rfl (okU_cons rfl (okU_cons rfl (okU_cons rfl (okU_cons (okU_fixl (fun _ => rfl)) (okU_cons rfl okU_nil)))))), aftL h0⟩
  intro g9 h0
  unfold p_RingsCentroid_k1 at h0
  change AC _ _ _ _
  refine AC.seq ?_
  refine AC.region ?_
  refine AO.op rfl (AOp.move rfl rfl (ltb rfl) rfl ?_)
  refine AO.op rfl (AOp.inl [4, 5] (by kernel_rfl) Tryz.func23 rfl Tryz.ntmps23 rfl rfl (ltb rfl) rfl (leb rfl) rfl ?_)
  intro fr10
  refine AC.seq ?_
  refine AC.region ?_
  refine AO.op rfl (AOp.assign rfl rfl (ltb rfl) rfl ?_)
  refine AO.objs (obs' := [.fix 35 [.d (.v (.slice none 0 0))], .fix 4 [.d (dbool false)], .dead, .fix 49 (List.map (fun z => SV.d (keS1 z)) g9.1), .fix 80 [.d (di .i64 a0), .d (di .i64 y2), .sl 3 1 0 ((y4).toNat) ((y4).toNat), .d (dfl g9.2)], .frame fr10 [(4, .ptr 0 0), (5, .ptr 1 0)]]) rfl ?_
  refine AO.nil ?_
  change AC _ _ _ _
  refine AC.seq ?_
  refine AC.region ?_
  refine AO.op rfl (AOp.move rfl rfl (ltb rfl) rfl ?_)
  refine AO.op rfl (AOp.nilCheck rfl rfl (ltb rfl) rfl rfl ?_)
  refine AO.op rfl (AOp.fieldAddr rfl rfl (ltb rfl) rfl fo80_0 ?_)
  refine AO.op rfl (AOp.load1 rfl rfl (ltb rfl) rfl agg60 rfl rfl ?_)
  obtain ⟨y11, q12, h0⟩ := bind_elim h0
  refine AO.op rfl (AOp.callD rfl rfl (ltb rfl) rfl rfl (w_Layout_Stride a0 y11 q12) ?_)
  rintro _ rfl
  obtain ⟨q13, h0⟩ := need_elim h0
  refine AO.op rfl (AOp.makeL (f := fun z => SV.d (keS1 z)) (z0 := (0 : Nat)) rfl rfl (ltb rfl) rfl rfl el35 info49 rfl rfl (by decide) q13.1 q13.2 rfl ?_)
  refine AO.op rfl (AOp.assign rfl rfl (ltb rfl) rfl ?_)
  refine AO.objs (obs' := [.fix 35 [.d (.v (.slice none 0 0))], .fix 4 [.d (dbool false)], .dead, .fix 49 (List.map (fun z => SV.d (keS1 z)) g9.1), .fix 80 [.d (di .i64 a0), .d (di .i64 y2), .sl 3 1 0 ((y4).toNat) ((y4).toNat), .d (dfl g9.2)], .frame fr10 [(4, .ptr 0 0), (5, .ptr 1 0)], .fix 49 (List.map (fun z => SV.d (keS1 z)) (List.replicate (y11).toNat (0 : Nat)))]) rfl ?_
  refine AO.nil ?_
  change AC _ _ _ _
  refine AC.seq ?_
  refine AC.draw 13 mixed (by kernel_rfl) ?_
  refine AD.op [3] rfl (by kernel_rfl) rfl rfl (fun _ _ h => AOp.move rfl rfl (ltb rfl) rfl h) ?_
  refine AD.op [0] rfl (by kernel_rfl) rfl rfl (fun _ _ h => AOp.move rfl rfl (ltb rfl) rfl h) ?_
  refine AD.op [11] rfl (by kernel_rfl) rfl rfl (fun _ _ h => AOp.nilCheck rfl rfl (ltb rfl) rfl rfl h) ?_
  refine AD.op [12] rfl (by kernel_rfl) rfl rfl (fun _ _ h => AOp.fieldAddr rfl rfl (ltb rfl) rfl fo80_2 h) ?_
  refine AD.op [13] rfl (by kernel_rfl) rfl rfl (fun _ _ h => AOp.load1 rfl rfl (ltb rfl) rfl agg67 rfl rfl h) ?_
  obtain ⟨q14, h0⟩ := need_elim h0
  refine AD.op [14] rfl (by kernel_rfl) rfl rfl (fun _ _ h => AOp.indexSl rfl rfl (ltb rfl) rfl rfl el67 q14.1 q14.2 h) ?_
  obtain ⟨x15, q16, h0⟩ := idx_elim h0
  refine AD.op [15] rfl (by kernel_rfl) rfl rfl (fun _ _ h => AOp.load1 rfl rfl (ltb rfl) rfl agg49 rfl (atO q16.2) h) ?_
  refine AD.op [0] rfl (by kernel_rfl) rfl rfl (fun _ _ h => AOp.move rfl rfl (ltb rfl) rfl h) ?_
  refine AD.op [17] rfl (by kernel_rfl) rfl rfl (fun _ _ h => AOp.nilCheck rfl rfl (ltb rfl) rfl rfl h) ?_
  refine AD.op [18] rfl (by kernel_rfl) rfl rfl (fun _ _ h => AOp.fieldAddr rfl rfl (ltb rfl) rfl fo80_3 h) ?_
  refine AD.op [19] rfl (by kernel_rfl) rfl rfl (fun _ _ h => AOp.load1 rfl rfl (ltb rfl) rfl agg49 rfl rfl h) ?_
  obtain ⟨z17, q18, h0⟩ := bind_elim h0
  refine AD.op [16, 20] rfl (by kernel_rfl) rfl rfl (fun _ _ h => AOp.farith rfl rfl (ltb rfl) rfl rfl q18 h) ?_
  obtain ⟨q19, h0⟩ := need_elim h0
  refine AD.op [10] rfl (by kernel_rfl) rfl rfl (fun _ _ h => AOp.indexSl rfl rfl (ltb rfl) rfl rfl el67 q19.1 q19.2 h) ?_
  refine AD.done ?_
  obtain ⟨q20, h0⟩ := need_elim h0
  refine AO.op rfl (AOp.storeL (f := fun z => SV.d (keS1 z)) (l := (List.replicate (y11).toNat (0 : Nat))) (i := ((0 : Int)).toNat) (v := z17) rfl rfl rfl rfl size49 rfl rfl rfl q20 ?_)
  refine AO.objs (obs' := [.fix 35 [.d (.v (.slice none 0 0))], .fix 4 [.d (dbool false)], .dead, .fix 49 (List.map (fun z => SV.d (keS1 z)) g9.1), .fix 80 [.d (di .i64 a0), .d (di .i64 y2), .sl 3 1 0 ((y4).toNat) ((y4).toNat), .d (dfl g9.2)], .frame fr10 [(4, .ptr 0 0), (5, .ptr 1 0)], .fix 49 (List.map (fun z => SV.d (keS1 z)) ((List.replicate (y11).toNat (0 : Nat)).set ((0 : Int)).toNat z17))]) rfl ?_
  refine AO.nil ?_
  change AC _ _ _ _
  refine AC.seq ?_
  refine AC.draw 13 mixed (by kernel_rfl) ?_
  refine AD.op [3] rfl (by kernel_rfl) rfl rfl (fun _ _ h => AOp.move rfl rfl (ltb rfl) rfl h) ?_
  refine AD.op [0] rfl (by kernel_rfl) rfl rfl (fun _ _ h => AOp.move rfl rfl (ltb rfl) rfl h) ?_
  refine AD.op [24] rfl (by kernel_rfl) rfl rfl (fun _ _ h => AOp.nilCheck rfl rfl (ltb rfl) rfl rfl h) ?_
  refine AD.op [25] rfl (by kernel_rfl) rfl rfl (fun _ _ h => AOp.fieldAddr rfl rfl (ltb rfl) rfl fo80_2 h) ?_
  refine AD.op [26] rfl (by kernel_rfl) rfl rfl (fun _ _ h => AOp.load1 rfl rfl (ltb rfl) rfl agg67 rfl rfl h) ?_
  obtain ⟨q21, h0⟩ := need_elim h0
  refine AD.op [27] rfl (by kernel_rfl) rfl rfl (fun _ _ h => AOp.indexSl rfl rfl (ltb rfl) rfl rfl el67 q21.1 q21.2 h) ?_
  obtain ⟨x22, q23, h0⟩ := idx_elim h0
  refine AD.op [28] rfl (by kernel_rfl) rfl rfl (fun _ _ h => AOp.load1 rfl rfl (ltb rfl) rfl agg49 rfl (atO q23.2) h) ?_
  refine AD.op [0] rfl (by kernel_rfl) rfl rfl (fun _ _ h => AOp.move rfl rfl (ltb rfl) rfl h) ?_
  refine AD.op [30] rfl (by kernel_rfl) rfl rfl (fun _ _ h => AOp.nilCheck rfl rfl (ltb rfl) rfl rfl h) ?_
  refine AD.op [31] rfl (by kernel_rfl) rfl rfl (fun _ _ h => AOp.fieldAddr rfl rfl (ltb rfl) rfl fo80_3 h) ?_
  refine AD.op [32] rfl (by kernel_rfl) rfl rfl (fun _ _ h => AOp.load1 rfl rfl (ltb rfl) rfl agg49 rfl rfl h) ?_
  obtain ⟨z24, q25, h0⟩ := bind_elim h0
  refine AD.op [29, 33] rfl (by kernel_rfl) rfl rfl (fun _ _ h => AOp.farith rfl rfl (ltb rfl) rfl rfl q25 h) ?_
  obtain ⟨q26, h0⟩ := need_elim h0
  refine AD.op [23] rfl (by kernel_rfl) rfl rfl (fun _ _ h => AOp.indexSl rfl rfl (ltb rfl) rfl rfl el67 q26.1 q26.2 h) ?_
  refine AD.done ?_
  obtain ⟨q27, h0⟩ := need_elim h0
  refine AO.op rfl (AOp.storeL (f := fun z => SV.d (keS1 z)) (l := ((List.replicate (y11).toNat (0 : Nat)).set ((0 : Int)).toNat z17)) (i := ((1 : Int)).toNat) (v := z24) rfl rfl rfl rfl size49 rfl rfl rfl q27 ?_)
  refine AO.objs (obs' := [.fix 35 [.d (.v (.slice none 0 0))], .fix 4 [.d (dbool false)], .dead, .fix 49 (List.map (fun z => SV.d (keS1 z)) g9.1), .fix 80 [.d (di .i64 a0), .d (di .i64 y2), .sl 3 1 0 ((y4).toNat) ((y4).toNat), .d (dfl g9.2)], .frame fr10 [(4, .ptr 0 0), (5, .ptr 1 0)], .fix 49 (List.map (fun z => SV.d (keS1 z)) (((List.replicate (y11).toNat (0 : Nat)).set ((0 : Int)).toNat z17).set ((1 : Int)).toNat z24))]) rfl ?_
  refine AO.nil ?_
  change AC _ _ _ _
  refine AC.seq ?_
  refine AC.region ?_
  refine AO.op rfl (AOp.move rfl rfl (ltb rfl) rfl ?_)
  refine AO.op rfl (AOp.assign rfl rfl (ltb rfl) rfl ?_)
  refine AO.nil ?_
  change AC _ _ _ _
  refine AC.ret ?_
  refine inlret (ob' := [.fix 35 [.d (.v (.slice none 0 0))], .fix 4 [.d (dbool false)], .dead, .fix 49 (List.map (fun z => SV.d (keS1 z)) g9.1), .fix 80 [.d (di .i64 a0), .d (di .i64 y2), .sl 3 1 0 ((y4).toNat) ((y4).toNat), .d (dfl g9.2)], .dead, .fix 49 (List.map (fun z => SV.d (keS1 z)) (((List.replicate (y11).toNat (0 : Nat)).set ((0 : Int)).toNat z17).set ((1 : Int)).toNat z24))]) (e' := [(4, .ptr 0 0), (5, .ptr 1 0)]) (r := .sl 6 1 0 ((y11).toNat) ((y11).toNat)) rfl rfl rfl ?_
  change AO _ _ _ _ _
  obtain ⟨q28, h0⟩ := need_elim h0
  refine AO.freezeF (ds := (List.map keS1 (((List.replicate (y11).toNat (0 : Nat)).set ((0 : Int)).toNat z17).set ((1 : Int)).toNat z24))) 25 6 rfl rfl rfl (by rw [List.map_map]; rfl) (lenq q28 (len1 _ _)) (Nat.le_refl _) ?_
  obtain ⟨y29, q30, h0⟩ := bind_elim h0
  refine AO.op rfl (AOp.callD rfl rfl (ltb rfl) rfl rfl (w_floats (((List.replicate (y11).toNat (0 : Nat)).set ((0 : Int)).toNat z17).set ((1 : Int)).toNat z24) y29 q30) ?_)
  rintro _ rfl
  refine AO.op rfl (AOp.store rfl rfl rfl rfl size35 rfl rfl rfl (leb rfl) ?_)
  refine AO.op rfl (AOp.store rfl rfl rfl rfl size4 rfl rfl rfl (leb rfl) ?_)
  refine AO.objs (obs' := [.fix 35 [.d (eS1 y29)], .fix 4 [.d (dbool true)], .dead, .fix 49 (List.map (fun z => SV.d (keS1 z)) g9.1), .fix 80 [.d (di .i64 a0), .d (di .i64 y2), .sl 3 1 0 ((y4).toNat) ((y4).toNat), .d (dfl g9.2)], .dead, .dead]) rfl ?_
  refine AO.nil ?_
  change AC _ _ _ _
  refine AC.ret ?_
  change RetQ _ _ _ .ret _
  obtain rfl := Option.some.inj h0
  refine retq rfl rfl

def row (l : List Nat) : D := .ds 1 (l.map dfl)
def rows (ls : List (List Nat)) : D := .ds 1 (ls.map row)
theorem map_at {α β : Type} (f : α → β) (l : List α) (k : Nat) (d : α) (h : k < l.length) : (l.map f)[(k : Int).toNat * 1]? = some (f (l.getD k d)) := by
  simp [h]
theorem all_take_succ {α : Type} (p : α → Bool) (l : List α) (k : Nat) (d : α) (h : k < l.length) : (l.take (k + 1)).all p = ((l.take k).all p && p (l.getD k d)) := by
  rw [List.take_succ_eq_append_getElem h, List.all_append]
  simp [h]
theorem all_false_at {α : Type} (p : α → Bool) (l : List α) (j : Nat) (d : α) (h : j < l.length) (hf : p (l.getD j d) = false) : l.all p = false := by
  rw [List.all_eq_false]
  refine ⟨l.getD j d, ?_, by rw [hf]; decide⟩
  rw [List.getD_eq_getElem?_getD, List.getElem?_eq_getElem h]; simp

theorem all_range_succ (p : Nat → Bool) (k : Nat) : (List.range (k + 1)).all p = ((List.range k).all p && p k) := by
  rw [List.range_succ, List.all_append]; simp
theorem all_range_no {p : Nat → Bool} {n k : Nat} (h : k < n) (hp : p k = false) : (List.range n).all p = false := by
  rw [List.all_eq_false]; exact ⟨k, by simpa using h, by rw [hp]; decide⟩
theorem row_at (l : List Nat) (k : Nat) (h : k < l.length) : (l.map dfl)[(k : Int).toNat * 1]? = some (dfl (l.getD k 0)) := map_at dfl l k 0 h

def finAll (l : List Nat) : Bool := (List.range l.length).all fun i => Flt.isFin (l.getD i 0)
def flat2l (pts : List (Nat × Nat)) : List Nat := pts.flatMap fun p => [p.1, p.2]
theorem flat2l_len (pts : List (Nat × Nat)) : (flat2l pts).length = pts.length * 2 := by
  unfold flat2l
  induction pts with
  | nil => rfl
  | cons p r ih => simp [ih]; omega
theorem flat2l_succ (pts : List (Nat × Nat)) (k : Nat) (h : k < pts.length) : flat2l (pts.take (k + 1)) = flat2l (pts.take k) ++ [(pts.getD k (0, 0)).1, (pts.getD k (0, 0)).2] := by
  unfold flat2l
  rw [List.take_succ_eq_append_getElem h, List.flatMap_append]
  simp [h]
theorem dbool_eq' {a b : Bool} (h : a = b) : dbool a = dbool b := by rw [h]
theorem fin_of {x z : Nat} (hz : floatBits .sub .f64 x x = some z ∨ (floatBits .sub .f64 x x = none ∧ Flt.nanB z)) : feq z 0 = Flt.isFin x := by
  cases hf : Flt.isFin x with
  | true =>
    obtain ⟨y, h1, h2⟩ := Flt.sub_self_zero hf
    rcases hz with h3 | ⟨h3, _⟩
    · rw [h1] at h3; cases h3; exact h2
    · rw [h1] at h3; cases h3
  | false =>
    have h1 := Flt.sub_self_none hf
    rcases hz with h3 | ⟨_, h3⟩
    · rw [h1] at h3; cases h3
    · exact Flt.feq_nan h3 _

set_option maxRecDepth 100000 in
/-- pub-orthodrome/spec.Finite -/
theorem finite (x : Nat) : FnD Tryz.prog 58 [dfl x] (fun r => r = dbool (Flt.isFin x)) := by
  refine FnD.of (by kernel_rfl) Tryz.func58 rfl Tryz.ntmps58 rfl (leb rfl) fun W ok => ?_
  refine AC.seq ?_
  refine AC.region ?_
  refine AO.op rfl (AOp.assign rfl rfl (ltb rfl) rfl ?_)
  refine AO.nil ?_
  change AC _ _ _ _
  refine AC.seq ?_
  refine AC.region ?_
  refine AO.op rfl (AOp.move rfl rfl (ltb rfl) rfl ?_)
  refine AO.op rfl (AOp.move rfl rfl (ltb rfl) rfl ?_)
  refine AO.op rfl (AOp.farithA (by simp) rfl rfl (ltb rfl) rfl rfl ?_)
  rintro z1_2 hz1_2
  refine AO.op rfl (AOp.feql rfl rfl (ltb rfl) rfl rfl ?_)
  refine AO.op rfl (AOp.assign rfl rfl (ltb rfl) rfl ?_)
  refine AO.nil ?_
  change AC _ _ _ _
  refine AC.ret ?_
  change RetQ _ _ _ .ret _
  refine retq rfl ?_
  rw [fin_of hz1_2]

set_option maxRecDepth 100000 in
set_option maxHeartbeats 4000000 in
/-- (pub-orthodrome/spec.Dyadic).Cmp -/
theorem w_Dyadic_Cmp (F : Nat) (a0 : TSpec_Dyadic) (a1 : TSpec_Dyadic) (r0 : Int) (h0 : p_Dyadic_Cmp F a0 a1 = some r0) : FnD Tryz.prog 60 [e_TSpec_Dyadic a0, e_TSpec_Dyadic a1] (fun r => r = di .i64 r0) := by
  refine FnD.of (by kernel_rfl) Tryz.func60 rfl Tryz.ntmps60 rfl (leb rfl) fun W ok => ?_
  unfold p_Dyadic_Cmp at h0
  refine AC.seq ?_
  refine AC.region ?_
  refine AO.op rfl (AOp.box rfl rfl (ltb rfl) rfl rfl ?_)
  refine AO.op rfl (AOp.box rfl rfl (ltb rfl) rfl rfl ?_)
  refine AO.op rfl (AOp.assign rfl rfl (ltb rfl) rfl ?_)
  refine AO.nil ?_
  change AC _ _ _ _
  refine AC.seq ?_
  refine AC.region ?_
  refine AO.op rfl (AOp.loadN rfl rfl (ltb rfl) rfl agg30 size30 rfl (leb rfl) rfl ?_)
  refine AO.op rfl (AOp.loadN rfl rfl (ltb rfl) rfl agg30 size30 rfl (leb rfl) rfl ?_)
  obtain ⟨y1, q2, h0⟩ := bind_elim h0
  refine AO.op rfl (AOp.callD rfl rfl (ltb rfl) rfl rfl (w_Dyadic_Sub F a0 a1 y1 q2) ?_)
  rintro _ rfl
  obtain ⟨y3, q4, h0⟩ := bind_elim h0
  refine AO.op rfl (AOp.callD rfl rfl (ltb rfl) rfl rfl (w_Dyadic_Sign y1 y3 q4) ?_)
  rintro _ rfl
  refine AO.op rfl (AOp.assign rfl rfl (ltb rfl) rfl ?_)
  refine AO.nil ?_
  change AC _ _ _ _
  refine AC.ret ?_
  change RetQ _ _ _ .ret _
  obtain rfl := Option.some.inj h0
  refine retq rfl rfl

set_option maxRecDepth 100000 in
set_option maxHeartbeats 4000000 in
/-- pub-orthodrome/laws.nearRatio -/
theorem w_nearRatio (F : Nat) (a0 : Nat) (a1 : TSpec_Ratio) (a2 : Int) (r0 : Bool) (h0 : p_nearRatio F a0 a1 a2 = some r0) : FnD Tryz.prog 24 [dfl a0, e_TSpec_Ratio a1, di .i64 a2] (fun r => r = dbool r0) := by
  refine FnD.of (by kernel_rfl) Tryz.func24 rfl Tryz.ntmps24 rfl (leb rfl) fun W ok => ?_
  unfold p_nearRatio at h0
  refine AC.seq ?_
  refine AC.region ?_
  refine AO.op rfl (AOp.box rfl rfl (ltb rfl) rfl rfl ?_)
  refine AO.op rfl (AOp.assign rfl rfl (ltb rfl) rfl ?_)
  refine AO.nil ?_
  change AC _ _ _ _
  refine AC.seq ?_
  refine AC.draw 20 mixed (by kernel_rfl) ?_
  refine AD.op [0] rfl (by kernel_rfl) rfl rfl (fun _ _ h => AOp.move rfl rfl (ltb rfl) rfl h) ?_
  refine AD.op [7] rfl (by kernel_rfl) rfl rfl (fun _ _ h => AOp.callD rfl rfl (ltb rfl) rfl rfl (finite a0) (by rintro _ rfl; exact h)) ?_
  refine AD.op [8] rfl (by kernel_rfl) rfl rfl (fun _ _ h => AOp.move rfl rfl (ltb rfl) rfl h) ?_
  refine AD.dec (Flt.isFin a0) (fun q1 => ?_) (fun q1 => ?_)
  · replace h0 := cT h0 q1
    refine AD.opY [0, 9] rfl rfl rfl q1 (by kernel_rfl) rfl rfl (fun _ _ h => AOp.move rfl rfl (ltb rfl) rfl h) ?_
    obtain ⟨y2, q3, h0⟩ := bind_elim h0
    refine AD.opY [9, 10] rfl rfl rfl q1 (by kernel_rfl) rfl rfl (fun _ _ h => AOp.callD rfl rfl (ltb rfl) rfl rfl (w_DyadicOf F a0 y2 q3) (by rintro _ rfl; exact h)) ?_
    refine AD.opY [4, 9] rfl rfl rfl q1 (by kernel_rfl) rfl rfl (fun _ _ h => AOp.fieldAddr rfl rfl (ltb rfl) rfl fo32_1 h) ?_
    refine AD.opY [9, 12] rfl rfl rfl q1 (by kernel_rfl) rfl rfl (fun _ _ h => AOp.loadN rfl rfl (ltb rfl) rfl agg30 size30 rfl (leb rfl) rfl h) ?_
    obtain ⟨y4, q5, h0⟩ := bind_elim h0
    refine AD.opY [9, 11, 13] rfl rfl rfl q1 (by kernel_rfl) rfl rfl (fun _ _ h => AOp.callD rfl rfl (ltb rfl) rfl rfl (w_Dyadic_Mul F y2 a1.D y4 q5) (by rintro _ rfl; exact h)) ?_
    refine AD.opY [4, 9] rfl rfl rfl q1 (by kernel_rfl) rfl rfl (fun _ _ h => AOp.fieldAddr rfl rfl (ltb rfl) rfl fo32_0 h) ?_
    refine AD.opY [9, 15] rfl rfl rfl q1 (by kernel_rfl) rfl rfl (fun _ _ h => AOp.loadN rfl rfl (ltb rfl) rfl agg30 size30 rfl (leb rfl) rfl h) ?_
    obtain ⟨y6, q7, h0⟩ := bind_elim h0
    refine AD.opY [9, 14, 16] rfl rfl rfl q1 (by kernel_rfl) rfl rfl (fun _ _ h => AOp.callD rfl rfl (ltb rfl) rfl rfl (w_Dyadic_Sub F y4 a1.N y6 q7) (by rintro _ rfl; exact h)) ?_
    obtain ⟨y8, q9, h0⟩ := bind_elim h0
    refine AD.opY [9, 17] rfl rfl rfl q1 (by kernel_rfl) rfl rfl (fun _ _ h => AOp.callD rfl rfl (ltb rfl) rfl rfl (w_Dyadic_Abs y6 y8 q9) (by rintro _ rfl; exact h)) ?_
    refine AD.opY [4, 9] rfl rfl rfl q1 (by kernel_rfl) rfl rfl (fun _ _ h => AOp.fieldAddr rfl rfl (ltb rfl) rfl fo32_1 h) ?_
    refine AD.opY [9, 19] rfl rfl rfl q1 (by kernel_rfl) rfl rfl (fun _ _ h => AOp.loadN rfl rfl (ltb rfl) rfl agg30 size30 rfl (leb rfl) rfl h) ?_
    refine AD.opY [2, 9] rfl rfl rfl q1 (by kernel_rfl) rfl rfl (fun _ _ h => AOp.move rfl rfl (ltb rfl) rfl h) ?_
    obtain ⟨y10, q11, h0⟩ := bind_elim h0
    refine AD.opY [9, 20, 21] rfl rfl rfl q1 (by kernel_rfl) rfl rfl (fun _ _ h => AOp.callD rfl rfl (ltb rfl) rfl rfl (w_Dyadic_Shift a1.D a2 y10 q11) (by rintro _ rfl; exact h)) ?_
    obtain ⟨y12, q13, h0⟩ := bind_elim h0
    refine AD.opY [9, 18, 22] rfl rfl rfl q1 (by kernel_rfl) rfl rfl (fun _ _ h => AOp.callD rfl rfl (ltb rfl) rfl rfl (w_Dyadic_Cmp F y8 y10 y12 q13) (by rintro _ rfl; exact h)) ?_
    refine AD.opY [9, 23] rfl rfl rfl q1 (by kernel_rfl) rfl rfl (fun _ _ h => AOp.ilss rfl rfl (ltb rfl) rfl rfl h) ?_
    refine AD.op [9, 24] rfl (by kernel_rfl) rfl rfl (fun _ _ h => AOp.pick rfl rfl (ltb rfl) rfl q1 rfl h) ?_
    refine AD.op [25] rfl (by kernel_rfl) rfl rfl (fun _ _ h => AOp.assign rfl rfl (ltb rfl) rfl h) ?_
    refine AD.done ?_
    refine AO.nil ?_
    change AC _ _ _ _
    refine AC.ret ?_
    change RetQ _ _ _ .ret _
    obtain rfl := Option.some.inj h0
    refine retq rfl rfl
  replace h0 := cF h0 q1
  refine AD.opN rfl rfl rfl (ltb rfl) rfl q1 ?_
  refine AD.opN rfl rfl rfl (ltb rfl) rfl q1 ?_
  refine AD.opN rfl rfl rfl (ltb rfl) rfl q1 ?_
  refine AD.opN rfl rfl rfl (ltb rfl) rfl q1 ?_
  refine AD.opN rfl rfl rfl (ltb rfl) rfl q1 ?_
  refine AD.opN rfl rfl rfl (ltb rfl) rfl q1 ?_
  refine AD.opN rfl rfl rfl (ltb rfl) rfl q1 ?_
  refine AD.opN rfl rfl rfl (ltb rfl) rfl q1 ?_
  refine AD.opN rfl rfl rfl (ltb rfl) rfl q1 ?_
  refine AD.opN rfl rfl rfl (ltb rfl) rfl q1 ?_
  refine AD.opN rfl rfl rfl (ltb rfl) rfl q1 ?_
  refine AD.opN rfl rfl rfl (ltb rfl) rfl q1 ?_
  refine AD.opN rfl rfl rfl (ltb rfl) rfl q1 ?_
  refine AD.opN rfl rfl rfl (ltb rfl) rfl q1 ?_
  refine AD.opN rfl rfl rfl (ltb rfl) rfl q1 ?_
  refine AD.op [9, 24] rfl (by kernel_rfl) rfl rfl (fun _ _ h => AOp.pickN rfl rfl (ltb rfl) rfl q1 rfl h) ?_
  refine AD.op [25] rfl (by kernel_rfl) rfl rfl (fun _ _ h => AOp.assign rfl rfl (ltb rfl) rfl h) ?_
  refine AD.done ?_
  refine AO.nil ?_
  change AC _ _ _ _
  refine AC.ret ?_
  change RetQ _ _ _ .ret _
  obtain rfl := Option.some.inj h0
  refine retq rfl rfl

set_option maxRecDepth 100000 in
set_option maxHeartbeats 4000000 in
/-- pub-orthodrome/laws.centred -/
theorem w_centred (F : Nat) (a0 : (List Nat)) (a1 : TSpec_Ratio) (a2 : TSpec_Ratio) (a3 : Int) (r0 : Bool) (h0 : p_centred F a0 a1 a2 a3 = some r0) : FnD Tryz.prog 7 [eS1 a0, e_TSpec_Ratio a1, e_TSpec_Ratio a2, di .i64 a3] (fun r => r = dbool r0) := by
  refine FnD.of (by kernel_rfl) Tryz.func7 rfl Tryz.ntmps7 rfl (leb rfl) fun W ok => ?_
  unfold p_centred at h0
  refine AC.seq ?_
  refine AC.region ?_
  refine AO.op rfl (AOp.box rfl rfl (ltb rfl) rfl rfl ?_)
  refine AO.op rfl (AOp.box rfl rfl (ltb rfl) rfl rfl ?_)
  refine AO.op rfl (AOp.assign rfl rfl (ltb rfl) rfl ?_)
  refine AO.nil ?_
  change AC _ _ _ _
  refine AC.seq ?_
  refine AC.joinP (V := Bool) [0] [34] 2 (fun g1 => [(34, .d (dbool g1))]) (fun g1 => [.fix 32 [.d (dbool a1.N.N.Neg), .d (eS4 a1.N.N.L), .d (di .i64 a1.N.E), .d (dbool a1.D.N.Neg), .d (eS4 a1.D.N.L), .d (di .i64 a1.D.E)], .fix 32 [.d (dbool a2.N.N.Neg), .d (eS4 a2.N.N.L), .d (di .i64 a2.N.E), .d (dbool a2.D.N.Neg), .d (eS4 a2.D.N.L), .d (di .i64 a2.D.E)]]) (fun g1 => (p_centred_k1 a0 F) g1 = some r0) rfl ?_ ?_
  · refine AC.draw 24 mixed (by kernel_rfl) ?_
    refine AD.op [0] rfl (by kernel_rfl) rfl rfl (fun _ _ h => AOp.move rfl rfl (ltb rfl) rfl h) ?_
    refine AD.op [11] rfl (by kernel_rfl) rfl rfl (fun _ _ h => AOp.lenDs (n := a0.length) (cells := (List.map keS1 a0)) rfl rfl (ltb rfl) rfl el35 (by decide) (len1 _ _) h) ?_
    refine AD.op [3] rfl (by kernel_rfl) rfl rfl (fun _ _ h => AOp.move rfl rfl (ltb rfl) rfl h) ?_
    refine AD.op [12, 13] rfl (by kernel_rfl) rfl rfl (fun _ _ h => AOp.ineq rfl rfl (ltb rfl) rfl rfl h) ?_
    refine AD.op [14] rfl (by kernel_rfl) rfl rfl (fun _ _ h => AOp.move rfl rfl (ltb rfl) rfl h) ?_
    refine AD.dec (!decide (((a0.length : Nat) : Int) = a3)) (fun q15 => ?_) (fun q15 => ?_)
    · replace h0 := cT h0 q15
      refine AD.opN rfl rfl rfl (ltb rfl) rfl q15 ?_
      refine AD.opN rfl rfl rfl (ltb rfl) rfl q15 ?_
      refine AD.op [15, 17] rfl (by kernel_rfl) rfl rfl (fun _ _ h => AOp.pick rfl rfl (ltb rfl) rfl q15 rfl h) ?_
      refine AD.op [18] rfl (by kernel_rfl) rfl rfl (fun _ _ h => AOp.move rfl rfl (ltb rfl) rfl h) ?_
      refine AD.opN rfl rfl rfl (ltb rfl) rfl rfl ?_
      refine AD.opN rfl rfl rfl (ltb rfl) rfl rfl ?_
      refine AD.opN rfl rfl rfl (ltb rfl) rfl rfl ?_
      refine AD.opN rfl rfl rfl (ltb rfl) rfl rfl ?_
      refine AD.opN rfl rfl rfl (ltb rfl) rfl rfl ?_
      refine AD.opN rfl rfl rfl (ltb rfl) rfl rfl ?_
      refine AD.op [19, 25] rfl (by kernel_rfl) rfl rfl (fun _ _ h => AOp.pick rfl rfl (ltb rfl) rfl rfl rfl h) ?_
      refine AD.op [26] rfl (by kernel_rfl) rfl rfl (fun _ _ h => AOp.move rfl rfl (ltb rfl) rfl h) ?_
      refine AD.opN rfl rfl rfl (ltb rfl) rfl rfl ?_
      refine AD.opN rfl rfl rfl (ltb rfl) rfl rfl ?_
      refine AD.opN rfl rfl rfl (ltb rfl) rfl rfl ?_
      refine AD.opN rfl rfl rfl (ltb rfl) rfl rfl ?_
      refine AD.opN rfl rfl rfl (ltb rfl) rfl rfl ?_
      refine AD.opN rfl rfl rfl (ltb rfl) rfl rfl ?_
      refine AD.op [27, 33] rfl (by kernel_rfl) rfl rfl (fun _ _ h => AOp.pick rfl rfl (ltb rfl) rfl rfl rfl h) ?_
      refine AD.done ?_
      refine AO.nil ?_
      exact ⟨true, _, rfl, (LeL.refl _), rfl, rfl, h0⟩
    replace h0 := cF h0 q15
    refine AD.opY [3, 15] rfl rfl rfl q15 (by kernel_rfl) rfl rfl (fun _ _ h => AOp.move rfl rfl (ltb rfl) rfl h) ?_
    refine AD.opY [15, 16] rfl rfl rfl q15 (by kernel_rfl) rfl rfl (fun _ _ h => AOp.ilss rfl rfl (ltb rfl) rfl rfl h) ?_
    refine AD.op [15, 17] rfl (by kernel_rfl) rfl rfl (fun _ _ h => AOp.pickN rfl rfl (ltb rfl) rfl q15 rfl h) ?_
    refine AD.op [18] rfl (by kernel_rfl) rfl rfl (fun _ _ h => AOp.move rfl rfl (ltb rfl) rfl h) ?_
    refine AD.dec (decide (a3 < (2 : Int))) (fun q16 => ?_) (fun q16 => ?_)
    · replace h0 := cT h0 q16
      refine AD.opN rfl rfl rfl (ltb rfl) rfl q16 ?_
      refine AD.opN rfl rfl rfl (ltb rfl) rfl q16 ?_
      refine AD.opN rfl rfl rfl (ltb rfl) rfl q16 ?_
      refine AD.opN rfl rfl rfl (ltb rfl) rfl q16 ?_
      refine AD.opN rfl rfl rfl (ltb rfl) rfl q16 ?_
      refine AD.opN rfl rfl rfl (ltb rfl) rfl q16 ?_
      refine AD.op [19, 25] rfl (by kernel_rfl) rfl rfl (fun _ _ h => AOp.pick rfl rfl (ltb rfl) rfl q16 rfl h) ?_
      refine AD.op [26] rfl (by kernel_rfl) rfl rfl (fun _ _ h => AOp.move rfl rfl (ltb rfl) rfl h) ?_
      refine AD.opN rfl rfl rfl (ltb rfl) rfl rfl ?_
      refine AD.opN rfl rfl rfl (ltb rfl) rfl rfl ?_
      refine AD.opN rfl rfl rfl (ltb rfl) rfl rfl ?_
      refine AD.opN rfl rfl rfl (ltb rfl) rfl rfl ?_
      refine AD.opN rfl rfl rfl (ltb rfl) rfl rfl ?_
      refine AD.opN rfl rfl rfl (ltb rfl) rfl rfl ?_
      refine AD.op [27, 33] rfl (by kernel_rfl) rfl rfl (fun _ _ h => AOp.pick rfl rfl (ltb rfl) rfl rfl rfl h) ?_
      refine AD.done ?_
      refine AO.nil ?_
      exact ⟨true, _, rfl, (LeL.refl _), rfl, rfl, h0⟩
    replace h0 := cF h0 q16
    refine AD.opY [0, 19] rfl rfl rfl q16 (by kernel_rfl) rfl rfl (fun _ _ h => AOp.move rfl rfl (ltb rfl) rfl h) ?_
    obtain ⟨x17, q18, h0⟩ := idx_elim h0
    refine AD.opY [19, 20] rfl rfl rfl q16 (by kernel_rfl) rfl rfl (fun _ _ h => AOp.indexDs (cells := (List.map keS1 a0)) rfl rfl (ltb rfl) rfl rfl el35 (by decide) q18.1 (lt1 q18.2) h) ?_
    refine AD.opY [19, 21] rfl rfl rfl q16 (by kernel_rfl) rfl rfl (fun _ _ h => AOp.loadEp rfl rfl (ltb rfl) rfl agg49 (at1 q18.2) h) ?_
    refine AD.opY [5, 19] rfl rfl rfl q16 (by kernel_rfl) rfl rfl (fun _ _ h => AOp.loadN rfl rfl (ltb rfl) rfl agg32 size32 rfl (leb rfl) rfl h) ?_
    obtain ⟨y19, q20, h0⟩ := bind_elim h0
    refine AD.opY [19, 22, 23] rfl rfl rfl q16 (by kernel_rfl) rfl rfl (fun _ _ h => AOp.callD rfl rfl (ltb rfl) rfl rfl (w_nearRatio F x17 a1 (-20 : Int) y19 q20) (by rintro _ rfl; exact h)) ?_
    refine AD.opY [19, 24] rfl rfl rfl q16 (by kernel_rfl) rfl rfl (fun _ _ h => AOp.bnot rfl rfl (ltb rfl) rfl h) ?_
    refine AD.op [19, 25] rfl (by kernel_rfl) rfl rfl (fun _ _ h => AOp.pickN rfl rfl (ltb rfl) rfl q16 rfl h) ?_
    refine AD.op [26] rfl (by kernel_rfl) rfl rfl (fun _ _ h => AOp.move rfl rfl (ltb rfl) rfl h) ?_
    refine AD.dec (!y19) (fun q21 => ?_) (fun q21 => ?_)
    · replace h0 := cT h0 q21
      refine AD.opN rfl rfl rfl (ltb rfl) rfl q21 ?_
      refine AD.opN rfl rfl rfl (ltb rfl) rfl q21 ?_
      refine AD.opN rfl rfl rfl (ltb rfl) rfl q21 ?_
      refine AD.opN rfl rfl rfl (ltb rfl) rfl q21 ?_
      refine AD.opN rfl rfl rfl (ltb rfl) rfl q21 ?_
      refine AD.opN rfl rfl rfl (ltb rfl) rfl q21 ?_
      refine AD.op [27, 33] rfl (by kernel_rfl) rfl rfl (fun _ _ h => AOp.pick rfl rfl (ltb rfl) rfl q21 rfl h) ?_
      refine AD.done ?_
      refine AO.nil ?_
      exact ⟨true, _, rfl, (LeL.refl _), rfl, rfl, h0⟩
    replace h0 := cF h0 q21
    refine AD.opY [0, 27] rfl rfl rfl q21 (by kernel_rfl) rfl rfl (fun _ _ h => AOp.move rfl rfl (ltb rfl) rfl h) ?_
    obtain ⟨x22, q23, h0⟩ := idx_elim h0
    refine AD.opY [27, 28] rfl rfl rfl q21 (by kernel_rfl) rfl rfl (fun _ _ h => AOp.indexDs (cells := (List.map keS1 a0)) rfl rfl (ltb rfl) rfl rfl el35 (by decide) q23.1 (lt1 q23.2) h) ?_
    refine AD.opY [27, 29] rfl rfl rfl q21 (by kernel_rfl) rfl rfl (fun _ _ h => AOp.loadEp rfl rfl (ltb rfl) rfl agg49 (at1 q23.2) h) ?_
    refine AD.opY [6, 27] rfl rfl rfl q21 (by kernel_rfl) rfl rfl (fun _ _ h => AOp.loadN rfl rfl (ltb rfl) rfl agg32 size32 rfl (leb rfl) rfl h) ?_
    obtain ⟨y24, q25, h0⟩ := bind_elim h0
    refine AD.opY [27, 30, 31] rfl rfl rfl q21 (by kernel_rfl) rfl rfl (fun _ _ h => AOp.callD rfl rfl (ltb rfl) rfl rfl (w_nearRatio F x22 a2 (-20 : Int) y24 q25) (by rintro _ rfl; exact h)) ?_
    refine AD.opY [27, 32] rfl rfl rfl q21 (by kernel_rfl) rfl rfl (fun _ _ h => AOp.bnot rfl rfl (ltb rfl) rfl h) ?_
    refine AD.op [27, 33] rfl (by kernel_rfl) rfl rfl (fun _ _ h => AOp.pickN rfl rfl (ltb rfl) rfl q21 rfl h) ?_
    refine AD.done ?_
    refine AO.nil ?_
    exact ⟨(!y24), _, rfl, (LeL.refl _), rfl, rfl, h0⟩
  intro g1 h0
  unfold p_centred_k1 at h0
  refine AC.cond rfl (fun q2 => ?_) (fun q2 => ?_)
  · replace h0 := cT h0 q2
    refine AC.seq ?_
    refine AC.region ?_
    refine AO.op rfl (AOp.assign rfl rfl (ltb rfl) rfl ?_)
    refine AO.nil ?_
    change AC _ _ _ _
    refine AC.ret ?_
    change RetQ _ _ _ .ret _
    obtain rfl := Option.some.inj h0
    refine retq rfl rfl
  replace h0 := cF h0 q2
  refine AC.skip ?_
  change AC _ _ _ _
  refine AC.seq ?_
  refine AC.seq ?_
  refine AC.region ?_
  refine AO.op rfl (AOp.move rfl rfl (ltb rfl) rfl ?_)
  obtain ⟨q3, h0⟩ := need_elim h0
  refine AO.op rfl (AOp.sliceD (cells := (List.map keS1 a0)) (n := a0.length) (l := ((2 : Int)).toNat) (hh := a0.length) rfl rfl (ltb rfl) rfl (.inr ⟨_, _, _, rfl, rfl, q3.1.1, rfl⟩) (.inl ⟨rfl, rfl⟩) el35 (by decide) (len1 _ _) q3.2.1 q3.2.2 (sub1 _ _ _ _) ?_)
  refine AO.op rfl (AOp.lenDs (n := ((a0.drop ((2 : Int)).toNat).take (a0.length - ((2 : Int)).toNat)).length) (cells := (List.map keS1 ((a0.drop ((2 : Int)).toNat).take (a0.length - ((2 : Int)).toNat)))) rfl rfl (ltb rfl) rfl el35 (by decide) (len1 _ _) ?_)
  refine AO.op rfl (AOp.move rfl rfl (ltb rfl) rfl ?_)
  refine AO.nil ?_
  change AC _ _ _ _
  obtain ⟨o4, l5, h0⟩ := bind_elim h0
  refine AC.joinE (V := Unit) [] [] 2 (fun g6 => []) (fun g6 => [.fix 32 [.d (dbool a1.N.N.Neg), .d (eS4 a1.N.N.L), .d (di .i64 a1.N.E), .d (dbool a1.D.N.Neg), .d (eS4 a1.D.N.L), .d (di .i64 a1.D.E)], .fix 32 [.d (dbool a2.N.N.Neg), .d (eS4 a2.N.N.L), .d (di .i64 a2.N.E), .d (dbool a2.D.N.Neg), .d (eS4 a2.D.N.L), .d (di .i64 a2.D.E)]]) (fun g6 => p_centred_k2 g6 = some r0) rfl ?_ ?_
  · refine AC.block ?_
    refine AC.loopP (V := Int) (p_centred_l3 a0) o4 [36, 37] [38] 2 (fun g7 => [(38, .d (di .i64 g7))]) (fun g7 => [.fix 32 [.d (dbool a1.N.N.Neg), .d (eS4 a1.N.N.L), .d (di .i64 a1.N.E), .d (dbool a1.D.N.Neg), .d (eS4 a1.D.N.L), .d (di .i64 a1.D.E)], .fix 32 [.d (dbool a2.N.N.Neg), .d (eS4 a2.N.N.L), .d (di .i64 a2.N.E), .d (dbool a2.D.N.Neg), .d (eS4 a2.D.N.L), .d (di .i64 a2.D.E)]]) F (0 : Int) l5 rfl rfl (LeL.refl _) rfl rfl ?_
    intro n9 g7 h1
    unfold p_centred_l3 at h1
    refine AC.seq ?_
    refine AC.region ?_
    refine AO.op rfl (AOp.ilss rfl rfl (ltb rfl) rfl rfl ?_)
    refine AO.nil ?_
    change AC _ _ _ _
    refine AC.seq ?_
    refine AC.cond rfl (fun q10 => ?_) (fun q10 => ?_)
    · replace h1 := cT h1 q10
      refine AC.skip ?_
      change AC _ _ _ _
      refine AC.seq ?_
      refine AC.block ?_
      refine AC.seq ?_
      refine AC.region ?_
      obtain ⟨x11, q12, h1⟩ := idx_elim h1
      refine AO.op rfl (AOp.indexDs (cells := (List.map keS1 ((a0.drop ((2 : Int)).toNat).take (a0.length - ((2 : Int)).toNat)))) rfl rfl (ltb rfl) rfl rfl el35 (by decide) q12.1 (lt1 q12.2) ?_)
      refine AO.op rfl (AOp.loadEp rfl rfl (ltb rfl) rfl agg49 (at1 q12.2) ?_)
      refine AO.op rfl (AOp.assign rfl rfl (ltb rfl) rfl ?_)
      refine AO.nil ?_
      change AC _ _ _ _
      refine AC.seq ?_
      refine AC.region ?_
      refine AO.op rfl (AOp.move rfl rfl (ltb rfl) rfl ?_)
      refine AO.op rfl (AOp.fneq rfl rfl (ltb rfl) rfl rfl ?_)
      refine AO.nil ?_
      change AC _ _ _ _
      refine AC.cond rfl (fun q13 => ?_) (fun q13 => ?_)
      · replace h1 := cT h1 q13
        refine AC.seq ?_
        refine AC.region ?_
        refine AO.op rfl (AOp.assign rfl rfl (ltb rfl) rfl ?_)
        refine AO.nil ?_
        change AC _ _ _ _
        refine AC.ret ?_
        change RetQ _ _ _ .ret _
        obtain rfl := Option.some.inj h1
        replace h0 := aftR h0
        obtain rfl := Option.some.inj h0
        refine retq rfl rfl
      replace h1 := cF h1 q13
      refine AC.skip ?_
      change AC _ _ _ _
      refine AC.region ?_
      obtain ⟨q14, h1⟩ := need_elim h1
      refine AO.op rfl (AOp.iadd rfl rfl (ltb rfl) rfl rfl rfl q14.1 q14.2 ?_)
      refine AO.op rfl (AOp.move rfl rfl (ltb rfl) rfl ?_)
      refine AO.nil ?_
      exact ⟨(g7 + (1 : Int)), _, rfl, (LeL.refl _), rfl, rfl, h1⟩
    replace h1 := cF h1 q10
    refine AC.exit ?_
    obtain rfl := Option.some.inj h1
    exact ⟨(), _, rfl, (LeL.refl _), rfl, rfl, aftL h0⟩
  intro g6 h0
  unfold p_centred_k2 at h0
  change AC _ _ _ _
  refine AC.seq ?_
  refine AC.region ?_
  refine AO.op rfl (AOp.assign rfl rfl (ltb rfl) rfl ?_)
  refine AO.nil ?_
  change AC _ _ _ _
  refine AC.ret ?_
  change RetQ _ _ _ .ret _
  obtain rfl := Option.some.inj h0
  refine retq rfl rfl

set_option maxRecDepth 100000 in
set_option maxHeartbeats 4000000 in
/-- pub-orthodrome/laws.FnRingsCentroid -/
theorem w_FnRingsCentroid (F : Nat) (a0 : Int) (a1 : (List TImpl_Geom)) (r0 : Bool) (h0 : p_FnRingsCentroid F a0 a1 = some r0) : FnD Tryz.prog 3 [di .i64 a0, eS0 a1] (fun r => r = dbool r0) := by
  refine FnD.of (by kernel_rfl) Tryz.func3 rfl Tryz.ntmps3 rfl (leb rfl) fun W ok => ?_
  unfold p_FnRingsCentroid at h0
  refine AC.seq ?_
  refine AC.region ?_
  refine AO.op rfl (AOp.assign rfl rfl (ltb rfl) rfl ?_)
  refine AO.nil ?_
  change AC _ _ _ _
  refine AC.seq ?_
  refine AC.seq ?_
  refine AC.region ?_
  refine AO.op rfl (AOp.move rfl rfl (ltb rfl) rfl ?_)
  refine AO.op rfl (AOp.lenDs (n := a1.length) (cells := (List.flatMap c0_TImpl_Geom a1)) rfl rfl (ltb rfl) rfl el22 (by decide) (lenN _ 7 c0_TImpl_Geom_len _) ?_)
  refine AO.op rfl (AOp.igtr rfl rfl (ltb rfl) rfl rfl ?_)
  refine AO.nil ?_
  change AC _ _ _ _
  refine AC.cond rfl (fun q1 => ?_) (fun q1 => ?_)
  · replace h0 := cT h0 q1
    refine AC.seq ?_
    refine AC.region ?_
    refine AO.op rfl (AOp.assign rfl rfl (ltb rfl) rfl ?_)
    refine AO.nil ?_
    change AC _ _ _ _
    refine AC.ret ?_
    change RetQ _ _ _ .ret _
    obtain rfl := Option.some.inj h0
    refine retq rfl rfl
  replace h0 := cF h0 q1
  refine AC.skip ?_
  change AC _ _ _ _
  refine AC.seq ?_
  refine AC.region ?_
  refine AO.op rfl (AOp.move rfl rfl (ltb rfl) rfl ?_)
  refine AO.op rfl (AOp.move rfl rfl (ltb rfl) rfl ?_)
  obtain ⟨y2, q3, h0⟩ := bind_elim h0
  refine AO.op rfl (AOp.callD rfl rfl (ltb rfl) rfl rfl (w_kindred F (8 : Int) a0 a1 y2 q3) ?_)
  rintro _ rfl
  refine AO.op rfl (AOp.move rfl rfl (ltb rfl) rfl ?_)
  first | refine AO.op rfl (AOp.extractD rfl rfl (ltb rfl) rfl rfl ?_) | refine AO.op rfl (AOp.extract rfl rfl (ltb rfl) rfl rfl ?_)
  first | refine AO.op rfl (AOp.extractD rfl rfl (ltb rfl) rfl rfl ?_) | refine AO.op rfl (AOp.extract rfl rfl (ltb rfl) rfl rfl ?_)
  refine AO.op rfl (AOp.assign rfl rfl (ltb rfl) rfl ?_)
  refine AO.op rfl (AOp.assign rfl rfl (ltb rfl) rfl ?_)
  refine AO.nil ?_
  change AC _ _ _ _
  refine AC.seq ?_
  refine AC.region ?_
  refine AO.op rfl (AOp.move rfl rfl (ltb rfl) rfl ?_)
  obtain ⟨y4, q5, h0⟩ := bind_elim h0
  refine AO.op rfl (AOp.callD rfl rfl (ltb rfl) rfl rfl (w_LineCentroid F y2.1 y4 q5) ?_)
  rintro _ rfl
  refine AO.op rfl (AOp.move rfl rfl (ltb rfl) rfl ?_)
  first | refine AO.op rfl (AOp.extractD rfl rfl (ltb rfl) rfl rfl ?_) | refine AO.op rfl (AOp.extract rfl rfl (ltb rfl) rfl rfl ?_)
  first | refine AO.op rfl (AOp.extractD rfl rfl (ltb rfl) rfl rfl ?_) | refine AO.op rfl (AOp.extract rfl rfl (ltb rfl) rfl rfl ?_)
  first | refine AO.op rfl (AOp.extractD rfl rfl (ltb rfl) rfl rfl ?_) | refine AO.op rfl (AOp.extract rfl rfl (ltb rfl) rfl rfl ?_)
  refine AO.op rfl (AOp.alloc rfl rfl (ltb rfl) zero32 rfl ?_)
  refine AO.op rfl (AOp.alloc rfl rfl (ltb rfl) zero32 rfl ?_)
  refine AO.op rfl (AOp.store rfl rfl rfl rfl size32 rfl rfl rfl (leb rfl) ?_)
  refine AO.op rfl (AOp.store rfl rfl rfl rfl size32 rfl rfl rfl (leb rfl) ?_)
  refine AO.op rfl (AOp.assign rfl rfl (ltb rfl) rfl ?_)
  refine AO.nil ?_
  change AC _ _ _ _
  refine AC.seq ?_
  refine AC.joinP (V := Bool) [0, 1, 7, 8] [32] 2 (fun g6 => [(32, .d (dbool g6))]) (fun g6 => [.fix 32 [.d (dbool y4.1.N.N.Neg), .d (eS4 y4.1.N.N.L), .d (di .i64 y4.1.N.E), .d (dbool y4.1.D.N.Neg), .d (eS4 y4.1.D.N.L), .d (di .i64 y4.1.D.E)], .fix 32 [.d (dbool y4.2.1.N.N.Neg), .d (eS4 y4.2.1.N.N.L), .d (di .i64 y4.2.1.N.E), .d (dbool y4.2.1.D.N.Neg), .d (eS4 y4.2.1.D.N.L), .d (di .i64 y4.2.1.D.E)]]) (fun g6 => (p_FnRingsCentroid_k1 a0 a1 F y4) g6 = some r0) rfl ?_ ?_
  · refine AC.region ?_
    refine AO.op rfl (AOp.move rfl rfl (ltb rfl) rfl ?_)
    refine AO.op rfl (AOp.bnot rfl rfl (ltb rfl) rfl ?_)
    refine AO.op rfl (AOp.move rfl rfl (ltb rfl) rfl ?_)
    refine AO.dec (!y2.2) (fun q15 => ?_) (fun q15 => ?_)
    · replace h0 := cT h0 q15
      refine AO.guardN rfl rfl rfl (ltb rfl) rfl q15 ?_
      refine AO.guardN rfl rfl rfl (ltb rfl) rfl q15 ?_
      refine AO.op rfl (AOp.pick rfl rfl (ltb rfl) rfl q15 rfl ?_)
      refine AO.nil ?_
      exact ⟨true, _, rfl, (LeL.refl _), rfl, rfl, h0⟩
    replace h0 := cF h0 q15
    refine AO.guardY rfl rfl rfl q15 (AOp.move rfl rfl (ltb rfl) rfl ?_)
    refine AO.guardY rfl rfl rfl q15 (AOp.bnot rfl rfl (ltb rfl) rfl ?_)
    refine AO.op rfl (AOp.pickN rfl rfl (ltb rfl) rfl q15 rfl ?_)
    refine AO.nil ?_
    exact ⟨(!y4.2.2), _, rfl, (LeL.refl _), rfl, rfl, h0⟩
  intro g6 h0
  unfold p_FnRingsCentroid_k1 at h0
  refine AC.cond rfl (fun q7 => ?_) (fun q7 => ?_)
  · replace h0 := cT h0 q7
    refine AC.seq ?_
    refine AC.region ?_
    refine AO.op rfl (AOp.assign rfl rfl (ltb rfl) rfl ?_)
    refine AO.nil ?_
    change AC _ _ _ _
    refine AC.ret ?_
    change RetQ _ _ _ .ret _
    obtain rfl := Option.some.inj h0
    refine retq rfl rfl
  replace h0 := cF h0 q7
  refine AC.skip ?_
  change AC _ _ _ _
  refine AC.seq ?_
  refine AC.region ?_
  refine AO.op rfl (AOp.move rfl rfl (ltb rfl) rfl ?_)
  refine AO.op rfl (AOp.move rfl rfl (ltb rfl) rfl ?_)
  obtain ⟨y8, q9, h0⟩ := bind_elim h0
  refine AO.op rfl (AOp.callD rfl rfl (ltb rfl) rfl rfl (w_RingsCentroid F a0 a1 y8 q9) ?_)
  rintro _ rfl
  refine AO.op rfl (AOp.move rfl rfl (ltb rfl) rfl ?_)
  first | refine AO.op rfl (AOp.extractD rfl rfl (ltb rfl) rfl rfl ?_) | refine AO.op rfl (AOp.extract rfl rfl (ltb rfl) rfl rfl ?_)
  first | refine AO.op rfl (AOp.extractD rfl rfl (ltb rfl) rfl rfl ?_) | refine AO.op rfl (AOp.extract rfl rfl (ltb rfl) rfl rfl ?_)
  refine AO.op rfl (AOp.assign rfl rfl (ltb rfl) rfl ?_)
  refine AO.op rfl (AOp.assign rfl rfl (ltb rfl) rfl ?_)
  refine AO.nil ?_
  change AC _ _ _ _
  refine AC.seq ?_
  refine AC.draw 10 mixed (by kernel_rfl) ?_
  refine AD.op [11] rfl (by kernel_rfl) rfl rfl (fun _ _ h => AOp.move rfl rfl (ltb rfl) rfl h) ?_
  refine AD.op [39] rfl (by kernel_rfl) rfl rfl (fun _ _ h => AOp.move rfl rfl (ltb rfl) rfl h) ?_
  refine AD.dec y8.2 (fun q10 => ?_) (fun q10 => ?_)
  · replace h0 := cT h0 q10
    refine AD.opY [10, 40] rfl rfl rfl q10 (by kernel_rfl) rfl rfl (fun _ _ h => AOp.move rfl rfl (ltb rfl) rfl h) ?_
    refine AD.opY [7, 40] rfl rfl rfl q10 (by kernel_rfl) rfl rfl (fun _ _ h => AOp.loadN rfl rfl (ltb rfl) rfl agg32 size32 rfl (leb rfl) rfl h) ?_
    refine AD.opY [8, 40] rfl rfl rfl q10 (by kernel_rfl) rfl rfl (fun _ _ h => AOp.loadN rfl rfl (ltb rfl) rfl agg32 size32 rfl (leb rfl) rfl h) ?_
    refine AD.opY [0, 40] rfl rfl rfl q10 (by kernel_rfl) rfl rfl (fun _ _ h => AOp.move rfl rfl (ltb rfl) rfl h) ?_
    obtain ⟨y11, q12, h0⟩ := bind_elim h0
    refine AD.opY [40, 44] rfl rfl rfl q10 (by kernel_rfl) rfl rfl (fun _ _ h => AOp.callD rfl rfl (ltb rfl) rfl rfl (w_Stride a0 y11 q12) (by rintro _ rfl; exact h)) ?_
    obtain ⟨y13, q14, h0⟩ := bind_elim h0
    refine AD.opY [40, 41, 42, 43, 45] rfl rfl rfl q10 (by kernel_rfl) rfl rfl (fun _ _ h => AOp.callD rfl rfl (ltb rfl) rfl rfl (w_centred F y8.1 y4.1 y4.2.1 y11 y13 q14) (by rintro _ rfl; exact h)) ?_
    refine AD.op [40, 46] rfl (by kernel_rfl) rfl rfl (fun _ _ h => AOp.pick rfl rfl (ltb rfl) rfl q10 rfl h) ?_
    refine AD.op [47] rfl (by kernel_rfl) rfl rfl (fun _ _ h => AOp.assign rfl rfl (ltb rfl) rfl h) ?_
    refine AD.done ?_
    refine AO.nil ?_
    change AC _ _ _ _
    refine AC.ret ?_
    change RetQ _ _ _ .ret _
    obtain rfl := Option.some.inj h0
    refine retq rfl rfl
  replace h0 := cF h0 q10
  refine AD.opN rfl rfl rfl (ltb rfl) rfl q10 ?_
  refine AD.opN rfl rfl rfl (ltb rfl) rfl q10 ?_
  refine AD.opN rfl rfl rfl (ltb rfl) rfl q10 ?_
  refine AD.opN rfl rfl rfl (ltb rfl) rfl q10 ?_
  refine AD.opN rfl rfl rfl (ltb rfl) rfl q10 ?_
  refine AD.opN rfl rfl rfl (ltb rfl) rfl q10 ?_
  refine AD.op [40, 46] rfl (by kernel_rfl) rfl rfl (fun _ _ h => AOp.pickN rfl rfl (ltb rfl) rfl q10 rfl h) ?_
  refine AD.op [47] rfl (by kernel_rfl) rfl rfl (fun _ _ h => AOp.assign rfl rfl (ltb rfl) rfl h) ?_
  refine AD.done ?_
  refine AO.nil ?_
  change AC _ _ _ _
  refine AC.ret ?_
  change RetQ _ _ _ .ret _
  obtain rfl := Option.some.inj h0
  refine retq rfl rfl

end Go.Proofs.YtdchenbdnalbcaaGreat.Wk
