/- Proved: more of it. -/
import Derived.Test.YtohgipjhcgblfaaWNm_0
namespace Go.Proofs.Ytohgipjhcgblfaa.Wk
open Go.Vm
set_option linter.unusedVariables false
set_option linter.unusedSimpArgs false
set_option maxRecDepth 100000 in
set_option maxHeartbeats 4000000 in
/-- pub-orthodrome/impl.NormalizedMeet -/
theorem w_NormalizedMeet (a0 : TImpl_P2) (a1 : TImpl_P2) (a2 : TImpl_P2) (a3 : TImpl_P2) (r0 : TImpl_P2) (h0 : p_NormalizedMeet a0 a1 a2 a3 = some r0) : FnD Try.prog 9 [e_TImpl_P2 a0, e_TImpl_P2 a1, e_TImpl_P2 a2, e_TImpl_P2 a3] (fun r => r = e_TImpl_P2 r0) := by
  refine FnD.of (by kernel_rfl) Try.func9 rfl Try.ntmps9 rfl (leb rfl) fun W ok => ?_
  unfold p_NormalizedMeet at h0
  refine AC.seq ?_
  refine AC.region ?_
  refine AO.op rfl (AOp.box rfl rfl (ltb rfl) rfl rfl ?_)
  refine AO.op rfl (AOp.box rfl rfl (ltb rfl) rfl rfl ?_)
  refine AO.op rfl (AOp.box rfl rfl (ltb rfl) rfl rfl ?_)
  refine AO.op rfl (AOp.box rfl rfl (ltb rfl) rfl rfl ?_)
  refine AO.op rfl (AOp.alloc rfl rfl (ltb rfl) zero24 rfl ?_)
  refine AO.objs (obs' := [.fix 24 [.d (dfl a0.X), .d (dfl a0.Y)], .fix 24 [.d (dfl a1.X), .d (dfl a1.Y)], .fix 24 [.d (dfl a2.X), .d (dfl a2.Y)], .fix 24 [.d (dfl a3.X), .d (dfl a3.Y)], .fix 24 [.d (dfl (0 : Nat)), .d (dfl (0 : Nat))]]) rfl ?_
  refine AO.nil ?_
  change AC _ _ _ _
  refine AC.seq ?_
  refine AC.draw 8 mixed (by kernel_rfl) ?_
  refine AD.op [4] rfl (by kernel_rfl) rfl rfl (fun _ _ h => AOp.loadN rfl rfl (ltb rfl) rfl agg24 size24 rfl (leb rfl) rfl h) ?_
  obtain ⟨y1, q2, h0⟩ := bind_elim h0
  refine AD.op [9] rfl (by kernel_rfl) rfl rfl (fun _ _ h => AOp.callD rfl rfl (ltb rfl) rfl rfl (w_coord a0 y1 q2) (by rintro _ rfl; exact h)) ?_
  refine AD.op [5] rfl (by kernel_rfl) rfl rfl (fun _ _ h => AOp.loadN rfl rfl (ltb rfl) rfl agg24 size24 rfl (leb rfl) rfl h) ?_
  obtain ⟨y3, q4, h0⟩ := bind_elim h0
  refine AD.op [11] rfl (by kernel_rfl) rfl rfl (fun _ _ h => AOp.callD rfl rfl (ltb rfl) rfl rfl (w_coord a1 y3 q4) (by rintro _ rfl; exact h)) ?_
  refine AD.op [6] rfl (by kernel_rfl) rfl rfl (fun _ _ h => AOp.loadN rfl rfl (ltb rfl) rfl agg24 size24 rfl (leb rfl) rfl h) ?_
  obtain ⟨y5, q6, h0⟩ := bind_elim h0
  refine AD.op [13] rfl (by kernel_rfl) rfl rfl (fun _ _ h => AOp.callD rfl rfl (ltb rfl) rfl rfl (w_coord a2 y5 q6) (by rintro _ rfl; exact h)) ?_
  refine AD.op [7] rfl (by kernel_rfl) rfl rfl (fun _ _ h => AOp.loadN rfl rfl (ltb rfl) rfl agg24 size24 rfl (leb rfl) rfl h) ?_
  obtain ⟨y7, q8, h0⟩ := bind_elim h0
  refine AD.op [15] rfl (by kernel_rfl) rfl rfl (fun _ _ h => AOp.callD rfl rfl (ltb rfl) rfl rfl (w_coord a3 y7 q8) (by rintro _ rfl; exact h)) ?_
  refine AD.done ?_
  refine AO.op rfl (AOp.inl [8] (by kernel_rfl) Try.func22 rfl Try.ntmps22 rfl rfl (ltb rfl) rfl (leb rfl) rfl ?_)
  intro fr9
  refine AC.seq ?_
  refine AC.region ?_
  refine AO.op rfl (AOp.assign rfl rfl (ltb rfl) rfl ?_)
  refine AO.objs (obs' := [.fix 24 [.d (dfl a0.X), .d (dfl a0.Y)], .fix 24 [.d (dfl a1.X), .d (dfl a1.Y)], .fix 24 [.d (dfl a2.X), .d (dfl a2.Y)], .fix 24 [.d (dfl a3.X), .d (dfl a3.Y)], .fix 24 [.d (dfl (0 : Nat)), .d (dfl (0 : Nat))], .frame fr9 [(8, .ptr 4 0)]]) rfl ?_
  refine AO.nil ?_
  change AC _ _ _ _
  refine AC.seq ?_
  refine AC.region ?_
  refine AO.op rfl (AOp.move rfl rfl (ltb rfl) rfl ?_)
  refine AO.op rfl (AOp.move rfl rfl (ltb rfl) rfl ?_)
  refine AO.op rfl (AOp.move rfl rfl (ltb rfl) rfl ?_)
  refine AO.op rfl (AOp.move rfl rfl (ltb rfl) rfl ?_)
  refine AO.op rfl (AOp.inl [8] (by kernel_rfl) Try.func40 rfl Try.ntmps40 rfl rfl (ltb rfl) rfl (leb rfl) rfl ?_)
  intro fr10
  refine AC.seq ?_
  refine AC.region ?_
  refine AO.op rfl (AOp.assign rfl rfl (ltb rfl) rfl ?_)
  refine AO.objs (obs' := [.fix 24 [.d (dfl a0.X), .d (dfl a0.Y)], .fix 24 [.d (dfl a1.X), .d (dfl a1.Y)], .fix 24 [.d (dfl a2.X), .d (dfl a2.Y)], .fix 24 [.d (dfl a3.X), .d (dfl a3.Y)], .fix 24 [.d (dfl (0 : Nat)), .d (dfl (0 : Nat))], .frame fr9 [(8, .ptr 4 0)], .frame fr10 [(8, .d (.v (.slice none 0 0)))]]) rfl ?_
  refine AO.nil ?_
  change AC _ _ _ _
  refine AC.seq ?_
  refine AC.region ?_
  obtain ⟨q11, h0⟩ := need_elim h0
  refine AO.op rfl (AOp.makeL (f := fun z => SV.d (keS1 z)) (z0 := (0 : Nat)) rfl rfl (ltb rfl) rfl rfl el56 info22 rfl rfl (by decide) q11.1 q11.2 rfl ?_)
  refine AO.op rfl (AOp.assign rfl rfl (ltb rfl) rfl ?_)
  refine AO.objs (obs' := [.fix 24 [.d (dfl a0.X), .d (dfl a0.Y)], .fix 24 [.d (dfl a1.X), .d (dfl a1.Y)], .fix 24 [.d (dfl a2.X), .d (dfl a2.Y)], .fix 24 [.d (dfl a3.X), .d (dfl a3.Y)], .fix 24 [.d (dfl (0 : Nat)), .d (dfl (0 : Nat))], .frame fr9 [(8, .ptr 4 0)], .frame fr10 [(8, .d (.v (.slice none 0 0)))], .fix 22 (List.map (fun z => SV.d (keS1 z)) (List.replicate ((2 : Int)).toNat (0 : Nat)))]) rfl ?_
  refine AO.nil ?_
  change AC _ _ _ _
  refine AC.seq ?_
  refine AC.region ?_
  obtain ⟨q12, h0⟩ := need_elim h0
  refine AO.op rfl (AOp.makeL (f := fun z => SV.d (keS1 z)) (z0 := (0 : Nat)) rfl rfl (ltb rfl) rfl rfl el56 info22 rfl rfl (by decide) q12.1 q12.2 rfl ?_)
  refine AO.op rfl (AOp.assign rfl rfl (ltb rfl) rfl ?_)
  refine AO.objs (obs' := [.fix 24 [.d (dfl a0.X), .d (dfl a0.Y)], .fix 24 [.d (dfl a1.X), .d (dfl a1.Y)], .fix 24 [.d (dfl a2.X), .d (dfl a2.Y)], .fix 24 [.d (dfl a3.X), .d (dfl a3.Y)], .fix 24 [.d (dfl (0 : Nat)), .d (dfl (0 : Nat))], .frame fr9 [(8, .ptr 4 0)], .frame fr10 [(8, .d (.v (.slice none 0 0)))], .fix 22 (List.map (fun z => SV.d (keS1 z)) (List.replicate ((2 : Int)).toNat (0 : Nat))), .fix 22 (List.map (fun z => SV.d (keS1 z)) (List.replicate ((2 : Int)).toNat (0 : Nat)))]) rfl ?_
  refine AO.nil ?_
  change AC _ _ _ _
  refine AC.seq ?_
  refine AC.region ?_
  obtain ⟨q13, h0⟩ := need_elim h0
  refine AO.op rfl (AOp.makeL (f := fun z => SV.d (keS1 z)) (z0 := (0 : Nat)) rfl rfl (ltb rfl) rfl rfl el56 info22 rfl rfl (by decide) q13.1 q13.2 rfl ?_)
  refine AO.op rfl (AOp.assign rfl rfl (ltb rfl) rfl ?_)
  refine AO.objs (obs' := [.fix 24 [.d (dfl a0.X), .d (dfl a0.Y)], .fix 24 [.d (dfl a1.X), .d (dfl a1.Y)], .fix 24 [.d (dfl a2.X), .d (dfl a2.Y)], .fix 24 [.d (dfl a3.X), .d (dfl a3.Y)], .fix 24 [.d (dfl (0 : Nat)), .d (dfl (0 : Nat))], .frame fr9 [(8, .ptr 4 0)], .frame fr10 [(8, .d (.v (.slice none 0 0)))], .fix 22 (List.map (fun z => SV.d (keS1 z)) (List.replicate ((2 : Int)).toNat (0 : Nat))), .fix 22 (List.map (fun z => SV.d (keS1 z)) (List.replicate ((2 : Int)).toNat (0 : Nat))), .fix 22 (List.map (fun z => SV.d (keS1 z)) (List.replicate ((2 : Int)).toNat (0 : Nat)))]) rfl ?_
  refine AO.nil ?_
  change AC _ _ _ _
  refine AC.seq ?_
  refine AC.region ?_
  obtain ⟨q14, h0⟩ := need_elim h0
  refine AO.op rfl (AOp.makeL (f := fun z => SV.d (keS1 z)) (z0 := (0 : Nat)) rfl rfl (ltb rfl) rfl rfl el56 info22 rfl rfl (by decide) q14.1 q14.2 rfl ?_)
  refine AO.op rfl (AOp.assign rfl rfl (ltb rfl) rfl ?_)
  refine AO.objs (obs' := [.fix 24 [.d (dfl a0.X), .d (dfl a0.Y)], .fix 24 [.d (dfl a1.X), .d (dfl a1.Y)], .fix 24 [.d (dfl a2.X), .d (dfl a2.Y)], .fix 24 [.d (dfl a3.X), .d (dfl a3.Y)], .fix 24 [.d (dfl (0 : Nat)), .d (dfl (0 : Nat))], .frame fr9 [(8, .ptr 4 0)], .frame fr10 [(8, .d (.v (.slice none 0 0)))], .fix 22 (List.map (fun z => SV.d (keS1 z)) (List.replicate ((2 : Int)).toNat (0 : Nat))), .fix 22 (List.map (fun z => SV.d (keS1 z)) (List.replicate ((2 : Int)).toNat (0 : Nat))), .fix 22 (List.map (fun z => SV.d (keS1 z)) (List.replicate ((2 : Int)).toNat (0 : Nat))), .fix 22 (List.map (fun z => SV.d (keS1 z)) (List.replicate ((2 : Int)).toNat (0 : Nat)))]) rfl ?_
  refine AO.nil ?_
  change AC _ _ _ _
  refine AC.seq ?_
  refine AC.region ?_
  refine AO.op rfl (AOp.move rfl rfl (ltb rfl) rfl ?_)
  refine AO.op rfl (AOp.move rfl rfl (ltb rfl) rfl ?_)
  obtain ⟨q15, h0⟩ := need_elim h0
  obtain ⟨c16, q17, h0⟩ := bind_elim h0
  refine AO.op rfl (AOp.copyL2 (k := keS1) (l := (List.replicate ((2 : Int)).toNat (0 : Nat))) (l2 := y1) (m := (min y1.length (List.replicate ((2 : Int)).toNat (0 : Nat)).length)) rfl rfl (ltb rfl) rfl rfl el56 rfl q15 (fun _ => rfl) rfl (Option.some.inj q17) ?_)
  refine AO.objs (obs' := [.fix 24 [.d (dfl a0.X), .d (dfl a0.Y)], .fix 24 [.d (dfl a1.X), .d (dfl a1.Y)], .fix 24 [.d (dfl a2.X), .d (dfl a2.Y)], .fix 24 [.d (dfl a3.X), .d (dfl a3.Y)], .fix 24 [.d (dfl (0 : Nat)), .d (dfl (0 : Nat))], .frame fr9 [(8, .ptr 4 0)], .frame fr10 [(8, .d (.v (.slice none 0 0)))], .fix 22 (List.map (fun z => SV.d (keS1 z)) c16), .fix 22 (List.map (fun z => SV.d (keS1 z)) (List.replicate ((2 : Int)).toNat (0 : Nat))), .fix 22 (List.map (fun z => SV.d (keS1 z)) (List.replicate ((2 : Int)).toNat (0 : Nat))), .fix 22 (List.map (fun z => SV.d (keS1 z)) (List.replicate ((2 : Int)).toNat (0 : Nat)))]) rfl ?_
  refine AO.nil ?_
  change AC _ _ _ _
  refine AC.seq ?_
  refine AC.region ?_
  refine AO.op rfl (AOp.move rfl rfl (ltb rfl) rfl ?_)
  refine AO.op rfl (AOp.move rfl rfl (ltb rfl) rfl ?_)
  obtain ⟨q18, h0⟩ := need_elim h0
  obtain ⟨c19, q20, h0⟩ := bind_elim h0
  refine AO.op rfl (AOp.copyL2 (k := keS1) (l := (List.replicate ((2 : Int)).toNat (0 : Nat))) (l2 := y3) (m := (min y3.length (List.replicate ((2 : Int)).toNat (0 : Nat)).length)) rfl rfl (ltb rfl) rfl rfl el56 rfl q18 (fun _ => rfl) rfl (Option.some.inj q20) ?_)
  refine AO.objs (obs' := [.fix 24 [.d (dfl a0.X), .d (dfl a0.Y)], .fix 24 [.d (dfl a1.X), .d (dfl a1.Y)], .fix 24 [.d (dfl a2.X), .d (dfl a2.Y)], .fix 24 [.d (dfl a3.X), .d (dfl a3.Y)], .fix 24 [.d (dfl (0 : Nat)), .d (dfl (0 : Nat))], .frame fr9 [(8, .ptr 4 0)], .frame fr10 [(8, .d (.v (.slice none 0 0)))], .fix 22 (List.map (fun z => SV.d (keS1 z)) c16), .fix 22 (List.map (fun z => SV.d (keS1 z)) c19), .fix 22 (List.map (fun z => SV.d (keS1 z)) (List.replicate ((2 : Int)).toNat (0 : Nat))), .fix 22 (List.map (fun z => SV.d (keS1 z)) (List.replicate ((2 : Int)).toNat (0 : Nat)))]) rfl ?_
  refine AO.nil ?_
  change AC _ _ _ _
  refine AC.seq ?_
  refine AC.region ?_
  refine AO.op rfl (AOp.move rfl rfl (ltb rfl) rfl ?_)
  refine AO.op rfl (AOp.move rfl rfl (ltb rfl) rfl ?_)
  obtain ⟨q21, h0⟩ := need_elim h0
  obtain ⟨c22, q23, h0⟩ := bind_elim h0
  refine AO.op rfl (AOp.copyL2 (k := keS1) (l := (List.replicate ((2 : Int)).toNat (0 : Nat))) (l2 := y5) (m := (min y5.length (List.replicate ((2 : Int)).toNat (0 : Nat)).length)) rfl rfl (ltb rfl) rfl rfl el56 rfl q21 (fun _ => rfl) rfl (Option.some.inj q23) ?_)
  refine AO.objs (obs' := [.fix 24 [.d (dfl a0.X), .d (dfl a0.Y)], .fix 24 [.d (dfl a1.X), .d (dfl a1.Y)], .fix 24 [.d (dfl a2.X), .d (dfl a2.Y)], .fix 24 [.d (dfl a3.X), .d (dfl a3.Y)], .fix 24 [.d (dfl (0 : Nat)), .d (dfl (0 : Nat))], .frame fr9 [(8, .ptr 4 0)], .frame fr10 [(8, .d (.v (.slice none 0 0)))], .fix 22 (List.map (fun z => SV.d (keS1 z)) c16), .fix 22 (List.map (fun z => SV.d (keS1 z)) c19), .fix 22 (List.map (fun z => SV.d (keS1 z)) c22), .fix 22 (List.map (fun z => SV.d (keS1 z)) (List.replicate ((2 : Int)).toNat (0 : Nat)))]) rfl ?_
  refine AO.nil ?_
  change AC _ _ _ _
  refine AC.seq ?_
  refine AC.region ?_
  refine AO.op rfl (AOp.move rfl rfl (ltb rfl) rfl ?_)
  refine AO.op rfl (AOp.move rfl rfl (ltb rfl) rfl ?_)
  obtain ⟨q24, h0⟩ := need_elim h0
  obtain ⟨c25, q26, h0⟩ := bind_elim h0
  refine AO.op rfl (AOp.copyL2 (k := keS1) (l := (List.replicate ((2 : Int)).toNat (0 : Nat))) (l2 := y7) (m := (min y7.length (List.replicate ((2 : Int)).toNat (0 : Nat)).length)) rfl rfl (ltb rfl) rfl rfl el56 rfl q24 (fun _ => rfl) rfl (Option.some.inj q26) ?_)
  refine AO.objs (obs' := [.fix 24 [.d (dfl a0.X), .d (dfl a0.Y)], .fix 24 [.d (dfl a1.X), .d (dfl a1.Y)], .fix 24 [.d (dfl a2.X), .d (dfl a2.Y)], .fix 24 [.d (dfl a3.X), .d (dfl a3.Y)], .fix 24 [.d (dfl (0 : Nat)), .d (dfl (0 : Nat))], .frame fr9 [(8, .ptr 4 0)], .frame fr10 [(8, .d (.v (.slice none 0 0)))], .fix 22 (List.map (fun z => SV.d (keS1 z)) c16), .fix 22 (List.map (fun z => SV.d (keS1 z)) c19), .fix 22 (List.map (fun z => SV.d (keS1 z)) c22), .fix 22 (List.map (fun z => SV.d (keS1 z)) c25)]) rfl ?_
  refine AO.nil ?_
  change AC _ _ _ _
  refine AC.seq ?_
  refine AC.region ?_
  refine AO.op rfl (AOp.buildOwn rfl rfl (ltb rfl) el56 zero22 rfl (leb rfl) rfl rfl rfl rfl ?_)
  refine AO.op rfl (AOp.assign rfl rfl (ltb rfl) rfl ?_)
  refine AO.objs (obs' := [.fix 24 [.d (dfl a0.X), .d (dfl a0.Y)], .fix 24 [.d (dfl a1.X), .d (dfl a1.Y)], .fix 24 [.d (dfl a2.X), .d (dfl a2.Y)], .fix 24 [.d (dfl a3.X), .d (dfl a3.Y)], .fix 24 [.d (dfl (0 : Nat)), .d (dfl (0 : Nat))], .frame fr9 [(8, .ptr 4 0)], .frame fr10 [(8, .d (.v (.slice none 0 0)))], .fix 22 (List.map (fun z => SV.d (keS1 z)) c16), .fix 22 (List.map (fun z => SV.d (keS1 z)) c19), .fix 22 (List.map (fun z => SV.d (keS1 z)) c22), .fix 22 (List.map (fun z => SV.d (keS1 z)) c25), .grow 22 1 (List.map keS1 [(0 : Nat), (0 : Nat)])]) rfl ?_
  refine AO.nil ?_
  change AC _ _ _ _
  refine AC.seq ?_
  refine AC.region ?_
  refine AO.op rfl (AOp.move rfl rfl (ltb rfl) rfl ?_)
  refine AO.op rfl (AOp.move rfl rfl (ltb rfl) rfl ?_)
  refine AO.op rfl (AOp.move rfl rfl (ltb rfl) rfl ?_)
  refine AO.op rfl (AOp.move rfl rfl (ltb rfl) rfl ?_)
  refine AO.op rfl (AOp.move rfl rfl (ltb rfl) rfl ?_)
  refine AO.op rfl (AOp.inl [9, 10, 11, 12, 13] (by kernel_rfl) Try.func51 rfl Try.ntmps51 rfl rfl (ltb rfl) rfl (leb rfl) rfl ?_)
  intro fr27
  refine AC.seq ?_
  refine AC.region ?_
  refine AO.op rfl (AOp.move rfl rfl (ltb rfl) rfl ?_)
  obtain ⟨q28, h0⟩ := need_elim h0
  refine AO.op rfl (AOp.indexSl rfl rfl (ltb rfl) rfl rfl el56 q28.1 q28.2 ?_)
  obtain ⟨x29, q30, h0⟩ := idx_elim h0
  refine AO.op rfl (AOp.load1 rfl rfl (ltb rfl) rfl agg22 rfl (atO q30.2) ?_)
  refine AO.op rfl (AOp.assign rfl rfl (ltb rfl) rfl ?_)
  refine AO.objs (obs' := [.fix 24 [.d (dfl a0.X), .d (dfl a0.Y)], .fix 24 [.d (dfl a1.X), .d (dfl a1.Y)], .fix 24 [.d (dfl a2.X), .d (dfl a2.Y)], .fix 24 [.d (dfl a3.X), .d (dfl a3.Y)], .fix 24 [.d (dfl (0 : Nat)), .d (dfl (0 : Nat))], .frame fr9 [(8, .ptr 4 0)], .frame fr10 [(8, .d (.v (.slice none 0 0)))], .fix 22 (List.map (fun z => SV.d (keS1 z)) c16), .fix 22 (List.map (fun z => SV.d (keS1 z)) c19), .fix 22 (List.map (fun z => SV.d (keS1 z)) c22), .fix 22 (List.map (fun z => SV.d (keS1 z)) c25), .grow 22 1 (List.map keS1 [(0 : Nat), (0 : Nat)]), .frame fr27 [(9, .sl 7 1 0 (((2 : Int)).toNat) (((2 : Int)).toNat)), (10, .sl 8 1 0 (((2 : Int)).toNat) (((2 : Int)).toNat)), (11, .sl 9 1 0 (((2 : Int)).toNat) (((2 : Int)).toNat)), (12, .sl 10 1 0 (((2 : Int)).toNat) (((2 : Int)).toNat)), (13, .own 11)]]) rfl ?_
  refine AO.nil ?_
  change AC _ _ _ _
  refine AC.joinP (V := Nat) [0, 1, 2, 3, 4] [10] 13 (fun g31 => [(10, .d (dfl g31))]) (fun g31 => [.fix 24 [.d (dfl a0.X), .d (dfl a0.Y)], .fix 24 [.d (dfl a1.X), .d (dfl a1.Y)], .fix 24 [.d (dfl a2.X), .d (dfl a2.Y)], .fix 24 [.d (dfl a3.X), .d (dfl a3.Y)], .fix 24 [.d (dfl (0 : Nat)), .d (dfl (0 : Nat))], .frame fr9 [(8, .ptr 4 0)], .frame fr10 [(8, .d (.v (.slice none 0 0)))], .fix 22 (List.map (fun z => SV.d (keS1 z)) c16), .fix 22 (List.map (fun z => SV.d (keS1 z)) c19), .fix 22 (List.map (fun z => SV.d (keS1 z)) c22), .fix 22 (List.map (fun z => SV.d (keS1 z)) c25), .grow 22 1 (List.map keS1 [(0 : Nat), (0 : Nat)]), .frame fr27 [(9, .sl 7 1 0 (((2 : Int)).toNat) (((2 : Int)).toNat)), (10, .sl 8 1 0 (((2 : Int)).toNat) (((2 : Int)).toNat)), (11, .sl 9 1 0 (((2 : Int)).toNat) (((2 : Int)).toNat)), (12, .sl 10 1 0 (((2 : Int)).toNat) (((2 : Int)).toNat)), (13, .own 11)]]) (fun g31 => (p_NormalizedMeet_k1 c16 c19 c22 c25) g31 = some r0) rfl ?_ ?_
  · refine AC.seq ?_
    refine AC.draw 7 mixed (by kernel_rfl) ?_
    refine AD.op [0] rfl (by kernel_rfl) rfl rfl (fun _ _ h => AOp.move rfl rfl (ltb rfl) rfl h) ?_
    obtain ⟨q358, h0⟩ := need_elim h0
    refine AD.op [27] rfl (by kernel_rfl) rfl rfl (fun _ _ h => AOp.indexSl rfl rfl (ltb rfl) rfl rfl el56 q358.1 q358.2 h) ?_
    obtain ⟨x359, q360, h0⟩ := idx_elim h0
    refine AD.op [28] rfl (by kernel_rfl) rfl rfl (fun _ _ h => AOp.load1 rfl rfl (ltb rfl) rfl agg22 rfl (atO q360.2) h) ?_
    refine AD.op [1] rfl (by kernel_rfl) rfl rfl (fun _ _ h => AOp.move rfl rfl (ltb rfl) rfl h) ?_
    obtain ⟨q361, h0⟩ := need_elim h0
    refine AD.op [30] rfl (by kernel_rfl) rfl rfl (fun _ _ h => AOp.indexSl rfl rfl (ltb rfl) rfl rfl el56 q361.1 q361.2 h) ?_
    obtain ⟨x362, q363, h0⟩ := idx_elim h0
    refine AD.op [31] rfl (by kernel_rfl) rfl rfl (fun _ _ h => AOp.load1 rfl rfl (ltb rfl) rfl agg22 rfl (atO q363.2) h) ?_
    refine AD.op [29, 32] rfl (by kernel_rfl) rfl rfl (fun _ _ h => AOp.flss rfl rfl (ltb rfl) rfl rfl h) ?_
    refine AD.done ?_
    refine AO.nil ?_
    change AC _ _ _ _
    refine AC.cond rfl (fun q364 => ?_) (fun q364 => ?_)
    · replace h0 := cT h0 q364
      refine AC.region ?_
      refine AO.op rfl (AOp.move rfl rfl (ltb rfl) rfl ?_)
      obtain ⟨q365, h0⟩ := need_elim h0
      refine AO.op rfl (AOp.indexSl rfl rfl (ltb rfl) rfl rfl el56 q365.1 q365.2 ?_)
      obtain ⟨x366, q367, h0⟩ := idx_elim h0
      refine AO.op rfl (AOp.load1 rfl rfl (ltb rfl) rfl agg22 rfl (atO q367.2) ?_)
      refine AO.op rfl (AOp.assign rfl rfl (ltb rfl) rfl ?_)
      refine AO.nil ?_
      exact ⟨x366, _, rfl, (LeL.refl _), rfl, (okU_mk rfl (okU_cons rfl (okU_cons rfl (okU_cons rfl (okU_cons rfl (okU_cons rfl (okU_cons rfl (okU_cons rfl (okU_cons (okU_fixl (fun _ => rfl)) (okU_cons (okU_fixl (fun _ => rfl)) (okU_cons (okU_fixl (fun _ => rfl)) (okU_cons (okU_fixl (fun _ => rfl)) (okU_cons rfl (okU_cons rfl okU_nil)))))))))))))), h0⟩
    replace h0 := cF h0 q364
    refine AC.skip ?_
    exact ⟨x29, _, rfl, (LeL.refl _), rfl, (okU_mk rfl (okU_cons rfl (okU_cons rfl (okU_cons rfl (okU_cons rfl (okU_cons rfl (okU_cons rfl (okU_cons rfl (okU_cons (okU_fixl (fun _ => rfl)) (okU_cons (okU_fixl (fun _ => rfl)) (okU_cons (okU_fixl (fun _ => rfl)) (okU_cons (okU_fixl (fun _ => rfl)) (okU_cons rfl (okU_cons rfl okU_nil)))))))))))))), h0⟩
  intro g31 h0
  unfold p_NormalizedMeet_k1 at h0
  refine AC.seq ?_
  refine AC.region ?_
  refine AO.op rfl (AOp.move rfl rfl (ltb rfl) rfl ?_)
  obtain ⟨q32, h0⟩ := need_elim h0
  refine AO.op rfl (AOp.indexSl rfl rfl (ltb rfl) rfl rfl el56 q32.1 q32.2 ?_)
  obtain ⟨x33, q34, h0⟩ := idx_elim h0
  refine AO.op rfl (AOp.load1 rfl rfl (ltb rfl) rfl agg22 rfl (atO q34.2) ?_)
  refine AO.op rfl (AOp.assign rfl rfl (ltb rfl) rfl ?_)
  refine AO.nil ?_
  change AC _ _ _ _
  refine AC.joinP (V := Nat) [0, 1, 2, 3, 4, 10] [11] 13 (fun g35 => [(11, .d (dfl g35))]) (fun g35 => [.fix 24 [.d (dfl a0.X), .d (dfl a0.Y)], .fix 24 [.d (dfl a1.X), .d (dfl a1.Y)], .fix 24 [.d (dfl a2.X), .d (dfl a2.Y)], .fix 24 [.d (dfl a3.X), .d (dfl a3.Y)], .fix 24 [.d (dfl (0 : Nat)), .d (dfl (0 : Nat))], .frame fr9 [(8, .ptr 4 0)], .frame fr10 [(8, .d (.v (.slice none 0 0)))], .fix 22 (List.map (fun z => SV.d (keS1 z)) c16), .fix 22 (List.map (fun z => SV.d (keS1 z)) c19), .fix 22 (List.map (fun z => SV.d (keS1 z)) c22), .fix 22 (List.map (fun z => SV.d (keS1 z)) c25), .grow 22 1 (List.map keS1 [(0 : Nat), (0 : Nat)]), .frame fr27 [(9, .sl 7 1 0 (((2 : Int)).toNat) (((2 : Int)).toNat)), (10, .sl 8 1 0 (((2 : Int)).toNat) (((2 : Int)).toNat)), (11, .sl 9 1 0 (((2 : Int)).toNat) (((2 : Int)).toNat)), (12, .sl 10 1 0 (((2 : Int)).toNat) (((2 : Int)).toNat)), (13, .own 11)]]) (fun g35 => (p_NormalizedMeet_k2 c16 c19 c22 c25 g31) g35 = some r0) rfl ?_ ?_
  · refine AC.seq ?_
    refine AC.draw 7 mixed (by kernel_rfl) ?_
    refine AD.op [0] rfl (by kernel_rfl) rfl rfl (fun _ _ h => AOp.move rfl rfl (ltb rfl) rfl h) ?_
    obtain ⟨q348, h0⟩ := need_elim h0
    refine AD.op [40] rfl (by kernel_rfl) rfl rfl (fun _ _ h => AOp.indexSl rfl rfl (ltb rfl) rfl rfl el56 q348.1 q348.2 h) ?_
    obtain ⟨x349, q350, h0⟩ := idx_elim h0
    refine AD.op [41] rfl (by kernel_rfl) rfl rfl (fun _ _ h => AOp.load1 rfl rfl (ltb rfl) rfl agg22 rfl (atO q350.2) h) ?_
    refine AD.op [1] rfl (by kernel_rfl) rfl rfl (fun _ _ h => AOp.move rfl rfl (ltb rfl) rfl h) ?_
    obtain ⟨q351, h0⟩ := need_elim h0
    refine AD.op [43] rfl (by kernel_rfl) rfl rfl (fun _ _ h => AOp.indexSl rfl rfl (ltb rfl) rfl rfl el56 q351.1 q351.2 h) ?_
    obtain ⟨x352, q353, h0⟩ := idx_elim h0
    refine AD.op [44] rfl (by kernel_rfl) rfl rfl (fun _ _ h => AOp.load1 rfl rfl (ltb rfl) rfl agg22 rfl (atO q353.2) h) ?_
    refine AD.op [42, 45] rfl (by kernel_rfl) rfl rfl (fun _ _ h => AOp.flss rfl rfl (ltb rfl) rfl rfl h) ?_
    refine AD.done ?_
    refine AO.nil ?_
    change AC _ _ _ _
    refine AC.cond rfl (fun q354 => ?_) (fun q354 => ?_)
    · replace h0 := cT h0 q354
      refine AC.region ?_
      refine AO.op rfl (AOp.move rfl rfl (ltb rfl) rfl ?_)
      obtain ⟨q355, h0⟩ := need_elim h0
      refine AO.op rfl (AOp.indexSl rfl rfl (ltb rfl) rfl rfl el56 q355.1 q355.2 ?_)
      obtain ⟨x356, q357, h0⟩ := idx_elim h0
      refine AO.op rfl (AOp.load1 rfl rfl (ltb rfl) rfl agg22 rfl (atO q357.2) ?_)
      refine AO.op rfl (AOp.assign rfl rfl (ltb rfl) rfl ?_)
      refine AO.nil ?_
      exact ⟨x356, _, rfl, (LeL.refl _), rfl, (okU_mk rfl (okU_cons rfl (okU_cons rfl (okU_cons rfl (okU_cons rfl (okU_cons rfl (okU_cons rfl (okU_cons rfl (okU_cons (okU_fixl (fun _ => rfl)) (okU_cons (okU_fixl (fun _ => rfl)) (okU_cons (okU_fixl (fun _ => rfl)) (okU_cons (okU_fixl (fun _ => rfl)) (okU_cons rfl (okU_cons rfl okU_nil)))))))))))))), h0⟩
    replace h0 := cF h0 q354
    refine AC.skip ?_
    exact ⟨x33, _, rfl, (LeL.refl _), rfl, (okU_mk rfl (okU_cons rfl (okU_cons rfl (okU_cons rfl (okU_cons rfl (okU_cons rfl (okU_cons rfl (okU_cons rfl (okU_cons (okU_fixl (fun _ => rfl)) (okU_cons (okU_fixl (fun _ => rfl)) (okU_cons (okU_fixl (fun _ => rfl)) (okU_cons (okU_fixl (fun _ => rfl)) (okU_cons rfl (okU_cons rfl okU_nil)))))))))))))), h0⟩
  intro g35 h0
  unfold p_NormalizedMeet_k2 at h0
  refine AC.seq ?_
  refine AC.region ?_
  refine AO.op rfl (AOp.move rfl rfl (ltb rfl) rfl ?_)
  obtain ⟨q36, h0⟩ := need_elim h0
  refine AO.op rfl (AOp.indexSl rfl rfl (ltb rfl) rfl rfl el56 q36.1 q36.2 ?_)
  obtain ⟨x37, q38, h0⟩ := idx_elim h0
  refine AO.op rfl (AOp.load1 rfl rfl (ltb rfl) rfl agg22 rfl (atO q38.2) ?_)
  refine AO.op rfl (AOp.assign rfl rfl (ltb rfl) rfl ?_)
  refine AO.nil ?_
  change AC _ _ _ _
  refine AC.joinP (V := Nat) [0, 1, 2, 3, 4, 10, 11] [12] 13 (fun g39 => [(12, .d (dfl g39))]) (fun g39 => [.fix 24 [.d (dfl a0.X), .d (dfl a0.Y)], .fix 24 [.d (dfl a1.X), .d (dfl a1.Y)], .fix 24 [.d (dfl a2.X), .d (dfl a2.Y)], .fix 24 [.d (dfl a3.X), .d (dfl a3.Y)], .fix 24 [.d (dfl (0 : Nat)), .d (dfl (0 : Nat))], .frame fr9 [(8, .ptr 4 0)], .frame fr10 [(8, .d (.v (.slice none 0 0)))], .fix 22 (List.map (fun z => SV.d (keS1 z)) c16), .fix 22 (List.map (fun z => SV.d (keS1 z)) c19), .fix 22 (List.map (fun z => SV.d (keS1 z)) c22), .fix 22 (List.map (fun z => SV.d (keS1 z)) c25), .grow 22 1 (List.map keS1 [(0 : Nat), (0 : Nat)]), .frame fr27 [(9, .sl 7 1 0 (((2 : Int)).toNat) (((2 : Int)).toNat)), (10, .sl 8 1 0 (((2 : Int)).toNat) (((2 : Int)).toNat)), (11, .sl 9 1 0 (((2 : Int)).toNat) (((2 : Int)).toNat)), (12, .sl 10 1 0 (((2 : Int)).toNat) (((2 : Int)).toNat)), (13, .own 11)]]) (fun g39 => (p_NormalizedMeet_k3 c16 c19 c22 c25 g31 g35) g39 = some r0) rfl ?_ ?_
  · refine AC.seq ?_
    refine AC.draw 7 mixed (by kernel_rfl) ?_
    refine AD.op [0] rfl (by kernel_rfl) rfl rfl (fun _ _ h => AOp.move rfl rfl (ltb rfl) rfl h) ?_
    obtain ⟨q338, h0⟩ := need_elim h0
    refine AD.op [53] rfl (by kernel_rfl) rfl rfl (fun _ _ h => AOp.indexSl rfl rfl (ltb rfl) rfl rfl el56 q338.1 q338.2 h) ?_
    obtain ⟨x339, q340, h0⟩ := idx_elim h0
    refine AD.op [54] rfl (by kernel_rfl) rfl rfl (fun _ _ h => AOp.load1 rfl rfl (ltb rfl) rfl agg22 rfl (atO q340.2) h) ?_
    refine AD.op [1] rfl (by kernel_rfl) rfl rfl (fun _ _ h => AOp.move rfl rfl (ltb rfl) rfl h) ?_
    obtain ⟨q341, h0⟩ := need_elim h0
    refine AD.op [56] rfl (by kernel_rfl) rfl rfl (fun _ _ h => AOp.indexSl rfl rfl (ltb rfl) rfl rfl el56 q341.1 q341.2 h) ?_
    obtain ⟨x342, q343, h0⟩ := idx_elim h0
    refine AD.op [57] rfl (by kernel_rfl) rfl rfl (fun _ _ h => AOp.load1 rfl rfl (ltb rfl) rfl agg22 rfl (atO q343.2) h) ?_
    refine AD.op [55, 58] rfl (by kernel_rfl) rfl rfl (fun _ _ h => AOp.fgtr rfl rfl (ltb rfl) rfl rfl h) ?_
    refine AD.done ?_
    refine AO.nil ?_
    change AC _ _ _ _
    refine AC.cond rfl (fun q344 => ?_) (fun q344 => ?_)
    · replace h0 := cT h0 q344
      refine AC.region ?_
      refine AO.op rfl (AOp.move rfl rfl (ltb rfl) rfl ?_)
      obtain ⟨q345, h0⟩ := need_elim h0
      refine AO.op rfl (AOp.indexSl rfl rfl (ltb rfl) rfl rfl el56 q345.1 q345.2 ?_)
      obtain ⟨x346, q347, h0⟩ := idx_elim h0
      refine AO.op rfl (AOp.load1 rfl rfl (ltb rfl) rfl agg22 rfl (atO q347.2) ?_)
      refine AO.op rfl (AOp.assign rfl rfl (ltb rfl) rfl ?_)
      refine AO.nil ?_
      exact ⟨x346, _, rfl, (LeL.refl _), rfl, (okU_mk rfl (okU_cons rfl (okU_cons rfl (okU_cons rfl (okU_cons rfl (okU_cons rfl (okU_cons rfl (okU_cons rfl (okU_cons (okU_fixl (fun _ => rfl)) (okU_cons (okU_fixl (fun _ => rfl)) (okU_cons (okU_fixl (fun _ => rfl)) (okU_cons (okU_fixl (fun _ => rfl)) (okU_cons rfl (okU_cons rfl okU_nil)))))))))))))), h0⟩
    replace h0 := cF h0 q344
    refine AC.skip ?_
    exact ⟨x37, _, rfl, (LeL.refl _), rfl, (okU_mk rfl (okU_cons rfl (okU_cons rfl (okU_cons rfl (okU_cons rfl (okU_cons rfl (okU_cons rfl (okU_cons rfl (okU_cons (okU_fixl (fun _ => rfl)) (okU_cons (okU_fixl (fun _ => rfl)) (okU_cons (okU_fixl (fun _ => rfl)) (okU_cons (okU_fixl (fun _ => rfl)) (okU_cons rfl (okU_cons rfl okU_nil)))))))))))))), h0⟩
  intro g39 h0
  unfold p_NormalizedMeet_k3 at h0
  refine AC.seq ?_
  refine AC.region ?_
  refine AO.op rfl (AOp.move rfl rfl (ltb rfl) rfl ?_)
  obtain ⟨q40, h0⟩ := need_elim h0
  refine AO.op rfl (AOp.indexSl rfl rfl (ltb rfl) rfl rfl el56 q40.1 q40.2 ?_)
  obtain ⟨x41, q42, h0⟩ := idx_elim h0
  refine AO.op rfl (AOp.load1 rfl rfl (ltb rfl) rfl agg22 rfl (atO q42.2) ?_)
  refine AO.op rfl (AOp.assign rfl rfl (ltb rfl) rfl ?_)
  refine AO.nil ?_
  change AC _ _ _ _
  refine AC.joinP (V := Nat) [0, 1, 2, 3, 4, 10, 11, 12] [13] 13 (fun g43 => [(13, .d (dfl g43))]) (fun g43 => [.fix 24 [.d (dfl a0.X), .d (dfl a0.Y)], .fix 24 [.d (dfl a1.X), .d (dfl a1.Y)], .fix 24 [.d (dfl a2.X), .d (dfl a2.Y)], .fix 24 [.d (dfl a3.X), .d (dfl a3.Y)], .fix 24 [.d (dfl (0 : Nat)), .d (dfl (0 : Nat))], .frame fr9 [(8, .ptr 4 0)], .frame fr10 [(8, .d (.v (.slice none 0 0)))], .fix 22 (List.map (fun z => SV.d (keS1 z)) c16), .fix 22 (List.map (fun z => SV.d (keS1 z)) c19), .fix 22 (List.map (fun z => SV.d (keS1 z)) c22), .fix 22 (List.map (fun z => SV.d (keS1 z)) c25), .grow 22 1 (List.map keS1 [(0 : Nat), (0 : Nat)]), .frame fr27 [(9, .sl 7 1 0 (((2 : Int)).toNat) (((2 : Int)).toNat)), (10, .sl 8 1 0 (((2 : Int)).toNat) (((2 : Int)).toNat)), (11, .sl 9 1 0 (((2 : Int)).toNat) (((2 : Int)).toNat)), (12, .sl 10 1 0 (((2 : Int)).toNat) (((2 : Int)).toNat)), (13, .own 11)]]) (fun g43 => (p_NormalizedMeet_k4 c16 c19 c22 c25 g31 g35 g39) g43 = some r0) rfl ?_ ?_
  · refine AC.seq ?_
    refine AC.draw 7 mixed (by kernel_rfl) ?_
    refine AD.op [0] rfl (by kernel_rfl) rfl rfl (fun _ _ h => AOp.move rfl rfl (ltb rfl) rfl h) ?_
    obtain ⟨q328, h0⟩ := need_elim h0
    refine AD.op [66] rfl (by kernel_rfl) rfl rfl (fun _ _ h => AOp.indexSl rfl rfl (ltb rfl) rfl rfl el56 q328.1 q328.2 h) ?_
    obtain ⟨x329, q330, h0⟩ := idx_elim h0
    refine AD.op [67] rfl (by kernel_rfl) rfl rfl (fun _ _ h => AOp.load1 rfl rfl (ltb rfl) rfl agg22 rfl (atO q330.2) h) ?_
    refine AD.op [1] rfl (by kernel_rfl) rfl rfl (fun _ _ h => AOp.move rfl rfl (ltb rfl) rfl h) ?_
    obtain ⟨q331, h0⟩ := need_elim h0
    refine AD.op [69] rfl (by kernel_rfl) rfl rfl (fun _ _ h => AOp.indexSl rfl rfl (ltb rfl) rfl rfl el56 q331.1 q331.2 h) ?_
    obtain ⟨x332, q333, h0⟩ := idx_elim h0
    refine AD.op [70] rfl (by kernel_rfl) rfl rfl (fun _ _ h => AOp.load1 rfl rfl (ltb rfl) rfl agg22 rfl (atO q333.2) h) ?_
    refine AD.op [68, 71] rfl (by kernel_rfl) rfl rfl (fun _ _ h => AOp.fgtr rfl rfl (ltb rfl) rfl rfl h) ?_
    refine AD.done ?_
    refine AO.nil ?_
    change AC _ _ _ _
    refine AC.cond rfl (fun q334 => ?_) (fun q334 => ?_)
    · replace h0 := cT h0 q334
      refine AC.region ?_
      refine AO.op rfl (AOp.move rfl rfl (ltb rfl) rfl ?_)
      obtain ⟨q335, h0⟩ := need_elim h0
      refine AO.op rfl (AOp.indexSl rfl rfl (ltb rfl) rfl rfl el56 q335.1 q335.2 ?_)
      obtain ⟨x336, q337, h0⟩ := idx_elim h0
      refine AO.op rfl (AOp.load1 rfl rfl (ltb rfl) rfl agg22 rfl (atO q337.2) ?_)
      refine AO.op rfl (AOp.assign rfl rfl (ltb rfl) rfl ?_)
      refine AO.nil ?_
      exact ⟨x336, _, rfl, (LeL.refl _), rfl, (okU_mk rfl (okU_cons rfl (okU_cons rfl (okU_cons rfl (okU_cons rfl (okU_cons rfl (okU_cons rfl (okU_cons rfl (okU_cons (okU_fixl (fun _ => rfl)) (okU_cons (okU_fixl (fun _ => rfl)) (okU_cons (okU_fixl (fun _ => rfl)) (okU_cons (okU_fixl (fun _ => rfl)) (okU_cons rfl (okU_cons rfl okU_nil)))))))))))))), h0⟩
    replace h0 := cF h0 q334
    refine AC.skip ?_
    exact ⟨x41, _, rfl, (LeL.refl _), rfl, (okU_mk rfl (okU_cons rfl (okU_cons rfl (okU_cons rfl (okU_cons rfl (okU_cons rfl (okU_cons rfl (okU_cons rfl (okU_cons (okU_fixl (fun _ => rfl)) (okU_cons (okU_fixl (fun _ => rfl)) (okU_cons (okU_fixl (fun _ => rfl)) (okU_cons (okU_fixl (fun _ => rfl)) (okU_cons rfl (okU_cons rfl okU_nil)))))))))))))), h0⟩
  intro g43 h0
  unfold p_NormalizedMeet_k4 at h0
  refine AC.seq ?_
  refine AC.region ?_
  refine AO.op rfl (AOp.move rfl rfl (ltb rfl) rfl ?_)
  obtain ⟨q44, h0⟩ := need_elim h0
  refine AO.op rfl (AOp.indexSl rfl rfl (ltb rfl) rfl rfl el56 q44.1 q44.2 ?_)
  obtain ⟨x45, q46, h0⟩ := idx_elim h0
  refine AO.op rfl (AOp.load1 rfl rfl (ltb rfl) rfl agg22 rfl (atO q46.2) ?_)
  refine AO.op rfl (AOp.assign rfl rfl (ltb rfl) rfl ?_)
  refine AO.nil ?_
  change AC _ _ _ _
  refine AC.joinP (V := Nat) [0, 1, 2, 3, 4, 10, 11, 12, 13] [14] 13 (fun g47 => [(14, .d (dfl g47))]) (fun g47 => [.fix 24 [.d (dfl a0.X), .d (dfl a0.Y)], .fix 24 [.d (dfl a1.X), .d (dfl a1.Y)], .fix 24 [.d (dfl a2.X), .d (dfl a2.Y)], .fix 24 [.d (dfl a3.X), .d (dfl a3.Y)], .fix 24 [.d (dfl (0 : Nat)), .d (dfl (0 : Nat))], .frame fr9 [(8, .ptr 4 0)], .frame fr10 [(8, .d (.v (.slice none 0 0)))], .fix 22 (List.map (fun z => SV.d (keS1 z)) c16), .fix 22 (List.map (fun z => SV.d (keS1 z)) c19), .fix 22 (List.map (fun z => SV.d (keS1 z)) c22), .fix 22 (List.map (fun z => SV.d (keS1 z)) c25), .grow 22 1 (List.map keS1 [(0 : Nat), (0 : Nat)]), .frame fr27 [(9, .sl 7 1 0 (((2 : Int)).toNat) (((2 : Int)).toNat)), (10, .sl 8 1 0 (((2 : Int)).toNat) (((2 : Int)).toNat)), (11, .sl 9 1 0 (((2 : Int)).toNat) (((2 : Int)).toNat)), (12, .sl 10 1 0 (((2 : Int)).toNat) (((2 : Int)).toNat)), (13, .own 11)]]) (fun g47 => (p_NormalizedMeet_k5 c16 c19 c22 c25 g31 g35 g39 g43) g47 = some r0) rfl ?_ ?_
  · refine AC.seq ?_
    refine AC.draw 7 mixed (by kernel_rfl) ?_
    refine AD.op [2] rfl (by kernel_rfl) rfl rfl (fun _ _ h => AOp.move rfl rfl (ltb rfl) rfl h) ?_
    obtain ⟨q318, h0⟩ := need_elim h0
    refine AD.op [79] rfl (by kernel_rfl) rfl rfl (fun _ _ h => AOp.indexSl rfl rfl (ltb rfl) rfl rfl el56 q318.1 q318.2 h) ?_
    obtain ⟨x319, q320, h0⟩ := idx_elim h0
    refine AD.op [80] rfl (by kernel_rfl) rfl rfl (fun _ _ h => AOp.load1 rfl rfl (ltb rfl) rfl agg22 rfl (atO q320.2) h) ?_
    refine AD.op [3] rfl (by kernel_rfl) rfl rfl (fun _ _ h => AOp.move rfl rfl (ltb rfl) rfl h) ?_
    obtain ⟨q321, h0⟩ := need_elim h0
    refine AD.op [82] rfl (by kernel_rfl) rfl rfl (fun _ _ h => AOp.indexSl rfl rfl (ltb rfl) rfl rfl el56 q321.1 q321.2 h) ?_
    obtain ⟨x322, q323, h0⟩ := idx_elim h0
    refine AD.op [83] rfl (by kernel_rfl) rfl rfl (fun _ _ h => AOp.load1 rfl rfl (ltb rfl) rfl agg22 rfl (atO q323.2) h) ?_
    refine AD.op [81, 84] rfl (by kernel_rfl) rfl rfl (fun _ _ h => AOp.flss rfl rfl (ltb rfl) rfl rfl h) ?_
    refine AD.done ?_
    refine AO.nil ?_
    change AC _ _ _ _
    refine AC.cond rfl (fun q324 => ?_) (fun q324 => ?_)
    · replace h0 := cT h0 q324
      refine AC.region ?_
      refine AO.op rfl (AOp.move rfl rfl (ltb rfl) rfl ?_)
      obtain ⟨q325, h0⟩ := need_elim h0
      refine AO.op rfl (AOp.indexSl rfl rfl (ltb rfl) rfl rfl el56 q325.1 q325.2 ?_)
      obtain ⟨x326, q327, h0⟩ := idx_elim h0
      refine AO.op rfl (AOp.load1 rfl rfl (ltb rfl) rfl agg22 rfl (atO q327.2) ?_)
      refine AO.op rfl (AOp.assign rfl rfl (ltb rfl) rfl ?_)
      refine AO.nil ?_
      exact ⟨x326, _, rfl, (LeL.refl _), rfl, (okU_mk rfl (okU_cons rfl (okU_cons rfl (okU_cons rfl (okU_cons rfl (okU_cons rfl (okU_cons rfl (okU_cons rfl (okU_cons (okU_fixl (fun _ => rfl)) (okU_cons (okU_fixl (fun _ => rfl)) (okU_cons (okU_fixl (fun _ => rfl)) (okU_cons (okU_fixl (fun _ => rfl)) (okU_cons rfl (okU_cons rfl okU_nil)))))))))))))), h0⟩
    replace h0 := cF h0 q324
    refine AC.skip ?_
    exact ⟨x45, _, rfl, (LeL.refl _), rfl, (okU_mk rfl (okU_cons rfl (okU_cons rfl (okU_cons rfl (okU_cons rfl (okU_cons rfl (okU_cons rfl (okU_cons rfl (okU_cons (okU_fixl (fun _ => rfl)) (okU_cons (okU_fixl (fun _ => rfl)) (okU_cons (okU_fixl (fun _ => rfl)) (okU_cons (okU_fixl (fun _ => rfl)) (okU_cons rfl (okU_cons rfl okU_nil)))))))))))))), h0⟩
  intro g47 h0
  unfold p_NormalizedMeet_k5 at h0
  refine AC.seq ?_
  refine AC.region ?_
  refine AO.op rfl (AOp.move rfl rfl (ltb rfl) rfl ?_)
  obtain ⟨q48, h0⟩ := need_elim h0
  refine AO.op rfl (AOp.indexSl rfl rfl (ltb rfl) rfl rfl el56 q48.1 q48.2 ?_)
  obtain ⟨x49, q50, h0⟩ := idx_elim h0
  refine AO.op rfl (AOp.load1 rfl rfl (ltb rfl) rfl agg22 rfl (atO q50.2) ?_)
  refine AO.op rfl (AOp.assign rfl rfl (ltb rfl) rfl ?_)
  refine AO.nil ?_
  change AC _ _ _ _
  refine AC.joinP (V := Nat) [0, 1, 2, 3, 4, 10, 11, 12, 13, 14] [15] 13 (fun g51 => [(15, .d (dfl g51))]) (fun g51 => [.fix 24 [.d (dfl a0.X), .d (dfl a0.Y)], .fix 24 [.d (dfl a1.X), .d (dfl a1.Y)], .fix 24 [.d (dfl a2.X), .d (dfl a2.Y)], .fix 24 [.d (dfl a3.X), .d (dfl a3.Y)], .fix 24 [.d (dfl (0 : Nat)), .d (dfl (0 : Nat))], .frame fr9 [(8, .ptr 4 0)], .frame fr10 [(8, .d (.v (.slice none 0 0)))], .fix 22 (List.map (fun z => SV.d (keS1 z)) c16), .fix 22 (List.map (fun z => SV.d (keS1 z)) c19), .fix 22 (List.map (fun z => SV.d (keS1 z)) c22), .fix 22 (List.map (fun z => SV.d (keS1 z)) c25), .grow 22 1 (List.map keS1 [(0 : Nat), (0 : Nat)]), .frame fr27 [(9, .sl 7 1 0 (((2 : Int)).toNat) (((2 : Int)).toNat)), (10, .sl 8 1 0 (((2 : Int)).toNat) (((2 : Int)).toNat)), (11, .sl 9 1 0 (((2 : Int)).toNat) (((2 : Int)).toNat)), (12, .sl 10 1 0 (((2 : Int)).toNat) (((2 : Int)).toNat)), (13, .own 11)]]) (fun g51 => (p_NormalizedMeet_k6 c16 c19 c22 c25 g31 g35 g39 g43 g47) g51 = some r0) rfl ?_ ?_
  · refine AC.seq ?_
    refine AC.draw 7 mixed (by kernel_rfl) ?_
    refine AD.op [2] rfl (by kernel_rfl) rfl rfl (fun _ _ h => AOp.move rfl rfl (ltb rfl) rfl h) ?_
    obtain ⟨q308, h0⟩ := need_elim h0
    refine AD.op [92] rfl (by kernel_rfl) rfl rfl (fun _ _ h => AOp.indexSl rfl rfl (ltb rfl) rfl rfl el56 q308.1 q308.2 h) ?_
    obtain ⟨x309, q310, h0⟩ := idx_elim h0
    refine AD.op [93] rfl (by kernel_rfl) rfl rfl (fun _ _ h => AOp.load1 rfl rfl (ltb rfl) rfl agg22 rfl (atO q310.2) h) ?_
    refine AD.op [3] rfl (by kernel_rfl) rfl rfl (fun _ _ h => AOp.move rfl rfl (ltb rfl) rfl h) ?_
    obtain ⟨q311, h0⟩ := need_elim h0
    refine AD.op [95] rfl (by kernel_rfl) rfl rfl (fun _ _ h => AOp.indexSl rfl rfl (ltb rfl) rfl rfl el56 q311.1 q311.2 h) ?_
    obtain ⟨x312, q313, h0⟩ := idx_elim h0
    refine AD.op [96] rfl (by kernel_rfl) rfl rfl (fun _ _ h => AOp.load1 rfl rfl (ltb rfl) rfl agg22 rfl (atO q313.2) h) ?_
    refine AD.op [94, 97] rfl (by kernel_rfl) rfl rfl (fun _ _ h => AOp.flss rfl rfl (ltb rfl) rfl rfl h) ?_
    refine AD.done ?_
    refine AO.nil ?_
    change AC _ _ _ _
    refine AC.cond rfl (fun q314 => ?_) (fun q314 => ?_)
    · replace h0 := cT h0 q314
      refine AC.region ?_
      refine AO.op rfl (AOp.move rfl rfl (ltb rfl) rfl ?_)
      obtain ⟨q315, h0⟩ := need_elim h0
      refine AO.op rfl (AOp.indexSl rfl rfl (ltb rfl) rfl rfl el56 q315.1 q315.2 ?_)
      obtain ⟨x316, q317, h0⟩ := idx_elim h0
      refine AO.op rfl (AOp.load1 rfl rfl (ltb rfl) rfl agg22 rfl (atO q317.2) ?_)
      refine AO.op rfl (AOp.assign rfl rfl (ltb rfl) rfl ?_)
      refine AO.nil ?_
      exact ⟨x316, _, rfl, (LeL.refl _), rfl, (okU_mk rfl (okU_cons rfl (okU_cons rfl (okU_cons rfl (okU_cons rfl (okU_cons rfl (okU_cons rfl (okU_cons rfl (okU_cons (okU_fixl (fun _ => rfl)) (okU_cons (okU_fixl (fun _ => rfl)) (okU_cons (okU_fixl (fun _ => rfl)) (okU_cons (okU_fixl (fun _ => rfl)) (okU_cons rfl (okU_cons rfl okU_nil)))))))))))))), h0⟩
    replace h0 := cF h0 q314
    refine AC.skip ?_
    exact ⟨x49, _, rfl, (LeL.refl _), rfl, (okU_mk rfl (okU_cons rfl (okU_cons rfl (okU_cons rfl (okU_cons rfl (okU_cons rfl (okU_cons rfl (okU_cons rfl (okU_cons (okU_fixl (fun _ => rfl)) (okU_cons (okU_fixl (fun _ => rfl)) (okU_cons (okU_fixl (fun _ => rfl)) (okU_cons (okU_fixl (fun _ => rfl)) (okU_cons rfl (okU_cons rfl okU_nil)))))))))))))), h0⟩
  intro g51 h0
  unfold p_NormalizedMeet_k6 at h0
  refine AC.seq ?_
  refine AC.region ?_
  refine AO.op rfl (AOp.move rfl rfl (ltb rfl) rfl ?_)
  obtain ⟨q52, h0⟩ := need_elim h0
  refine AO.op rfl (AOp.indexSl rfl rfl (ltb rfl) rfl rfl el56 q52.1 q52.2 ?_)
  obtain ⟨x53, q54, h0⟩ := idx_elim h0
  refine AO.op rfl (AOp.load1 rfl rfl (ltb rfl) rfl agg22 rfl (atO q54.2) ?_)
  refine AO.op rfl (AOp.assign rfl rfl (ltb rfl) rfl ?_)
  refine AO.nil ?_
  change AC _ _ _ _
  refine AC.joinP (V := Nat) [0, 1, 2, 3, 4, 10, 11, 12, 13, 14, 15] [16] 13 (fun g55 => [(16, .d (dfl g55))]) (fun g55 => [.fix 24 [.d (dfl a0.X), .d (dfl a0.Y)], .fix 24 [.d (dfl a1.X), .d (dfl a1.Y)], .fix 24 [.d (dfl a2.X), .d (dfl a2.Y)], .fix 24 [.d (dfl a3.X), .d (dfl a3.Y)], .fix 24 [.d (dfl (0 : Nat)), .d (dfl (0 : Nat))], .frame fr9 [(8, .ptr 4 0)], .frame fr10 [(8, .d (.v (.slice none 0 0)))], .fix 22 (List.map (fun z => SV.d (keS1 z)) c16), .fix 22 (List.map (fun z => SV.d (keS1 z)) c19), .fix 22 (List.map (fun z => SV.d (keS1 z)) c22), .fix 22 (List.map (fun z => SV.d (keS1 z)) c25), .grow 22 1 (List.map keS1 [(0 : Nat), (0 : Nat)]), .frame fr27 [(9, .sl 7 1 0 (((2 : Int)).toNat) (((2 : Int)).toNat)), (10, .sl 8 1 0 (((2 : Int)).toNat) (((2 : Int)).toNat)), (11, .sl 9 1 0 (((2 : Int)).toNat) (((2 : Int)).toNat)), (12, .sl 10 1 0 (((2 : Int)).toNat) (((2 : Int)).toNat)), (13, .own 11)]]) (fun g55 => (p_NormalizedMeet_k7 c16 c19 c22 c25 g31 g35 g39 g43 g47 g51) g55 = some r0) rfl ?_ ?_
  · refine AC.seq ?_
    refine AC.draw 7 mixed (by kernel_rfl) ?_
    refine AD.op [2] rfl (by kernel_rfl) rfl rfl (fun _ _ h => AOp.move rfl rfl (ltb rfl) rfl h) ?_
    obtain ⟨q298, h0⟩ := need_elim h0
    refine AD.op [105] rfl (by kernel_rfl) rfl rfl (fun _ _ h => AOp.indexSl rfl rfl (ltb rfl) rfl rfl el56 q298.1 q298.2 h) ?_
    obtain ⟨x299, q300, h0⟩ := idx_elim h0
    refine AD.op [106] rfl (by kernel_rfl) rfl rfl (fun _ _ h => AOp.load1 rfl rfl (ltb rfl) rfl agg22 rfl (atO q300.2) h) ?_
    refine AD.op [3] rfl (by kernel_rfl) rfl rfl (fun _ _ h => AOp.move rfl rfl (ltb rfl) rfl h) ?_
    obtain ⟨q301, h0⟩ := need_elim h0
    refine AD.op [108] rfl (by kernel_rfl) rfl rfl (fun _ _ h => AOp.indexSl rfl rfl (ltb rfl) rfl rfl el56 q301.1 q301.2 h) ?_
    obtain ⟨x302, q303, h0⟩ := idx_elim h0
    refine AD.op [109] rfl (by kernel_rfl) rfl rfl (fun _ _ h => AOp.load1 rfl rfl (ltb rfl) rfl agg22 rfl (atO q303.2) h) ?_
    refine AD.op [107, 110] rfl (by kernel_rfl) rfl rfl (fun _ _ h => AOp.fgtr rfl rfl (ltb rfl) rfl rfl h) ?_
    refine AD.done ?_
    refine AO.nil ?_
    change AC _ _ _ _
    refine AC.cond rfl (fun q304 => ?_) (fun q304 => ?_)
    · replace h0 := cT h0 q304
      refine AC.region ?_
      refine AO.op rfl (AOp.move rfl rfl (ltb rfl) rfl ?_)
      obtain ⟨q305, h0⟩ := need_elim h0
      refine AO.op rfl (AOp.indexSl rfl rfl (ltb rfl) rfl rfl el56 q305.1 q305.2 ?_)
      obtain ⟨x306, q307, h0⟩ := idx_elim h0
      refine AO.op rfl (AOp.load1 rfl rfl (ltb rfl) rfl agg22 rfl (atO q307.2) ?_)
      refine AO.op rfl (AOp.assign rfl rfl (ltb rfl) rfl ?_)
      refine AO.nil ?_
      exact ⟨x306, _, rfl, (LeL.refl _), rfl, (okU_mk rfl (okU_cons rfl (okU_cons rfl (okU_cons rfl (okU_cons rfl (okU_cons rfl (okU_cons rfl (okU_cons rfl (okU_cons (okU_fixl (fun _ => rfl)) (okU_cons (okU_fixl (fun _ => rfl)) (okU_cons (okU_fixl (fun _ => rfl)) (okU_cons (okU_fixl (fun _ => rfl)) (okU_cons rfl (okU_cons rfl okU_nil)))))))))))))), h0⟩
    replace h0 := cF h0 q304
    refine AC.skip ?_
    exact ⟨x53, _, rfl, (LeL.refl _), rfl, (okU_mk rfl (okU_cons rfl (okU_cons rfl (okU_cons rfl (okU_cons rfl (okU_cons rfl (okU_cons rfl (okU_cons rfl (okU_cons (okU_fixl (fun _ => rfl)) (okU_cons (okU_fixl (fun _ => rfl)) (okU_cons (okU_fixl (fun _ => rfl)) (okU_cons (okU_fixl (fun _ => rfl)) (okU_cons rfl (okU_cons rfl okU_nil)))))))))))))), h0⟩
  intro g55 h0
  unfold p_NormalizedMeet_k7 at h0
  refine AC.seq ?_
  refine AC.region ?_
  refine AO.op rfl (AOp.move rfl rfl (ltb rfl) rfl ?_)
  obtain ⟨q56, h0⟩ := need_elim h0
  refine AO.op rfl (AOp.indexSl rfl rfl (ltb rfl) rfl rfl el56 q56.1 q56.2 ?_)
  obtain ⟨x57, q58, h0⟩ := idx_elim h0
  refine AO.op rfl (AOp.load1 rfl rfl (ltb rfl) rfl agg22 rfl (atO q58.2) ?_)
  refine AO.op rfl (AOp.assign rfl rfl (ltb rfl) rfl ?_)
  refine AO.nil ?_
  change AC _ _ _ _
  refine AC.joinP (V := Nat) [0, 1, 2, 3, 4, 10, 11, 12, 13, 14, 15, 16] [17] 13 (fun g59 => [(17, .d (dfl g59))]) (fun g59 => [.fix 24 [.d (dfl a0.X), .d (dfl a0.Y)], .fix 24 [.d (dfl a1.X), .d (dfl a1.Y)], .fix 24 [.d (dfl a2.X), .d (dfl a2.Y)], .fix 24 [.d (dfl a3.X), .d (dfl a3.Y)], .fix 24 [.d (dfl (0 : Nat)), .d (dfl (0 : Nat))], .frame fr9 [(8, .ptr 4 0)], .frame fr10 [(8, .d (.v (.slice none 0 0)))], .fix 22 (List.map (fun z => SV.d (keS1 z)) c16), .fix 22 (List.map (fun z => SV.d (keS1 z)) c19), .fix 22 (List.map (fun z => SV.d (keS1 z)) c22), .fix 22 (List.map (fun z => SV.d (keS1 z)) c25), .grow 22 1 (List.map keS1 [(0 : Nat), (0 : Nat)]), .frame fr27 [(9, .sl 7 1 0 (((2 : Int)).toNat) (((2 : Int)).toNat)), (10, .sl 8 1 0 (((2 : Int)).toNat) (((2 : Int)).toNat)), (11, .sl 9 1 0 (((2 : Int)).toNat) (((2 : Int)).toNat)), (12, .sl 10 1 0 (((2 : Int)).toNat) (((2 : Int)).toNat)), (13, .own 11)]]) (fun g59 => (p_NormalizedMeet_k8 c16 c19 c22 c25 g31 g35 g39 g43 g47 g51 g55) g59 = some r0) rfl ?_ ?_
  · refine AC.seq ?_
    refine AC.draw 7 mixed (by kernel_rfl) ?_
    refine AD.op [2] rfl (by kernel_rfl) rfl rfl (fun _ _ h => AOp.move rfl rfl (ltb rfl) rfl h) ?_
    obtain ⟨q288, h0⟩ := need_elim h0
    refine AD.op [118] rfl (by kernel_rfl) rfl rfl (fun _ _ h => AOp.indexSl rfl rfl (ltb rfl) rfl rfl el56 q288.1 q288.2 h) ?_
    obtain ⟨x289, q290, h0⟩ := idx_elim h0
    refine AD.op [119] rfl (by kernel_rfl) rfl rfl (fun _ _ h => AOp.load1 rfl rfl (ltb rfl) rfl agg22 rfl (atO q290.2) h) ?_
    refine AD.op [3] rfl (by kernel_rfl) rfl rfl (fun _ _ h => AOp.move rfl rfl (ltb rfl) rfl h) ?_
    obtain ⟨q291, h0⟩ := need_elim h0
    refine AD.op [121] rfl (by kernel_rfl) rfl rfl (fun _ _ h => AOp.indexSl rfl rfl (ltb rfl) rfl rfl el56 q291.1 q291.2 h) ?_
    obtain ⟨x292, q293, h0⟩ := idx_elim h0
    refine AD.op [122] rfl (by kernel_rfl) rfl rfl (fun _ _ h => AOp.load1 rfl rfl (ltb rfl) rfl agg22 rfl (atO q293.2) h) ?_
    refine AD.op [120, 123] rfl (by kernel_rfl) rfl rfl (fun _ _ h => AOp.fgtr rfl rfl (ltb rfl) rfl rfl h) ?_
    refine AD.done ?_
    refine AO.nil ?_
    change AC _ _ _ _
    refine AC.cond rfl (fun q294 => ?_) (fun q294 => ?_)
    · replace h0 := cT h0 q294
      refine AC.region ?_
      refine AO.op rfl (AOp.move rfl rfl (ltb rfl) rfl ?_)
      obtain ⟨q295, h0⟩ := need_elim h0
      refine AO.op rfl (AOp.indexSl rfl rfl (ltb rfl) rfl rfl el56 q295.1 q295.2 ?_)
      obtain ⟨x296, q297, h0⟩ := idx_elim h0
      refine AO.op rfl (AOp.load1 rfl rfl (ltb rfl) rfl agg22 rfl (atO q297.2) ?_)
      refine AO.op rfl (AOp.assign rfl rfl (ltb rfl) rfl ?_)
      refine AO.nil ?_
      exact ⟨x296, _, rfl, (LeL.refl _), rfl, (okU_mk rfl (okU_cons rfl (okU_cons rfl (okU_cons rfl (okU_cons rfl (okU_cons rfl (okU_cons rfl (okU_cons rfl (okU_cons (okU_fixl (fun _ => rfl)) (okU_cons (okU_fixl (fun _ => rfl)) (okU_cons (okU_fixl (fun _ => rfl)) (okU_cons (okU_fixl (fun _ => rfl)) (okU_cons rfl (okU_cons rfl okU_nil)))))))))))))), h0⟩
    replace h0 := cF h0 q294
    refine AC.skip ?_
    exact ⟨x57, _, rfl, (LeL.refl _), rfl, (okU_mk rfl (okU_cons rfl (okU_cons rfl (okU_cons rfl (okU_cons rfl (okU_cons rfl (okU_cons rfl (okU_cons rfl (okU_cons (okU_fixl (fun _ => rfl)) (okU_cons (okU_fixl (fun _ => rfl)) (okU_cons (okU_fixl (fun _ => rfl)) (okU_cons (okU_fixl (fun _ => rfl)) (okU_cons rfl (okU_cons rfl okU_nil)))))))))))))), h0⟩
  intro g59 h0
  unfold p_NormalizedMeet_k8 at h0
  refine AC.seq ?_
  refine AC.region ?_
  refine AO.op rfl (AOp.move rfl rfl (ltb rfl) rfl ?_)
  refine AO.op rfl (AOp.assign rfl rfl (ltb rfl) rfl ?_)
  refine AO.nil ?_
  change AC _ _ _ _
  refine AC.joinP (V := Nat) [0, 1, 2, 3, 4, 11, 12, 13, 15, 16, 17] [18] 13 (fun g60 => [(18, .d (dfl g60))]) (fun g60 => [.fix 24 [.d (dfl a0.X), .d (dfl a0.Y)], .fix 24 [.d (dfl a1.X), .d (dfl a1.Y)], .fix 24 [.d (dfl a2.X), .d (dfl a2.Y)], .fix 24 [.d (dfl a3.X), .d (dfl a3.Y)], .fix 24 [.d (dfl (0 : Nat)), .d (dfl (0 : Nat))], .frame fr9 [(8, .ptr 4 0)], .frame fr10 [(8, .d (.v (.slice none 0 0)))], .fix 22 (List.map (fun z => SV.d (keS1 z)) c16), .fix 22 (List.map (fun z => SV.d (keS1 z)) c19), .fix 22 (List.map (fun z => SV.d (keS1 z)) c22), .fix 22 (List.map (fun z => SV.d (keS1 z)) c25), .grow 22 1 (List.map keS1 [(0 : Nat), (0 : Nat)]), .frame fr27 [(9, .sl 7 1 0 (((2 : Int)).toNat) (((2 : Int)).toNat)), (10, .sl 8 1 0 (((2 : Int)).toNat) (((2 : Int)).toNat)), (11, .sl 9 1 0 (((2 : Int)).toNat) (((2 : Int)).toNat)), (12, .sl 10 1 0 (((2 : Int)).toNat) (((2 : Int)).toNat)), (13, .own 11)]]) (fun g60 => (p_NormalizedMeet_k9 c16 c19 c22 c25 g35 g39 g43 g51 g55 g59) g60 = some r0) rfl ?_ ?_
  · refine AC.seq ?_
    refine AC.region ?_
    refine AO.op rfl (AOp.move rfl rfl (ltb rfl) rfl ?_)
    refine AO.op rfl (AOp.move rfl rfl (ltb rfl) rfl ?_)
    refine AO.op rfl (AOp.fgtr rfl rfl (ltb rfl) rfl rfl ?_)
    refine AO.nil ?_
    change AC _ _ _ _
    refine AC.cond rfl (fun q287 => ?_) (fun q287 => ?_)
    · replace h0 := cT h0 q287
      refine AC.region ?_
      refine AO.op rfl (AOp.move rfl rfl (ltb rfl) rfl ?_)
      refine AO.op rfl (AOp.assign rfl rfl (ltb rfl) rfl ?_)
      refine AO.nil ?_
      exact ⟨g31, _, rfl, (LeL.refl _), rfl, (okU_mk rfl (okU_cons rfl (okU_cons rfl (okU_cons rfl (okU_cons rfl (okU_cons rfl (okU_cons rfl (okU_cons rfl (okU_cons (okU_fixl (fun _ => rfl)) (okU_cons (okU_fixl (fun _ => rfl)) (okU_cons (okU_fixl (fun _ => rfl)) (okU_cons (okU_fixl (fun _ => rfl)) (okU_cons rfl (okU_cons rfl okU_nil)))))))))))))), h0⟩
    replace h0 := cF h0 q287
    refine AC.skip ?_
    exact ⟨g47, _, rfl, (LeL.refl _), rfl, (okU_mk rfl (okU_cons rfl (okU_cons rfl (okU_cons rfl (okU_cons rfl (okU_cons rfl (okU_cons rfl (okU_cons rfl (okU_cons (okU_fixl (fun _ => rfl)) (okU_cons (okU_fixl (fun _ => rfl)) (okU_cons (okU_fixl (fun _ => rfl)) (okU_cons (okU_fixl (fun _ => rfl)) (okU_cons rfl (okU_cons rfl okU_nil)))))))))))))), h0⟩
  intro g60 h0
  unfold p_NormalizedMeet_k9 at h0
  refine AC.seq ?_
  refine AC.region ?_
  refine AO.op rfl (AOp.move rfl rfl (ltb rfl) rfl ?_)
  refine AO.op rfl (AOp.assign rfl rfl (ltb rfl) rfl ?_)
  refine AO.nil ?_
  change AC _ _ _ _
  refine AC.joinP (V := Nat) [0, 1, 2, 3, 4, 11, 13, 15, 17, 18] [19] 13 (fun g61 => [(19, .d (dfl g61))]) (fun g61 => [.fix 24 [.d (dfl a0.X), .d (dfl a0.Y)], .fix 24 [.d (dfl a1.X), .d (dfl a1.Y)], .fix 24 [.d (dfl a2.X), .d (dfl a2.Y)], .fix 24 [.d (dfl a3.X), .d (dfl a3.Y)], .fix 24 [.d (dfl (0 : Nat)), .d (dfl (0 : Nat))], .frame fr9 [(8, .ptr 4 0)], .frame fr10 [(8, .d (.v (.slice none 0 0)))], .fix 22 (List.map (fun z => SV.d (keS1 z)) c16), .fix 22 (List.map (fun z => SV.d (keS1 z)) c19), .fix 22 (List.map (fun z => SV.d (keS1 z)) c22), .fix 22 (List.map (fun z => SV.d (keS1 z)) c25), .grow 22 1 (List.map keS1 [(0 : Nat), (0 : Nat)]), .frame fr27 [(9, .sl 7 1 0 (((2 : Int)).toNat) (((2 : Int)).toNat)), (10, .sl 8 1 0 (((2 : Int)).toNat) (((2 : Int)).toNat)), (11, .sl 9 1 0 (((2 : Int)).toNat) (((2 : Int)).toNat)), (12, .sl 10 1 0 (((2 : Int)).toNat) (((2 : Int)).toNat)), (13, .own 11)]]) (fun g61 => (p_NormalizedMeet_k10 c16 c19 c22 c25 g35 g43 g51 g59 g60) g61 = some r0) rfl ?_ ?_
  · refine AC.seq ?_
    refine AC.region ?_
    refine AO.op rfl (AOp.move rfl rfl (ltb rfl) rfl ?_)
    refine AO.op rfl (AOp.move rfl rfl (ltb rfl) rfl ?_)
    refine AO.op rfl (AOp.flss rfl rfl (ltb rfl) rfl rfl ?_)
    refine AO.nil ?_
    change AC _ _ _ _
    refine AC.cond rfl (fun q286 => ?_) (fun q286 => ?_)
    · replace h0 := cT h0 q286
      refine AC.region ?_
      refine AO.op rfl (AOp.move rfl rfl (ltb rfl) rfl ?_)
      refine AO.op rfl (AOp.assign rfl rfl (ltb rfl) rfl ?_)
      refine AO.nil ?_
      exact ⟨g39, _, rfl, (LeL.refl _), rfl, (okU_mk rfl (okU_cons rfl (okU_cons rfl (okU_cons rfl (okU_cons rfl (okU_cons rfl (okU_cons rfl (okU_cons rfl (okU_cons (okU_fixl (fun _ => rfl)) (okU_cons (okU_fixl (fun _ => rfl)) (okU_cons (okU_fixl (fun _ => rfl)) (okU_cons (okU_fixl (fun _ => rfl)) (okU_cons rfl (okU_cons rfl okU_nil)))))))))))))), h0⟩
    replace h0 := cF h0 q286
    refine AC.skip ?_
    exact ⟨g55, _, rfl, (LeL.refl _), rfl, (okU_mk rfl (okU_cons rfl (okU_cons rfl (okU_cons rfl (okU_cons rfl (okU_cons rfl (okU_cons rfl (okU_cons rfl (okU_cons (okU_fixl (fun _ => rfl)) (okU_cons (okU_fixl (fun _ => rfl)) (okU_cons (okU_fixl (fun _ => rfl)) (okU_cons (okU_fixl (fun _ => rfl)) (okU_cons rfl (okU_cons rfl okU_nil)))))))))))))), h0⟩
  intro g61 h0
  unfold p_NormalizedMeet_k10 at h0
  refine AC.seq ?_
  refine AC.region ?_
  refine AO.op rfl (AOp.move rfl rfl (ltb rfl) rfl ?_)
  refine AO.op rfl (AOp.assign rfl rfl (ltb rfl) rfl ?_)
  refine AO.nil ?_
  change AC _ _ _ _
  refine AC.joinP (V := Nat) [0, 1, 2, 3, 4, 13, 17, 18, 19] [20] 13 (fun g62 => [(20, .d (dfl g62))]) (fun g62 => [.fix 24 [.d (dfl a0.X), .d (dfl a0.Y)], .fix 24 [.d (dfl a1.X), .d (dfl a1.Y)], .fix 24 [.d (dfl a2.X), .d (dfl a2.Y)], .fix 24 [.d (dfl a3.X), .d (dfl a3.Y)], .fix 24 [.d (dfl (0 : Nat)), .d (dfl (0 : Nat))], .frame fr9 [(8, .ptr 4 0)], .frame fr10 [(8, .d (.v (.slice none 0 0)))], .fix 22 (List.map (fun z => SV.d (keS1 z)) c16), .fix 22 (List.map (fun z => SV.d (keS1 z)) c19), .fix 22 (List.map (fun z => SV.d (keS1 z)) c22), .fix 22 (List.map (fun z => SV.d (keS1 z)) c25), .grow 22 1 (List.map keS1 [(0 : Nat), (0 : Nat)]), .frame fr27 [(9, .sl 7 1 0 (((2 : Int)).toNat) (((2 : Int)).toNat)), (10, .sl 8 1 0 (((2 : Int)).toNat) (((2 : Int)).toNat)), (11, .sl 9 1 0 (((2 : Int)).toNat) (((2 : Int)).toNat)), (12, .sl 10 1 0 (((2 : Int)).toNat) (((2 : Int)).toNat)), (13, .own 11)]]) (fun g62 => (p_NormalizedMeet_k11 c16 c19 c22 c25 g43 g59 g60 g61) g62 = some r0) rfl ?_ ?_
  · refine AC.seq ?_
    refine AC.region ?_
    refine AO.op rfl (AOp.move rfl rfl (ltb rfl) rfl ?_)
    refine AO.op rfl (AOp.move rfl rfl (ltb rfl) rfl ?_)
    refine AO.op rfl (AOp.fgtr rfl rfl (ltb rfl) rfl rfl ?_)
    refine AO.nil ?_
    change AC _ _ _ _
    refine AC.cond rfl (fun q285 => ?_) (fun q285 => ?_)
    · replace h0 := cT h0 q285
      refine AC.region ?_
      refine AO.op rfl (AOp.move rfl rfl (ltb rfl) rfl ?_)
      refine AO.op rfl (AOp.assign rfl rfl (ltb rfl) rfl ?_)
      refine AO.nil ?_
      exact ⟨g35, _, rfl, (LeL.refl _), rfl, (okU_mk rfl (okU_cons rfl (okU_cons rfl (okU_cons rfl (okU_cons rfl (okU_cons rfl (okU_cons rfl (okU_cons rfl (okU_cons (okU_fixl (fun _ => rfl)) (okU_cons (okU_fixl (fun _ => rfl)) (okU_cons (okU_fixl (fun _ => rfl)) (okU_cons (okU_fixl (fun _ => rfl)) (okU_cons rfl (okU_cons rfl okU_nil)))))))))))))), h0⟩
    replace h0 := cF h0 q285
    refine AC.skip ?_
    exact ⟨g51, _, rfl, (LeL.refl _), rfl, (okU_mk rfl (okU_cons rfl (okU_cons rfl (okU_cons rfl (okU_cons rfl (okU_cons rfl (okU_cons rfl (okU_cons rfl (okU_cons (okU_fixl (fun _ => rfl)) (okU_cons (okU_fixl (fun _ => rfl)) (okU_cons (okU_fixl (fun _ => rfl)) (okU_cons (okU_fixl (fun _ => rfl)) (okU_cons rfl (okU_cons rfl okU_nil)))))))))))))), h0⟩
  intro g62 h0
  unfold p_NormalizedMeet_k11 at h0
  refine AC.seq ?_
  refine AC.region ?_
  refine AO.op rfl (AOp.move rfl rfl (ltb rfl) rfl ?_)
  refine AO.op rfl (AOp.assign rfl rfl (ltb rfl) rfl ?_)
  refine AO.nil ?_
  change AC _ _ _ _
  refine AC.joinP (V := Nat) [0, 1, 2, 3, 4, 18, 19, 20] [21] 13 (fun g63 => [(21, .d (dfl g63))]) (fun g63 => [.fix 24 [.d (dfl a0.X), .d (dfl a0.Y)], .fix 24 [.d (dfl a1.X), .d (dfl a1.Y)], .fix 24 [.d (dfl a2.X), .d (dfl a2.Y)], .fix 24 [.d (dfl a3.X), .d (dfl a3.Y)], .fix 24 [.d (dfl (0 : Nat)), .d (dfl (0 : Nat))], .frame fr9 [(8, .ptr 4 0)], .frame fr10 [(8, .d (.v (.slice none 0 0)))], .fix 22 (List.map (fun z => SV.d (keS1 z)) c16), .fix 22 (List.map (fun z => SV.d (keS1 z)) c19), .fix 22 (List.map (fun z => SV.d (keS1 z)) c22), .fix 22 (List.map (fun z => SV.d (keS1 z)) c25), .grow 22 1 (List.map keS1 [(0 : Nat), (0 : Nat)]), .frame fr27 [(9, .sl 7 1 0 (((2 : Int)).toNat) (((2 : Int)).toNat)), (10, .sl 8 1 0 (((2 : Int)).toNat) (((2 : Int)).toNat)), (11, .sl 9 1 0 (((2 : Int)).toNat) (((2 : Int)).toNat)), (12, .sl 10 1 0 (((2 : Int)).toNat) (((2 : Int)).toNat)), (13, .own 11)]]) (fun g63 => (p_NormalizedMeet_k12 c16 c19 c22 c25 g60 g61 g62) g63 = some r0) rfl ?_ ?_
  · refine AC.seq ?_
    refine AC.region ?_
    refine AO.op rfl (AOp.move rfl rfl (ltb rfl) rfl ?_)
    refine AO.op rfl (AOp.move rfl rfl (ltb rfl) rfl ?_)
    refine AO.op rfl (AOp.flss rfl rfl (ltb rfl) rfl rfl ?_)
    refine AO.nil ?_
    change AC _ _ _ _
    refine AC.cond rfl (fun q284 => ?_) (fun q284 => ?_)
    · replace h0 := cT h0 q284
      refine AC.region ?_
      refine AO.op rfl (AOp.move rfl rfl (ltb rfl) rfl ?_)
      refine AO.op rfl (AOp.assign rfl rfl (ltb rfl) rfl ?_)
      refine AO.nil ?_
      exact ⟨g43, _, rfl, (LeL.refl _), rfl, (okU_mk rfl (okU_cons rfl (okU_cons rfl (okU_cons rfl (okU_cons rfl (okU_cons rfl (okU_cons rfl (okU_cons rfl (okU_cons (okU_fixl (fun _ => rfl)) (okU_cons (okU_fixl (fun _ => rfl)) (okU_cons (okU_fixl (fun _ => rfl)) (okU_cons (okU_fixl (fun _ => rfl)) (okU_cons rfl (okU_cons rfl okU_nil)))))))))))))), h0⟩
    replace h0 := cF h0 q284
    refine AC.skip ?_
    exact ⟨g59, _, rfl, (LeL.refl _), rfl, (okU_mk rfl (okU_cons rfl (okU_cons rfl (okU_cons rfl (okU_cons rfl (okU_cons rfl (okU_cons rfl (okU_cons rfl (okU_cons (okU_fixl (fun _ => rfl)) (okU_cons (okU_fixl (fun _ => rfl)) (okU_cons (okU_fixl (fun _ => rfl)) (okU_cons (okU_fixl (fun _ => rfl)) (okU_cons rfl (okU_cons rfl okU_nil)))))))))))))), h0⟩
  intro g63 h0
  unfold p_NormalizedMeet_k12 at h0
  refine AC.seq ?_
  refine AC.region ?_
  refine AO.op rfl (AOp.move rfl rfl (ltb rfl) rfl ?_)
  refine AO.op rfl (AOp.move rfl rfl (ltb rfl) rfl ?_)
  obtain ⟨z64, q65, h0⟩ := bind_elim h0
  refine AO.op rfl (AOp.farith rfl rfl (ltb rfl) rfl rfl q65 ?_)
  obtain ⟨z66, q67, h0⟩ := bind_elim h0
  refine AO.op rfl (AOp.farith rfl rfl (ltb rfl) rfl rfl q67 ?_)
  refine AO.op rfl (AOp.assign rfl rfl (ltb rfl) rfl ?_)
  refine AO.nil ?_
  change AC _ _ _ _
  refine AC.seq ?_
  refine AC.region ?_
  refine AO.op rfl (AOp.move rfl rfl (ltb rfl) rfl ?_)
  refine AO.op rfl (AOp.move rfl rfl (ltb rfl) rfl ?_)
  obtain ⟨z68, q69, h0⟩ := bind_elim h0
  refine AO.op rfl (AOp.farith rfl rfl (ltb rfl) rfl rfl q69 ?_)
  obtain ⟨z70, q71, h0⟩ := bind_elim h0
  refine AO.op rfl (AOp.farith rfl rfl (ltb rfl) rfl rfl q71 ?_)
  refine AO.op rfl (AOp.assign rfl rfl (ltb rfl) rfl ?_)
  refine AO.nil ?_
  change AC _ _ _ _
  refine AC.seq ?_
  refine AC.region ?_
  refine AO.op rfl (AOp.move rfl rfl (ltb rfl) rfl ?_)
  refine AO.op rfl (AOp.move rfl rfl (ltb rfl) rfl ?_)
  obtain ⟨q72, h0⟩ := need_elim h0
  refine AO.op rfl (AOp.indexOwn (cells := (List.map keS1 [(0 : Nat), (0 : Nat)])) (n := [(0 : Nat), (0 : Nat)].length) rfl rfl (ltb rfl) rfl rfl el56 rfl (by decide) (len1 _ _) q72.1 q72.2 ?_)
  obtain ⟨q73, h0⟩ := need_elim h0
  refine AO.op rfl (AOp.storeOL (f := keS1) (l := [(0 : Nat), (0 : Nat)]) (i := ((0 : Int)).toNat) (v := z66) rfl rfl rfl rfl size22 rfl rfl rfl q73 ?_)
  refine AO.objs (obs' := [.fix 24 [.d (dfl a0.X), .d (dfl a0.Y)], .fix 24 [.d (dfl a1.X), .d (dfl a1.Y)], .fix 24 [.d (dfl a2.X), .d (dfl a2.Y)], .fix 24 [.d (dfl a3.X), .d (dfl a3.Y)], .fix 24 [.d (dfl (0 : Nat)), .d (dfl (0 : Nat))], .frame fr9 [(8, .ptr 4 0)], .frame fr10 [(8, .d (.v (.slice none 0 0)))], .fix 22 (List.map (fun z => SV.d (keS1 z)) c16), .fix 22 (List.map (fun z => SV.d (keS1 z)) c19), .fix 22 (List.map (fun z => SV.d (keS1 z)) c22), .fix 22 (List.map (fun z => SV.d (keS1 z)) c25), .grow 22 1 (List.map keS1 ([(0 : Nat), (0 : Nat)].set ((0 : Int)).toNat z66)), .frame fr27 [(9, .sl 7 1 0 (((2 : Int)).toNat) (((2 : Int)).toNat)), (10, .sl 8 1 0 (((2 : Int)).toNat) (((2 : Int)).toNat)), (11, .sl 9 1 0 (((2 : Int)).toNat) (((2 : Int)).toNat)), (12, .sl 10 1 0 (((2 : Int)).toNat) (((2 : Int)).toNat)), (13, .own 11)]]) rfl ?_
  refine AO.nil ?_
  change AC _ _ _ _
  refine AC.seq ?_
  refine AC.region ?_
  refine AO.op rfl (AOp.move rfl rfl (ltb rfl) rfl ?_)
  refine AO.op rfl (AOp.move rfl rfl (ltb rfl) rfl ?_)
  obtain ⟨q74, h0⟩ := need_elim h0
  refine AO.op rfl (AOp.indexOwn (cells := (List.map keS1 ([(0 : Nat), (0 : Nat)].set ((0 : Int)).toNat z66))) (n := ([(0 : Nat), (0 : Nat)].set ((0 : Int)).toNat z66).length) rfl rfl (ltb rfl) rfl rfl el56 rfl (by decide) (len1 _ _) q74.1 q74.2 ?_)
  obtain ⟨q75, h0⟩ := need_elim h0
  refine AO.op rfl (AOp.storeOL (f := keS1) (l := ([(0 : Nat), (0 : Nat)].set ((0 : Int)).toNat z66)) (i := ((1 : Int)).toNat) (v := z70) rfl rfl rfl rfl size22 rfl rfl rfl q75 ?_)
  refine AO.objs (obs' := [.fix 24 [.d (dfl a0.X), .d (dfl a0.Y)], .fix 24 [.d (dfl a1.X), .d (dfl a1.Y)], .fix 24 [.d (dfl a2.X), .d (dfl a2.Y)], .fix 24 [.d (dfl a3.X), .d (dfl a3.Y)], .fix 24 [.d (dfl (0 : Nat)), .d (dfl (0 : Nat))], .frame fr9 [(8, .ptr 4 0)], .frame fr10 [(8, .d (.v (.slice none 0 0)))], .fix 22 (List.map (fun z => SV.d (keS1 z)) c16), .fix 22 (List.map (fun z => SV.d (keS1 z)) c19), .fix 22 (List.map (fun z => SV.d (keS1 z)) c22), .fix 22 (List.map (fun z => SV.d (keS1 z)) c25), .grow 22 1 (List.map keS1 (([(0 : Nat), (0 : Nat)].set ((0 : Int)).toNat z66).set ((1 : Int)).toNat z70)), .frame fr27 [(9, .sl 7 1 0 (((2 : Int)).toNat) (((2 : Int)).toNat)), (10, .sl 8 1 0 (((2 : Int)).toNat) (((2 : Int)).toNat)), (11, .sl 9 1 0 (((2 : Int)).toNat) (((2 : Int)).toNat)), (12, .sl 10 1 0 (((2 : Int)).toNat) (((2 : Int)).toNat)), (13, .own 11)]]) rfl ?_
  refine AO.nil ?_
  change AC _ _ _ _
  refine AC.seq ?_
  refine AC.draw 8 mixed (by kernel_rfl) ?_
  refine AD.op [0] rfl (by kernel_rfl) rfl rfl (fun _ _ h => AOp.move rfl rfl (ltb rfl) rfl h) ?_
  obtain ⟨q76, h0⟩ := need_elim h0
  refine AD.op [162] rfl (by kernel_rfl) rfl rfl (fun _ _ h => AOp.indexSl rfl rfl (ltb rfl) rfl rfl el56 q76.1 q76.2 h) ?_
  obtain ⟨x77, q78, h0⟩ := idx_elim h0
  refine AD.op [163] rfl (by kernel_rfl) rfl rfl (fun _ _ h => AOp.load1 rfl rfl (ltb rfl) rfl agg22 rfl (atO q78.2) h) ?_
  refine AD.op [4] rfl (by kernel_rfl) rfl rfl (fun _ _ h => AOp.move rfl rfl (ltb rfl) rfl h) ?_
  obtain ⟨q79, h0⟩ := need_elim h0
  refine AD.op [165] rfl (by kernel_rfl) rfl rfl (fun _ _ h => AOp.indexOwn (cells := (List.map keS1 (([(0 : Nat), (0 : Nat)].set ((0 : Int)).toNat z66).set ((1 : Int)).toNat z70))) (n := (([(0 : Nat), (0 : Nat)].set ((0 : Int)).toNat z66).set ((1 : Int)).toNat z70).length) rfl rfl (ltb rfl) rfl rfl el56 rfl (by decide) (len1 _ _) q79.1 q79.2 h) ?_
  obtain ⟨x80, q81, h0⟩ := idx_elim h0
  refine AD.op [166] rfl (by kernel_rfl) rfl rfl (fun _ _ h => AOp.loadO1 rfl rfl (ltb rfl) rfl agg22 rfl (at1 q81.2) h) ?_
  obtain ⟨z82, q83, h0⟩ := bind_elim h0
  refine AD.op [164, 167] rfl (by kernel_rfl) rfl rfl (fun _ _ h => AOp.farith rfl rfl (ltb rfl) rfl rfl q83 h) ?_
  obtain ⟨q84, h0⟩ := need_elim h0
  refine AD.op [162] rfl (by kernel_rfl) rfl rfl (fun _ _ h => AOp.indexSl rfl rfl (ltb rfl) rfl rfl el56 q84.1 q84.2 h) ?_
  refine AD.done ?_
  obtain ⟨q85, h0⟩ := need_elim h0
  refine AO.op rfl (AOp.storeL (f := fun z => SV.d (keS1 z)) (l := c16) (i := ((0 : Int)).toNat) (v := z82) rfl rfl rfl rfl size22 rfl rfl rfl q85 ?_)
  refine AO.objs (obs' := [.fix 24 [.d (dfl a0.X), .d (dfl a0.Y)], .fix 24 [.d (dfl a1.X), .d (dfl a1.Y)], .fix 24 [.d (dfl a2.X), .d (dfl a2.Y)], .fix 24 [.d (dfl a3.X), .d (dfl a3.Y)], .fix 24 [.d (dfl (0 : Nat)), .d (dfl (0 : Nat))], .frame fr9 [(8, .ptr 4 0)], .frame fr10 [(8, .d (.v (.slice none 0 0)))], .fix 22 (List.map (fun z => SV.d (keS1 z)) (c16.set ((0 : Int)).toNat z82)), .fix 22 (List.map (fun z => SV.d (keS1 z)) c19), .fix 22 (List.map (fun z => SV.d (keS1 z)) c22), .fix 22 (List.map (fun z => SV.d (keS1 z)) c25), .grow 22 1 (List.map keS1 (([(0 : Nat), (0 : Nat)].set ((0 : Int)).toNat z66).set ((1 : Int)).toNat z70)), .frame fr27 [(9, .sl 7 1 0 (((2 : Int)).toNat) (((2 : Int)).toNat)), (10, .sl 8 1 0 (((2 : Int)).toNat) (((2 : Int)).toNat)), (11, .sl 9 1 0 (((2 : Int)).toNat) (((2 : Int)).toNat)), (12, .sl 10 1 0 (((2 : Int)).toNat) (((2 : Int)).toNat)), (13, .own 11)]]) rfl ?_
  refine AO.nil ?_
  change AC _ _ _ _
  refine AC.seq ?_
  refine AC.draw 8 mixed (by kernel_rfl) ?_
  refine AD.op [0] rfl (by kernel_rfl) rfl rfl (fun _ _ h => AOp.move rfl rfl (ltb rfl) rfl h) ?_
  obtain ⟨q86, h0⟩ := need_elim h0
  refine AD.op [170] rfl (by kernel_rfl) rfl rfl (fun _ _ h => AOp.indexSl rfl rfl (ltb rfl) rfl rfl el56 q86.1 q86.2 h) ?_
  obtain ⟨x87, q88, h0⟩ := idx_elim h0
  refine AD.op [171] rfl (by kernel_rfl) rfl rfl (fun _ _ h => AOp.load1 rfl rfl (ltb rfl) rfl agg22 rfl (atO q88.2) h) ?_
  refine AD.op [4] rfl (by kernel_rfl) rfl rfl (fun _ _ h => AOp.move rfl rfl (ltb rfl) rfl h) ?_
  obtain ⟨q89, h0⟩ := need_elim h0
  refine AD.op [173] rfl (by kernel_rfl) rfl rfl (fun _ _ h => AOp.indexOwn (cells := (List.map keS1 (([(0 : Nat), (0 : Nat)].set ((0 : Int)).toNat z66).set ((1 : Int)).toNat z70))) (n := (([(0 : Nat), (0 : Nat)].set ((0 : Int)).toNat z66).set ((1 : Int)).toNat z70).length) rfl rfl (ltb rfl) rfl rfl el56 rfl (by decide) (len1 _ _) q89.1 q89.2 h) ?_
  obtain ⟨x90, q91, h0⟩ := idx_elim h0
  refine AD.op [174] rfl (by kernel_rfl) rfl rfl (fun _ _ h => AOp.loadO1 rfl rfl (ltb rfl) rfl agg22 rfl (at1 q91.2) h) ?_
  obtain ⟨z92, q93, h0⟩ := bind_elim h0
  refine AD.op [172, 175] rfl (by kernel_rfl) rfl rfl (fun _ _ h => AOp.farith rfl rfl (ltb rfl) rfl rfl q93 h) ?_
  obtain ⟨q94, h0⟩ := need_elim h0
  refine AD.op [170] rfl (by kernel_rfl) rfl rfl (fun _ _ h => AOp.indexSl rfl rfl (ltb rfl) rfl rfl el56 q94.1 q94.2 h) ?_
  refine AD.done ?_
  obtain ⟨q95, h0⟩ := need_elim h0
  refine AO.op rfl (AOp.storeL (f := fun z => SV.d (keS1 z)) (l := (c16.set ((0 : Int)).toNat z82)) (i := ((1 : Int)).toNat) (v := z92) rfl rfl rfl rfl size22 rfl rfl rfl q95 ?_)
  refine AO.objs (obs' := [.fix 24 [.d (dfl a0.X), .d (dfl a0.Y)], .fix 24 [.d (dfl a1.X), .d (dfl a1.Y)], .fix 24 [.d (dfl a2.X), .d (dfl a2.Y)], .fix 24 [.d (dfl a3.X), .d (dfl a3.Y)], .fix 24 [.d (dfl (0 : Nat)), .d (dfl (0 : Nat))], .frame fr9 [(8, .ptr 4 0)], .frame fr10 [(8, .d (.v (.slice none 0 0)))], .fix 22 (List.map (fun z => SV.d (keS1 z)) ((c16.set ((0 : Int)).toNat z82).set ((1 : Int)).toNat z92)), .fix 22 (List.map (fun z => SV.d (keS1 z)) c19), .fix 22 (List.map (fun z => SV.d (keS1 z)) c22), .fix 22 (List.map (fun z => SV.d (keS1 z)) c25), .grow 22 1 (List.map keS1 (([(0 : Nat), (0 : Nat)].set ((0 : Int)).toNat z66).set ((1 : Int)).toNat z70)), .frame fr27 [(9, .sl 7 1 0 (((2 : Int)).toNat) (((2 : Int)).toNat)), (10, .sl 8 1 0 (((2 : Int)).toNat) (((2 : Int)).toNat)), (11, .sl 9 1 0 (((2 : Int)).toNat) (((2 : Int)).toNat)), (12, .sl 10 1 0 (((2 : Int)).toNat) (((2 : Int)).toNat)), (13, .own 11)]]) rfl ?_
  refine AO.nil ?_
  change AC _ _ _ _
  refine AC.seq ?_
  refine AC.draw 8 mixed (by kernel_rfl) ?_
  refine AD.op [1] rfl (by kernel_rfl) rfl rfl (fun _ _ h => AOp.move rfl rfl (ltb rfl) rfl h) ?_
  obtain ⟨q96, h0⟩ := need_elim h0
  refine AD.op [178] rfl (by kernel_rfl) rfl rfl (fun _ _ h => AOp.indexSl rfl rfl (ltb rfl) rfl rfl el56 q96.1 q96.2 h) ?_
  obtain ⟨x97, q98, h0⟩ := idx_elim h0
  refine AD.op [179] rfl (by kernel_rfl) rfl rfl (fun _ _ h => AOp.load1 rfl rfl (ltb rfl) rfl agg22 rfl (atO q98.2) h) ?_
  refine AD.op [4] rfl (by kernel_rfl) rfl rfl (fun _ _ h => AOp.move rfl rfl (ltb rfl) rfl h) ?_
  obtain ⟨q99, h0⟩ := need_elim h0
  refine AD.op [181] rfl (by kernel_rfl) rfl rfl (fun _ _ h => AOp.indexOwn (cells := (List.map keS1 (([(0 : Nat), (0 : Nat)].set ((0 : Int)).toNat z66).set ((1 : Int)).toNat z70))) (n := (([(0 : Nat), (0 : Nat)].set ((0 : Int)).toNat z66).set ((1 : Int)).toNat z70).length) rfl rfl (ltb rfl) rfl rfl el56 rfl (by decide) (len1 _ _) q99.1 q99.2 h) ?_
  obtain ⟨x100, q101, h0⟩ := idx_elim h0
  refine AD.op [182] rfl (by kernel_rfl) rfl rfl (fun _ _ h => AOp.loadO1 rfl rfl (ltb rfl) rfl agg22 rfl (at1 q101.2) h) ?_
  obtain ⟨z102, q103, h0⟩ := bind_elim h0
  refine AD.op [180, 183] rfl (by kernel_rfl) rfl rfl (fun _ _ h => AOp.farith rfl rfl (ltb rfl) rfl rfl q103 h) ?_
  obtain ⟨q104, h0⟩ := need_elim h0
  refine AD.op [178] rfl (by kernel_rfl) rfl rfl (fun _ _ h => AOp.indexSl rfl rfl (ltb rfl) rfl rfl el56 q104.1 q104.2 h) ?_
  refine AD.done ?_
  obtain ⟨q105, h0⟩ := need_elim h0
  refine AO.op rfl (AOp.storeL (f := fun z => SV.d (keS1 z)) (l := c19) (i := ((0 : Int)).toNat) (v := z102) rfl rfl rfl rfl size22 rfl rfl rfl q105 ?_)
  refine AO.objs (obs' := [.fix 24 [.d (dfl a0.X), .d (dfl a0.Y)], .fix 24 [.d (dfl a1.X), .d (dfl a1.Y)], .fix 24 [.d (dfl a2.X), .d (dfl a2.Y)], .fix 24 [.d (dfl a3.X), .d (dfl a3.Y)], .fix 24 [.d (dfl (0 : Nat)), .d (dfl (0 : Nat))], .frame fr9 [(8, .ptr 4 0)], .frame fr10 [(8, .d (.v (.slice none 0 0)))], .fix 22 (List.map (fun z => SV.d (keS1 z)) ((c16.set ((0 : Int)).toNat z82).set ((1 : Int)).toNat z92)), .fix 22 (List.map (fun z => SV.d (keS1 z)) (c19.set ((0 : Int)).toNat z102)), .fix 22 (List.map (fun z => SV.d (keS1 z)) c22), .fix 22 (List.map (fun z => SV.d (keS1 z)) c25), .grow 22 1 (List.map keS1 (([(0 : Nat), (0 : Nat)].set ((0 : Int)).toNat z66).set ((1 : Int)).toNat z70)), .frame fr27 [(9, .sl 7 1 0 (((2 : Int)).toNat) (((2 : Int)).toNat)), (10, .sl 8 1 0 (((2 : Int)).toNat) (((2 : Int)).toNat)), (11, .sl 9 1 0 (((2 : Int)).toNat) (((2 : Int)).toNat)), (12, .sl 10 1 0 (((2 : Int)).toNat) (((2 : Int)).toNat)), (13, .own 11)]]) rfl ?_
  refine AO.nil ?_
  change AC _ _ _ _
  refine AC.seq ?_
  refine AC.draw 8 mixed (by kernel_rfl) ?_
  refine AD.op [1] rfl (by kernel_rfl) rfl rfl (fun _ _ h => AOp.move rfl rfl (ltb rfl) rfl h) ?_
  obtain ⟨q106, h0⟩ := need_elim h0
  refine AD.op [186] rfl (by kernel_rfl) rfl rfl (fun _ _ h => AOp.indexSl rfl rfl (ltb rfl) rfl rfl el56 q106.1 q106.2 h) ?_
  obtain ⟨x107, q108, h0⟩ := idx_elim h0
  refine AD.op [187] rfl (by kernel_rfl) rfl rfl (fun _ _ h => AOp.load1 rfl rfl (ltb rfl) rfl agg22 rfl (atO q108.2) h) ?_
  refine AD.op [4] rfl (by kernel_rfl) rfl rfl (fun _ _ h => AOp.move rfl rfl (ltb rfl) rfl h) ?_
  obtain ⟨q109, h0⟩ := need_elim h0
  refine AD.op [189] rfl (by kernel_rfl) rfl rfl (fun _ _ h => AOp.indexOwn (cells := (List.map keS1 (([(0 : Nat), (0 : Nat)].set ((0 : Int)).toNat z66).set ((1 : Int)).toNat z70))) (n := (([(0 : Nat), (0 : Nat)].set ((0 : Int)).toNat z66).set ((1 : Int)).toNat z70).length) rfl rfl (ltb rfl) rfl rfl el56 rfl (by decide) (len1 _ _) q109.1 q109.2 h) ?_
  obtain ⟨x110, q111, h0⟩ := idx_elim h0
  refine AD.op [190] rfl (by kernel_rfl) rfl rfl (fun _ _ h => AOp.loadO1 rfl rfl (ltb rfl) rfl agg22 rfl (at1 q111.2) h) ?_
  obtain ⟨z112, q113, h0⟩ := bind_elim h0
  refine AD.op [188, 191] rfl (by kernel_rfl) rfl rfl (fun _ _ h => AOp.farith rfl rfl (ltb rfl) rfl rfl q113 h) ?_
  obtain ⟨q114, h0⟩ := need_elim h0
  refine AD.op [186] rfl (by kernel_rfl) rfl rfl (fun _ _ h => AOp.indexSl rfl rfl (ltb rfl) rfl rfl el56 q114.1 q114.2 h) ?_
  refine AD.done ?_
  obtain ⟨q115, h0⟩ := need_elim h0
  refine AO.op rfl (AOp.storeL (f := fun z => SV.d (keS1 z)) (l := (c19.set ((0 : Int)).toNat z102)) (i := ((1 : Int)).toNat) (v := z112) rfl rfl rfl rfl size22 rfl rfl rfl q115 ?_)
  refine AO.objs (obs' := [.fix 24 [.d (dfl a0.X), .d (dfl a0.Y)], .fix 24 [.d (dfl a1.X), .d (dfl a1.Y)], .fix 24 [.d (dfl a2.X), .d (dfl a2.Y)], .fix 24 [.d (dfl a3.X), .d (dfl a3.Y)], .fix 24 [.d (dfl (0 : Nat)), .d (dfl (0 : Nat))], .frame fr9 [(8, .ptr 4 0)], .frame fr10 [(8, .d (.v (.slice none 0 0)))], .fix 22 (List.map (fun z => SV.d (keS1 z)) ((c16.set ((0 : Int)).toNat z82).set ((1 : Int)).toNat z92)), .fix 22 (List.map (fun z => SV.d (keS1 z)) ((c19.set ((0 : Int)).toNat z102).set ((1 : Int)).toNat z112)), .fix 22 (List.map (fun z => SV.d (keS1 z)) c22), .fix 22 (List.map (fun z => SV.d (keS1 z)) c25), .grow 22 1 (List.map keS1 (([(0 : Nat), (0 : Nat)].set ((0 : Int)).toNat z66).set ((1 : Int)).toNat z70)), .frame fr27 [(9, .sl 7 1 0 (((2 : Int)).toNat) (((2 : Int)).toNat)), (10, .sl 8 1 0 (((2 : Int)).toNat) (((2 : Int)).toNat)), (11, .sl 9 1 0 (((2 : Int)).toNat) (((2 : Int)).toNat)), (12, .sl 10 1 0 (((2 : Int)).toNat) (((2 : Int)).toNat)), (13, .own 11)]]) rfl ?_
  refine AO.nil ?_
  change AC _ _ _ _
  refine AC.seq ?_
  refine AC.draw 8 mixed (by kernel_rfl) ?_
  refine AD.op [2] rfl (by kernel_rfl) rfl rfl (fun _ _ h => AOp.move rfl rfl (ltb rfl) rfl h) ?_
  obtain ⟨q116, h0⟩ := need_elim h0
  refine AD.op [194] rfl (by kernel_rfl) rfl rfl (fun _ _ h => AOp.indexSl rfl rfl (ltb rfl) rfl rfl el56 q116.1 q116.2 h) ?_
  obtain ⟨x117, q118, h0⟩ := idx_elim h0
  refine AD.op [195] rfl (by kernel_rfl) rfl rfl (fun _ _ h => AOp.load1 rfl rfl (ltb rfl) rfl agg22 rfl (atO q118.2) h) ?_
  refine AD.op [4] rfl (by kernel_rfl) rfl rfl (fun _ _ h => AOp.move rfl rfl (ltb rfl) rfl h) ?_
  obtain ⟨q119, h0⟩ := need_elim h0
  refine AD.op [197] rfl (by kernel_rfl) rfl rfl (fun _ _ h => AOp.indexOwn (cells := (List.map keS1 (([(0 : Nat), (0 : Nat)].set ((0 : Int)).toNat z66).set ((1 : Int)).toNat z70))) (n := (([(0 : Nat), (0 : Nat)].set ((0 : Int)).toNat z66).set ((1 : Int)).toNat z70).length) rfl rfl (ltb rfl) rfl rfl el56 rfl (by decide) (len1 _ _) q119.1 q119.2 h) ?_
  obtain ⟨x120, q121, h0⟩ := idx_elim h0
  refine AD.op [198] rfl (by kernel_rfl) rfl rfl (fun _ _ h => AOp.loadO1 rfl rfl (ltb rfl) rfl agg22 rfl (at1 q121.2) h) ?_
  obtain ⟨z122, q123, h0⟩ := bind_elim h0
  refine AD.op [196, 199] rfl (by kernel_rfl) rfl rfl (fun _ _ h => AOp.farith rfl rfl (ltb rfl) rfl rfl q123 h) ?_
  obtain ⟨q124, h0⟩ := need_elim h0
  refine AD.op [194] rfl (by kernel_rfl) rfl rfl (fun _ _ h => AOp.indexSl rfl rfl (ltb rfl) rfl rfl el56 q124.1 q124.2 h) ?_
  refine AD.done ?_
  obtain ⟨q125, h0⟩ := need_elim h0
  refine AO.op rfl (AOp.storeL (f := fun z => SV.d (keS1 z)) (l := c22) (i := ((0 : Int)).toNat) (v := z122) rfl rfl rfl rfl size22 rfl rfl rfl q125 ?_)
  refine AO.objs (obs' := [.fix 24 [.d (dfl a0.X), .d (dfl a0.Y)], .fix 24 [.d (dfl a1.X), .d (dfl a1.Y)], .fix 24 [.d (dfl a2.X), .d (dfl a2.Y)], .fix 24 [.d (dfl a3.X), .d (dfl a3.Y)], .fix 24 [.d (dfl (0 : Nat)), .d (dfl (0 : Nat))], .frame fr9 [(8, .ptr 4 0)], .frame fr10 [(8, .d (.v (.slice none 0 0)))], .fix 22 (List.map (fun z => SV.d (keS1 z)) ((c16.set ((0 : Int)).toNat z82).set ((1 : Int)).toNat z92)), .fix 22 (List.map (fun z => SV.d (keS1 z)) ((c19.set ((0 : Int)).toNat z102).set ((1 : Int)).toNat z112)), .fix 22 (List.map (fun z => SV.d (keS1 z)) (c22.set ((0 : Int)).toNat z122)), .fix 22 (List.map (fun z => SV.d (keS1 z)) c25), .grow 22 1 (List.map keS1 (([(0 : Nat), (0 : Nat)].set ((0 : Int)).toNat z66).set ((1 : Int)).toNat z70)), .frame fr27 [(9, .sl 7 1 0 (((2 : Int)).toNat) (((2 : Int)).toNat)), (10, .sl 8 1 0 (((2 : Int)).toNat) (((2 : Int)).toNat)), (11, .sl 9 1 0 (((2 : Int)).toNat) (((2 : Int)).toNat)), (12, .sl 10 1 0 (((2 : Int)).toNat) (((2 : Int)).toNat)), (13, .own 11)]]) rfl ?_
  refine AO.nil ?_
  change AC _ _ _ _
  refine AC.seq ?_
  refine AC.draw 8 mixed (by kernel_rfl) ?_
  refine AD.op [2] rfl (by kernel_rfl) rfl rfl (fun _ _ h => AOp.move rfl rfl (ltb rfl) rfl h) ?_
  obtain ⟨q126, h0⟩ := need_elim h0
  refine AD.op [202] rfl (by kernel_rfl) rfl rfl (fun _ _ h => AOp.indexSl rfl rfl (ltb rfl) rfl rfl el56 q126.1 q126.2 h) ?_
  obtain ⟨x127, q128, h0⟩ := idx_elim h0
  refine AD.op [203] rfl (by kernel_rfl) rfl rfl (fun _ _ h => AOp.load1 rfl rfl (ltb rfl) rfl agg22 rfl (atO q128.2) h) ?_
  refine AD.op [4] rfl (by kernel_rfl) rfl rfl (fun _ _ h => AOp.move rfl rfl (ltb rfl) rfl h) ?_
  obtain ⟨q129, h0⟩ := need_elim h0
  refine AD.op [205] rfl (by kernel_rfl) rfl rfl (fun _ _ h => AOp.indexOwn (cells := (List.map keS1 (([(0 : Nat), (0 : Nat)].set ((0 : Int)).toNat z66).set ((1 : Int)).toNat z70))) (n := (([(0 : Nat), (0 : Nat)].set ((0 : Int)).toNat z66).set ((1 : Int)).toNat z70).length) rfl rfl (ltb rfl) rfl rfl el56 rfl (by decide) (len1 _ _) q129.1 q129.2 h) ?_
  obtain ⟨x130, q131, h0⟩ := idx_elim h0
  refine AD.op [206] rfl (by kernel_rfl) rfl rfl (fun _ _ h => AOp.loadO1 rfl rfl (ltb rfl) rfl agg22 rfl (at1 q131.2) h) ?_
  obtain ⟨z132, q133, h0⟩ := bind_elim h0
  refine AD.op [204, 207] rfl (by kernel_rfl) rfl rfl (fun _ _ h => AOp.farith rfl rfl (ltb rfl) rfl rfl q133 h) ?_
  obtain ⟨q134, h0⟩ := need_elim h0
  refine AD.op [202] rfl (by kernel_rfl) rfl rfl (fun _ _ h => AOp.indexSl rfl rfl (ltb rfl) rfl rfl el56 q134.1 q134.2 h) ?_
  refine AD.done ?_
  obtain ⟨q135, h0⟩ := need_elim h0
  refine AO.op rfl (AOp.storeL (f := fun z => SV.d (keS1 z)) (l := (c22.set ((0 : Int)).toNat z122)) (i := ((1 : Int)).toNat) (v := z132) rfl rfl rfl rfl size22 rfl rfl rfl q135 ?_)
  refine AO.objs (obs' := [.fix 24 [.d (dfl a0.X), .d (dfl a0.Y)], .fix 24 [.d (dfl a1.X), .d (dfl a1.Y)], .fix 24 [.d (dfl a2.X), .d (dfl a2.Y)], .fix 24 [.d (dfl a3.X), .d (dfl a3.Y)], .fix 24 [.d (dfl (0 : Nat)), .d (dfl (0 : Nat))], .frame fr9 [(8, .ptr 4 0)], .frame fr10 [(8, .d (.v (.slice none 0 0)))], .fix 22 (List.map (fun z => SV.d (keS1 z)) ((c16.set ((0 : Int)).toNat z82).set ((1 : Int)).toNat z92)), .fix 22 (List.map (fun z => SV.d (keS1 z)) ((c19.set ((0 : Int)).toNat z102).set ((1 : Int)).toNat z112)), .fix 22 (List.map (fun z => SV.d (keS1 z)) ((c22.set ((0 : Int)).toNat z122).set ((1 : Int)).toNat z132)), .fix 22 (List.map (fun z => SV.d (keS1 z)) c25), .grow 22 1 (List.map keS1 (([(0 : Nat), (0 : Nat)].set ((0 : Int)).toNat z66).set ((1 : Int)).toNat z70)), .frame fr27 [(9, .sl 7 1 0 (((2 : Int)).toNat) (((2 : Int)).toNat)), (10, .sl 8 1 0 (((2 : Int)).toNat) (((2 : Int)).toNat)), (11, .sl 9 1 0 (((2 : Int)).toNat) (((2 : Int)).toNat)), (12, .sl 10 1 0 (((2 : Int)).toNat) (((2 : Int)).toNat)), (13, .own 11)]]) rfl ?_
  refine AO.nil ?_
  change AC _ _ _ _
  refine AC.seq ?_
  refine AC.draw 8 mixed (by kernel_rfl) ?_
  refine AD.op [3] rfl (by kernel_rfl) rfl rfl (fun _ _ h => AOp.move rfl rfl (ltb rfl) rfl h) ?_
  obtain ⟨q136, h0⟩ := need_elim h0
  refine AD.op [210] rfl (by kernel_rfl) rfl rfl (fun _ _ h => AOp.indexSl rfl rfl (ltb rfl) rfl rfl el56 q136.1 q136.2 h) ?_
  obtain ⟨x137, q138, h0⟩ := idx_elim h0
  refine AD.op [211] rfl (by kernel_rfl) rfl rfl (fun _ _ h => AOp.load1 rfl rfl (ltb rfl) rfl agg22 rfl (atO q138.2) h) ?_
  refine AD.op [4] rfl (by kernel_rfl) rfl rfl (fun _ _ h => AOp.move rfl rfl (ltb rfl) rfl h) ?_
  obtain ⟨q139, h0⟩ := need_elim h0
  refine AD.op [213] rfl (by kernel_rfl) rfl rfl (fun _ _ h => AOp.indexOwn (cells := (List.map keS1 (([(0 : Nat), (0 : Nat)].set ((0 : Int)).toNat z66).set ((1 : Int)).toNat z70))) (n := (([(0 : Nat), (0 : Nat)].set ((0 : Int)).toNat z66).set ((1 : Int)).toNat z70).length) rfl rfl (ltb rfl) rfl rfl el56 rfl (by decide) (len1 _ _) q139.1 q139.2 h) ?_
  obtain ⟨x140, q141, h0⟩ := idx_elim h0
  refine AD.op [214] rfl (by kernel_rfl) rfl rfl (fun _ _ h => AOp.loadO1 rfl rfl (ltb rfl) rfl agg22 rfl (at1 q141.2) h) ?_
  obtain ⟨z142, q143, h0⟩ := bind_elim h0
  refine AD.op [212, 215] rfl (by kernel_rfl) rfl rfl (fun _ _ h => AOp.farith rfl rfl (ltb rfl) rfl rfl q143 h) ?_
  obtain ⟨q144, h0⟩ := need_elim h0
  refine AD.op [210] rfl (by kernel_rfl) rfl rfl (fun _ _ h => AOp.indexSl rfl rfl (ltb rfl) rfl rfl el56 q144.1 q144.2 h) ?_
  refine AD.done ?_
  obtain ⟨q145, h0⟩ := need_elim h0
  refine AO.op rfl (AOp.storeL (f := fun z => SV.d (keS1 z)) (l := c25) (i := ((0 : Int)).toNat) (v := z142) rfl rfl rfl rfl size22 rfl rfl rfl q145 ?_)
  refine AO.objs (obs' := [.fix 24 [.d (dfl a0.X), .d (dfl a0.Y)], .fix 24 [.d (dfl a1.X), .d (dfl a1.Y)], .fix 24 [.d (dfl a2.X), .d (dfl a2.Y)], .fix 24 [.d (dfl a3.X), .d (dfl a3.Y)], .fix 24 [.d (dfl (0 : Nat)), .d (dfl (0 : Nat))], .frame fr9 [(8, .ptr 4 0)], .frame fr10 [(8, .d (.v (.slice none 0 0)))], .fix 22 (List.map (fun z => SV.d (keS1 z)) ((c16.set ((0 : Int)).toNat z82).set ((1 : Int)).toNat z92)), .fix 22 (List.map (fun z => SV.d (keS1 z)) ((c19.set ((0 : Int)).toNat z102).set ((1 : Int)).toNat z112)), .fix 22 (List.map (fun z => SV.d (keS1 z)) ((c22.set ((0 : Int)).toNat z122).set ((1 : Int)).toNat z132)), .fix 22 (List.map (fun z => SV.d (keS1 z)) (c25.set ((0 : Int)).toNat z142)), .grow 22 1 (List.map keS1 (([(0 : Nat), (0 : Nat)].set ((0 : Int)).toNat z66).set ((1 : Int)).toNat z70)), .frame fr27 [(9, .sl 7 1 0 (((2 : Int)).toNat) (((2 : Int)).toNat)), (10, .sl 8 1 0 (((2 : Int)).toNat) (((2 : Int)).toNat)), (11, .sl 9 1 0 (((2 : Int)).toNat) (((2 : Int)).toNat)), (12, .sl 10 1 0 (((2 : Int)).toNat) (((2 : Int)).toNat)), (13, .own 11)]]) rfl ?_
  refine AO.nil ?_
  change AC _ _ _ _
  refine AC.draw 8 mixed (by kernel_rfl) ?_
  refine AD.op [3] rfl (by kernel_rfl) rfl rfl (fun _ _ h => AOp.move rfl rfl (ltb rfl) rfl h) ?_
  obtain ⟨q146, h0⟩ := need_elim h0
  refine AD.op [218] rfl (by kernel_rfl) rfl rfl (fun _ _ h => AOp.indexSl rfl rfl (ltb rfl) rfl rfl el56 q146.1 q146.2 h) ?_
  obtain ⟨x147, q148, h0⟩ := idx_elim h0
  refine AD.op [219] rfl (by kernel_rfl) rfl rfl (fun _ _ h => AOp.load1 rfl rfl (ltb rfl) rfl agg22 rfl (atO q148.2) h) ?_
  refine AD.op [4] rfl (by kernel_rfl) rfl rfl (fun _ _ h => AOp.move rfl rfl (ltb rfl) rfl h) ?_
  obtain ⟨q149, h0⟩ := need_elim h0
  refine AD.op [221] rfl (by kernel_rfl) rfl rfl (fun _ _ h => AOp.indexOwn (cells := (List.map keS1 (([(0 : Nat), (0 : Nat)].set ((0 : Int)).toNat z66).set ((1 : Int)).toNat z70))) (n := (([(0 : Nat), (0 : Nat)].set ((0 : Int)).toNat z66).set ((1 : Int)).toNat z70).length) rfl rfl (ltb rfl) rfl rfl el56 rfl (by decide) (len1 _ _) q149.1 q149.2 h) ?_
  obtain ⟨x150, q151, h0⟩ := idx_elim h0
  refine AD.op [222] rfl (by kernel_rfl) rfl rfl (fun _ _ h => AOp.loadO1 rfl rfl (ltb rfl) rfl agg22 rfl (at1 q151.2) h) ?_
  obtain ⟨z152, q153, h0⟩ := bind_elim h0
  refine AD.op [220, 223] rfl (by kernel_rfl) rfl rfl (fun _ _ h => AOp.farith rfl rfl (ltb rfl) rfl rfl q153 h) ?_
  obtain ⟨q154, h0⟩ := need_elim h0
  refine AD.op [218] rfl (by kernel_rfl) rfl rfl (fun _ _ h => AOp.indexSl rfl rfl (ltb rfl) rfl rfl el56 q154.1 q154.2 h) ?_
  refine AD.done ?_
  obtain ⟨q155, h0⟩ := need_elim h0
  refine AO.op rfl (AOp.storeL (f := fun z => SV.d (keS1 z)) (l := (c25.set ((0 : Int)).toNat z142)) (i := ((1 : Int)).toNat) (v := z152) rfl rfl rfl rfl size22 rfl rfl rfl q155 ?_)
  refine AO.objs (obs' := [.fix 24 [.d (dfl a0.X), .d (dfl a0.Y)], .fix 24 [.d (dfl a1.X), .d (dfl a1.Y)], .fix 24 [.d (dfl a2.X), .d (dfl a2.Y)], .fix 24 [.d (dfl a3.X), .d (dfl a3.Y)], .fix 24 [.d (dfl (0 : Nat)), .d (dfl (0 : Nat))], .frame fr9 [(8, .ptr 4 0)], .frame fr10 [(8, .d (.v (.slice none 0 0)))], .fix 22 (List.map (fun z => SV.d (keS1 z)) ((c16.set ((0 : Int)).toNat z82).set ((1 : Int)).toNat z92)), .fix 22 (List.map (fun z => SV.d (keS1 z)) ((c19.set ((0 : Int)).toNat z102).set ((1 : Int)).toNat z112)), .fix 22 (List.map (fun z => SV.d (keS1 z)) ((c22.set ((0 : Int)).toNat z122).set ((1 : Int)).toNat z132)), .fix 22 (List.map (fun z => SV.d (keS1 z)) ((c25.set ((0 : Int)).toNat z142).set ((1 : Int)).toNat z152)), .grow 22 1 (List.map keS1 (([(0 : Nat), (0 : Nat)].set ((0 : Int)).toNat z66).set ((1 : Int)).toNat z70)), .frame fr27 [(9, .sl 7 1 0 (((2 : Int)).toNat) (((2 : Int)).toNat)), (10, .sl 8 1 0 (((2 : Int)).toNat) (((2 : Int)).toNat)), (11, .sl 9 1 0 (((2 : Int)).toNat) (((2 : Int)).toNat)), (12, .sl 10 1 0 (((2 : Int)).toNat) (((2 : Int)).toNat)), (13, .own 11)]]) rfl ?_
  refine AO.nil ?_
  refine inlend (ob' := [.fix 24 [.d (dfl a0.X), .d (dfl a0.Y)], .fix 24 [.d (dfl a1.X), .d (dfl a1.Y)], .fix 24 [.d (dfl a2.X), .d (dfl a2.Y)], .fix 24 [.d (dfl a3.X), .d (dfl a3.Y)], .fix 24 [.d (dfl (0 : Nat)), .d (dfl (0 : Nat))], .frame fr9 [(8, .ptr 4 0)], .frame fr10 [(8, .d (.v (.slice none 0 0)))], .fix 22 (List.map (fun z => SV.d (keS1 z)) ((c16.set ((0 : Int)).toNat z82).set ((1 : Int)).toNat z92)), .fix 22 (List.map (fun z => SV.d (keS1 z)) ((c19.set ((0 : Int)).toNat z102).set ((1 : Int)).toNat z112)), .fix 22 (List.map (fun z => SV.d (keS1 z)) ((c22.set ((0 : Int)).toNat z122).set ((1 : Int)).toNat z132)), .fix 22 (List.map (fun z => SV.d (keS1 z)) ((c25.set ((0 : Int)).toNat z142).set ((1 : Int)).toNat z152)), .grow 22 1 (List.map keS1 (([(0 : Nat), (0 : Nat)].set ((0 : Int)).toNat z66).set ((1 : Int)).toNat z70)), .dead]) (e' := [(9, .sl 7 1 0 (((2 : Int)).toNat) (((2 : Int)).toNat)), (10, .sl 8 1 0 (((2 : Int)).toNat) (((2 : Int)).toNat)), (11, .sl 9 1 0 (((2 : Int)).toNat) (((2 : Int)).toNat)), (12, .sl 10 1 0 (((2 : Int)).toNat) (((2 : Int)).toNat)), (13, .own 11)]) (r := .tu []) rfl rfl rfl ?_
  change AO _ _ _ _ _
  refine AO.objs (obs' := [.fix 24 [.d (dfl a0.X), .d (dfl a0.Y)], .fix 24 [.d (dfl a1.X), .d (dfl a1.Y)], .fix 24 [.d (dfl a2.X), .d (dfl a2.Y)], .fix 24 [.d (dfl a3.X), .d (dfl a3.Y)], .fix 24 [.d (dfl (0 : Nat)), .d (dfl (0 : Nat))], .frame fr9 [(8, .ptr 4 0)], .frame fr10 [(8, .d (.v (.slice none 0 0)))], .fix 22 (List.map (fun z => SV.d (keS1 z)) ((c16.set ((0 : Int)).toNat z82).set ((1 : Int)).toNat z92)), .fix 22 (List.map (fun z => SV.d (keS1 z)) ((c19.set ((0 : Int)).toNat z102).set ((1 : Int)).toNat z112)), .fix 22 (List.map (fun z => SV.d (keS1 z)) ((c22.set ((0 : Int)).toNat z122).set ((1 : Int)).toNat z132)), .fix 22 (List.map (fun z => SV.d (keS1 z)) ((c25.set ((0 : Int)).toNat z142).set ((1 : Int)).toNat z152)), .grow 22 1 (List.map keS1 (([(0 : Nat), (0 : Nat)].set ((0 : Int)).toNat z66).set ((1 : Int)).toNat z70)), .dead]) rfl ?_
  refine AO.nil ?_
  change AC _ _ _ _
  refine AC.seq ?_
  refine AC.region ?_
  refine AO.op rfl (AOp.move rfl rfl (ltb rfl) rfl ?_)
  refine AO.op rfl (AOp.move rfl rfl (ltb rfl) rfl ?_)
  refine AO.op rfl (AOp.move rfl rfl (ltb rfl) rfl ?_)
  refine AO.op rfl (AOp.move rfl rfl (ltb rfl) rfl ?_)
  refine AO.op rfl (AOp.inl [13] (by kernel_rfl) Try.func52 rfl Try.ntmps52 rfl rfl (ltb rfl) rfl (leb rfl) rfl ?_)
  intro fr156
  refine AC.seq ?_
  refine AC.region ?_
  refine AO.op rfl (AOp.assign rfl rfl (ltb rfl) rfl ?_)
  refine AO.objs (obs' := [.fix 24 [.d (dfl a0.X), .d (dfl a0.Y)], .fix 24 [.d (dfl a1.X), .d (dfl a1.Y)], .fix 24 [.d (dfl a2.X), .d (dfl a2.Y)], .fix 24 [.d (dfl a3.X), .d (dfl a3.Y)], .fix 24 [.d (dfl (0 : Nat)), .d (dfl (0 : Nat))], .frame fr9 [(8, .ptr 4 0)], .frame fr10 [(8, .d (.v (.slice none 0 0)))], .fix 22 (List.map (fun z => SV.d (keS1 z)) ((c16.set ((0 : Int)).toNat z82).set ((1 : Int)).toNat z92)), .fix 22 (List.map (fun z => SV.d (keS1 z)) ((c19.set ((0 : Int)).toNat z102).set ((1 : Int)).toNat z112)), .fix 22 (List.map (fun z => SV.d (keS1 z)) ((c22.set ((0 : Int)).toNat z122).set ((1 : Int)).toNat z132)), .fix 22 (List.map (fun z => SV.d (keS1 z)) ((c25.set ((0 : Int)).toNat z142).set ((1 : Int)).toNat z152)), .grow 22 1 (List.map keS1 (([(0 : Nat), (0 : Nat)].set ((0 : Int)).toNat z66).set ((1 : Int)).toNat z70)), .dead, .frame fr156 [(13, .own 11)]]) rfl ?_
  refine AO.nil ?_
  change AC _ _ _ _
  refine AC.seq ?_
  refine AC.region ?_
  refine AO.op rfl (AOp.move rfl rfl (ltb rfl) rfl ?_)
  refine AO.op rfl (AOp.move rfl rfl (ltb rfl) rfl ?_)
  refine AO.op rfl (AOp.move rfl rfl (ltb rfl) rfl ?_)
  refine AO.op rfl (AOp.move rfl rfl (ltb rfl) rfl ?_)
  refine AO.op rfl (AOp.inl [0, 1, 2, 3] (by kernel_rfl) Try.func54 rfl Try.ntmps54 rfl rfl (ltb rfl) rfl (leb rfl) rfl ?_)
  intro fr157
  refine AC.seq ?_
  refine AC.region ?_
  refine AO.op rfl (AOp.assign rfl rfl (ltb rfl) rfl ?_)
  refine AO.op rfl (AOp.assign rfl rfl (ltb rfl) rfl ?_)
  refine AO.objs (obs' := [.fix 24 [.d (dfl a0.X), .d (dfl a0.Y)], .fix 24 [.d (dfl a1.X), .d (dfl a1.Y)], .fix 24 [.d (dfl a2.X), .d (dfl a2.Y)], .fix 24 [.d (dfl a3.X), .d (dfl a3.Y)], .fix 24 [.d (dfl (0 : Nat)), .d (dfl (0 : Nat))], .frame fr9 [(8, .ptr 4 0)], .frame fr10 [(8, .d (.v (.slice none 0 0)))], .fix 22 (List.map (fun z => SV.d (keS1 z)) ((c16.set ((0 : Int)).toNat z82).set ((1 : Int)).toNat z92)), .fix 22 (List.map (fun z => SV.d (keS1 z)) ((c19.set ((0 : Int)).toNat z102).set ((1 : Int)).toNat z112)), .fix 22 (List.map (fun z => SV.d (keS1 z)) ((c22.set ((0 : Int)).toNat z122).set ((1 : Int)).toNat z132)), .fix 22 (List.map (fun z => SV.d (keS1 z)) ((c25.set ((0 : Int)).toNat z142).set ((1 : Int)).toNat z152)), .grow 22 1 (List.map keS1 (([(0 : Nat), (0 : Nat)].set ((0 : Int)).toNat z66).set ((1 : Int)).toNat z70)), .dead, .frame fr156 [(13, .own 11)], .frame fr157 [(0, .sl 7 1 0 (((2 : Int)).toNat) (((2 : Int)).toNat)), (1, .sl 8 1 0 (((2 : Int)).toNat) (((2 : Int)).toNat)), (2, .sl 9 1 0 (((2 : Int)).toNat) (((2 : Int)).toNat)), (3, .sl 10 1 0 (((2 : Int)).toNat) (((2 : Int)).toNat))]]) rfl ?_
  refine AO.nil ?_
  change AC _ _ _ _
  refine AC.seq ?_
  refine AC.draw 8 mixed (by kernel_rfl) ?_
  refine AD.op [0] rfl (by kernel_rfl) rfl rfl (fun _ _ h => AOp.move rfl rfl (ltb rfl) rfl h) ?_
  obtain ⟨q158, h0⟩ := need_elim h0
  refine AD.op [21] rfl (by kernel_rfl) rfl rfl (fun _ _ h => AOp.indexSl rfl rfl (ltb rfl) rfl rfl el56 q158.1 q158.2 h) ?_
  obtain ⟨x159, q160, h0⟩ := idx_elim h0
  refine AD.op [22] rfl (by kernel_rfl) rfl rfl (fun _ _ h => AOp.load1 rfl rfl (ltb rfl) rfl agg22 rfl (atO q160.2) h) ?_
  refine AD.op [1] rfl (by kernel_rfl) rfl rfl (fun _ _ h => AOp.move rfl rfl (ltb rfl) rfl h) ?_
  obtain ⟨q161, h0⟩ := need_elim h0
  refine AD.op [24] rfl (by kernel_rfl) rfl rfl (fun _ _ h => AOp.indexSl rfl rfl (ltb rfl) rfl rfl el56 q161.1 q161.2 h) ?_
  obtain ⟨x162, q163, h0⟩ := idx_elim h0
  refine AD.op [25] rfl (by kernel_rfl) rfl rfl (fun _ _ h => AOp.load1 rfl rfl (ltb rfl) rfl agg22 rfl (atO q163.2) h) ?_
  obtain ⟨z164, q165, h0⟩ := bind_elim h0
  refine AD.op [23, 26] rfl (by kernel_rfl) rfl rfl (fun _ _ h => AOp.farith rfl rfl (ltb rfl) rfl rfl q165 h) ?_
  refine AD.op [27] rfl (by kernel_rfl) rfl rfl (fun _ _ h => AOp.assign rfl rfl (ltb rfl) rfl h) ?_
  refine AD.done ?_
  refine AO.nil ?_
  change AC _ _ _ _
  refine AC.seq ?_
  refine AC.draw 8 mixed (by kernel_rfl) ?_
  refine AD.op [1] rfl (by kernel_rfl) rfl rfl (fun _ _ h => AOp.move rfl rfl (ltb rfl) rfl h) ?_
  obtain ⟨q166, h0⟩ := need_elim h0
  refine AD.op [28] rfl (by kernel_rfl) rfl rfl (fun _ _ h => AOp.indexSl rfl rfl (ltb rfl) rfl rfl el56 q166.1 q166.2 h) ?_
  obtain ⟨x167, q168, h0⟩ := idx_elim h0
  refine AD.op [29] rfl (by kernel_rfl) rfl rfl (fun _ _ h => AOp.load1 rfl rfl (ltb rfl) rfl agg22 rfl (atO q168.2) h) ?_
  refine AD.op [0] rfl (by kernel_rfl) rfl rfl (fun _ _ h => AOp.move rfl rfl (ltb rfl) rfl h) ?_
  obtain ⟨q169, h0⟩ := need_elim h0
  refine AD.op [31] rfl (by kernel_rfl) rfl rfl (fun _ _ h => AOp.indexSl rfl rfl (ltb rfl) rfl rfl el56 q169.1 q169.2 h) ?_
  obtain ⟨x170, q171, h0⟩ := idx_elim h0
  refine AD.op [32] rfl (by kernel_rfl) rfl rfl (fun _ _ h => AOp.load1 rfl rfl (ltb rfl) rfl agg22 rfl (atO q171.2) h) ?_
  obtain ⟨z172, q173, h0⟩ := bind_elim h0
  refine AD.op [30, 33] rfl (by kernel_rfl) rfl rfl (fun _ _ h => AOp.farith rfl rfl (ltb rfl) rfl rfl q173 h) ?_
  refine AD.op [34] rfl (by kernel_rfl) rfl rfl (fun _ _ h => AOp.assign rfl rfl (ltb rfl) rfl h) ?_
  refine AD.done ?_
  refine AO.nil ?_
  change AC _ _ _ _
  refine AC.seq ?_
  refine AC.draw 16 mixed (by kernel_rfl) ?_
  refine AD.op [0] rfl (by kernel_rfl) rfl rfl (fun _ _ h => AOp.move rfl rfl (ltb rfl) rfl h) ?_
  obtain ⟨q174, h0⟩ := need_elim h0
  refine AD.op [35] rfl (by kernel_rfl) rfl rfl (fun _ _ h => AOp.indexSl rfl rfl (ltb rfl) rfl rfl el56 q174.1 q174.2 h) ?_
  obtain ⟨x175, q176, h0⟩ := idx_elim h0
  refine AD.op [36] rfl (by kernel_rfl) rfl rfl (fun _ _ h => AOp.load1 rfl rfl (ltb rfl) rfl agg22 rfl (atO q176.2) h) ?_
  refine AD.op [1] rfl (by kernel_rfl) rfl rfl (fun _ _ h => AOp.move rfl rfl (ltb rfl) rfl h) ?_
  obtain ⟨q177, h0⟩ := need_elim h0
  refine AD.op [38] rfl (by kernel_rfl) rfl rfl (fun _ _ h => AOp.indexSl rfl rfl (ltb rfl) rfl rfl el56 q177.1 q177.2 h) ?_
  obtain ⟨x178, q179, h0⟩ := idx_elim h0
  refine AD.op [39] rfl (by kernel_rfl) rfl rfl (fun _ _ h => AOp.load1 rfl rfl (ltb rfl) rfl agg22 rfl (atO q179.2) h) ?_
  obtain ⟨z180, q181, h0⟩ := bind_elim h0
  refine AD.op [37, 40] rfl (by kernel_rfl) rfl rfl (fun _ _ h => AOp.farith rfl rfl (ltb rfl) rfl rfl q181 h) ?_
  refine AD.op [1] rfl (by kernel_rfl) rfl rfl (fun _ _ h => AOp.move rfl rfl (ltb rfl) rfl h) ?_
  obtain ⟨q182, h0⟩ := need_elim h0
  refine AD.op [42] rfl (by kernel_rfl) rfl rfl (fun _ _ h => AOp.indexSl rfl rfl (ltb rfl) rfl rfl el56 q182.1 q182.2 h) ?_
  obtain ⟨x183, q184, h0⟩ := idx_elim h0
  refine AD.op [43] rfl (by kernel_rfl) rfl rfl (fun _ _ h => AOp.load1 rfl rfl (ltb rfl) rfl agg22 rfl (atO q184.2) h) ?_
  refine AD.op [0] rfl (by kernel_rfl) rfl rfl (fun _ _ h => AOp.move rfl rfl (ltb rfl) rfl h) ?_
  obtain ⟨q185, h0⟩ := need_elim h0
  refine AD.op [45] rfl (by kernel_rfl) rfl rfl (fun _ _ h => AOp.indexSl rfl rfl (ltb rfl) rfl rfl el56 q185.1 q185.2 h) ?_
  obtain ⟨x186, q187, h0⟩ := idx_elim h0
  refine AD.op [46] rfl (by kernel_rfl) rfl rfl (fun _ _ h => AOp.load1 rfl rfl (ltb rfl) rfl agg22 rfl (atO q187.2) h) ?_
  obtain ⟨z188, q189, h0⟩ := bind_elim h0
  refine AD.op [44, 47] rfl (by kernel_rfl) rfl rfl (fun _ _ h => AOp.farith rfl rfl (ltb rfl) rfl rfl q189 h) ?_
  obtain ⟨z190, q191, h0⟩ := bind_elim h0
  refine AD.op [41, 48] rfl (by kernel_rfl) rfl rfl (fun _ _ h => AOp.farith rfl rfl (ltb rfl) rfl rfl q191 h) ?_
  refine AD.op [49] rfl (by kernel_rfl) rfl rfl (fun _ _ h => AOp.assign rfl rfl (ltb rfl) rfl h) ?_
  refine AD.done ?_
  refine AO.nil ?_
  change AC _ _ _ _
  refine AC.seq ?_
  refine AC.draw 8 mixed (by kernel_rfl) ?_
  refine AD.op [2] rfl (by kernel_rfl) rfl rfl (fun _ _ h => AOp.move rfl rfl (ltb rfl) rfl h) ?_
  obtain ⟨q192, h0⟩ := need_elim h0
  refine AD.op [50] rfl (by kernel_rfl) rfl rfl (fun _ _ h => AOp.indexSl rfl rfl (ltb rfl) rfl rfl el56 q192.1 q192.2 h) ?_
  obtain ⟨x193, q194, h0⟩ := idx_elim h0
  refine AD.op [51] rfl (by kernel_rfl) rfl rfl (fun _ _ h => AOp.load1 rfl rfl (ltb rfl) rfl agg22 rfl (atO q194.2) h) ?_
  refine AD.op [3] rfl (by kernel_rfl) rfl rfl (fun _ _ h => AOp.move rfl rfl (ltb rfl) rfl h) ?_
  obtain ⟨q195, h0⟩ := need_elim h0
  refine AD.op [53] rfl (by kernel_rfl) rfl rfl (fun _ _ h => AOp.indexSl rfl rfl (ltb rfl) rfl rfl el56 q195.1 q195.2 h) ?_
  obtain ⟨x196, q197, h0⟩ := idx_elim h0
  refine AD.op [54] rfl (by kernel_rfl) rfl rfl (fun _ _ h => AOp.load1 rfl rfl (ltb rfl) rfl agg22 rfl (atO q197.2) h) ?_
  obtain ⟨z198, q199, h0⟩ := bind_elim h0
  refine AD.op [52, 55] rfl (by kernel_rfl) rfl rfl (fun _ _ h => AOp.farith rfl rfl (ltb rfl) rfl rfl q199 h) ?_
  refine AD.op [56] rfl (by kernel_rfl) rfl rfl (fun _ _ h => AOp.assign rfl rfl (ltb rfl) rfl h) ?_
  refine AD.done ?_
  refine AO.nil ?_
  change AC _ _ _ _
  refine AC.seq ?_
  refine AC.draw 8 mixed (by kernel_rfl) ?_
  refine AD.op [3] rfl (by kernel_rfl) rfl rfl (fun _ _ h => AOp.move rfl rfl (ltb rfl) rfl h) ?_
  obtain ⟨q200, h0⟩ := need_elim h0
  refine AD.op [57] rfl (by kernel_rfl) rfl rfl (fun _ _ h => AOp.indexSl rfl rfl (ltb rfl) rfl rfl el56 q200.1 q200.2 h) ?_
  obtain ⟨x201, q202, h0⟩ := idx_elim h0
  refine AD.op [58] rfl (by kernel_rfl) rfl rfl (fun _ _ h => AOp.load1 rfl rfl (ltb rfl) rfl agg22 rfl (atO q202.2) h) ?_
  refine AD.op [2] rfl (by kernel_rfl) rfl rfl (fun _ _ h => AOp.move rfl rfl (ltb rfl) rfl h) ?_
  obtain ⟨q203, h0⟩ := need_elim h0
  refine AD.op [60] rfl (by kernel_rfl) rfl rfl (fun _ _ h => AOp.indexSl rfl rfl (ltb rfl) rfl rfl el56 q203.1 q203.2 h) ?_
  obtain ⟨x204, q205, h0⟩ := idx_elim h0
  refine AD.op [61] rfl (by kernel_rfl) rfl rfl (fun _ _ h => AOp.load1 rfl rfl (ltb rfl) rfl agg22 rfl (atO q205.2) h) ?_
  obtain ⟨z206, q207, h0⟩ := bind_elim h0
  refine AD.op [59, 62] rfl (by kernel_rfl) rfl rfl (fun _ _ h => AOp.farith rfl rfl (ltb rfl) rfl rfl q207 h) ?_
  refine AD.op [63] rfl (by kernel_rfl) rfl rfl (fun _ _ h => AOp.assign rfl rfl (ltb rfl) rfl h) ?_
  refine AD.done ?_
  refine AO.nil ?_
  change AC _ _ _ _
  refine AC.seq ?_
  refine AC.draw 16 mixed (by kernel_rfl) ?_
  refine AD.op [2] rfl (by kernel_rfl) rfl rfl (fun _ _ h => AOp.move rfl rfl (ltb rfl) rfl h) ?_
  obtain ⟨q208, h0⟩ := need_elim h0
  refine AD.op [64] rfl (by kernel_rfl) rfl rfl (fun _ _ h => AOp.indexSl rfl rfl (ltb rfl) rfl rfl el56 q208.1 q208.2 h) ?_
  obtain ⟨x209, q210, h0⟩ := idx_elim h0
  refine AD.op [65] rfl (by kernel_rfl) rfl rfl (fun _ _ h => AOp.load1 rfl rfl (ltb rfl) rfl agg22 rfl (atO q210.2) h) ?_
  refine AD.op [3] rfl (by kernel_rfl) rfl rfl (fun _ _ h => AOp.move rfl rfl (ltb rfl) rfl h) ?_
  obtain ⟨q211, h0⟩ := need_elim h0
  refine AD.op [67] rfl (by kernel_rfl) rfl rfl (fun _ _ h => AOp.indexSl rfl rfl (ltb rfl) rfl rfl el56 q211.1 q211.2 h) ?_
  obtain ⟨x212, q213, h0⟩ := idx_elim h0
  refine AD.op [68] rfl (by kernel_rfl) rfl rfl (fun _ _ h => AOp.load1 rfl rfl (ltb rfl) rfl agg22 rfl (atO q213.2) h) ?_
  obtain ⟨z214, q215, h0⟩ := bind_elim h0
  refine AD.op [66, 69] rfl (by kernel_rfl) rfl rfl (fun _ _ h => AOp.farith rfl rfl (ltb rfl) rfl rfl q215 h) ?_
  refine AD.op [3] rfl (by kernel_rfl) rfl rfl (fun _ _ h => AOp.move rfl rfl (ltb rfl) rfl h) ?_
  obtain ⟨q216, h0⟩ := need_elim h0
  refine AD.op [71] rfl (by kernel_rfl) rfl rfl (fun _ _ h => AOp.indexSl rfl rfl (ltb rfl) rfl rfl el56 q216.1 q216.2 h) ?_
  obtain ⟨x217, q218, h0⟩ := idx_elim h0
  refine AD.op [72] rfl (by kernel_rfl) rfl rfl (fun _ _ h => AOp.load1 rfl rfl (ltb rfl) rfl agg22 rfl (atO q218.2) h) ?_
  refine AD.op [2] rfl (by kernel_rfl) rfl rfl (fun _ _ h => AOp.move rfl rfl (ltb rfl) rfl h) ?_
  obtain ⟨q219, h0⟩ := need_elim h0
  refine AD.op [74] rfl (by kernel_rfl) rfl rfl (fun _ _ h => AOp.indexSl rfl rfl (ltb rfl) rfl rfl el56 q219.1 q219.2 h) ?_
  obtain ⟨x220, q221, h0⟩ := idx_elim h0
  refine AD.op [75] rfl (by kernel_rfl) rfl rfl (fun _ _ h => AOp.load1 rfl rfl (ltb rfl) rfl agg22 rfl (atO q221.2) h) ?_
  obtain ⟨z222, q223, h0⟩ := bind_elim h0
  refine AD.op [73, 76] rfl (by kernel_rfl) rfl rfl (fun _ _ h => AOp.farith rfl rfl (ltb rfl) rfl rfl q223 h) ?_
  obtain ⟨z224, q225, h0⟩ := bind_elim h0
  refine AD.op [70, 77] rfl (by kernel_rfl) rfl rfl (fun _ _ h => AOp.farith rfl rfl (ltb rfl) rfl rfl q225 h) ?_
  refine AD.op [78] rfl (by kernel_rfl) rfl rfl (fun _ _ h => AOp.assign rfl rfl (ltb rfl) rfl h) ?_
  refine AD.done ?_
  refine AO.nil ?_
  change AC _ _ _ _
  refine AC.seq ?_
  refine AC.region ?_
  refine AO.op rfl (AOp.move rfl rfl (ltb rfl) rfl ?_)
  refine AO.op rfl (AOp.move rfl rfl (ltb rfl) rfl ?_)
  obtain ⟨z226, q227, h0⟩ := bind_elim h0
  refine AO.op rfl (AOp.farith rfl rfl (ltb rfl) rfl rfl q227 ?_)
  refine AO.op rfl (AOp.move rfl rfl (ltb rfl) rfl ?_)
  refine AO.op rfl (AOp.move rfl rfl (ltb rfl) rfl ?_)
  obtain ⟨z228, q229, h0⟩ := bind_elim h0
  refine AO.op rfl (AOp.farith rfl rfl (ltb rfl) rfl rfl q229 ?_)
  obtain ⟨z230, q231, h0⟩ := bind_elim h0
  refine AO.op rfl (AOp.farith rfl rfl (ltb rfl) rfl rfl q231 ?_)
  refine AO.op rfl (AOp.assign rfl rfl (ltb rfl) rfl ?_)
  refine AO.nil ?_
  change AC _ _ _ _
  refine AC.seq ?_
  refine AC.region ?_
  refine AO.op rfl (AOp.move rfl rfl (ltb rfl) rfl ?_)
  refine AO.op rfl (AOp.move rfl rfl (ltb rfl) rfl ?_)
  obtain ⟨z232, q233, h0⟩ := bind_elim h0
  refine AO.op rfl (AOp.farith rfl rfl (ltb rfl) rfl rfl q233 ?_)
  refine AO.op rfl (AOp.move rfl rfl (ltb rfl) rfl ?_)
  refine AO.op rfl (AOp.move rfl rfl (ltb rfl) rfl ?_)
  obtain ⟨z234, q235, h0⟩ := bind_elim h0
  refine AO.op rfl (AOp.farith rfl rfl (ltb rfl) rfl rfl q235 ?_)
  obtain ⟨z236, q237, h0⟩ := bind_elim h0
  refine AO.op rfl (AOp.farith rfl rfl (ltb rfl) rfl rfl q237 ?_)
  refine AO.op rfl (AOp.assign rfl rfl (ltb rfl) rfl ?_)
  refine AO.nil ?_
  change AC _ _ _ _
  refine AC.seq ?_
  refine AC.region ?_
  refine AO.op rfl (AOp.move rfl rfl (ltb rfl) rfl ?_)
  refine AO.op rfl (AOp.move rfl rfl (ltb rfl) rfl ?_)
  obtain ⟨z238, q239, h0⟩ := bind_elim h0
  refine AO.op rfl (AOp.farith rfl rfl (ltb rfl) rfl rfl q239 ?_)
  refine AO.op rfl (AOp.move rfl rfl (ltb rfl) rfl ?_)
  refine AO.op rfl (AOp.move rfl rfl (ltb rfl) rfl ?_)
  obtain ⟨z240, q241, h0⟩ := bind_elim h0
  refine AO.op rfl (AOp.farith rfl rfl (ltb rfl) rfl rfl q241 ?_)
  obtain ⟨z242, q243, h0⟩ := bind_elim h0
  refine AO.op rfl (AOp.farith rfl rfl (ltb rfl) rfl rfl q243 ?_)
  refine AO.op rfl (AOp.assign rfl rfl (ltb rfl) rfl ?_)
  refine AO.nil ?_
  change AC _ _ _ _
  refine AC.seq ?_
  refine AC.region ?_
  refine AO.op rfl (AOp.move rfl rfl (ltb rfl) rfl ?_)
  refine AO.op rfl (AOp.move rfl rfl (ltb rfl) rfl ?_)
  obtain ⟨z244, q245, h0⟩ := bind_elim h0
  refine AO.op rfl (AOp.farith rfl rfl (ltb rfl) rfl rfl q245 ?_)
  refine AO.op rfl (AOp.assign rfl rfl (ltb rfl) rfl ?_)
  refine AO.nil ?_
  change AC _ _ _ _
  refine AC.seq ?_
  refine AC.region ?_
  refine AO.op rfl (AOp.move rfl rfl (ltb rfl) rfl ?_)
  refine AO.op rfl (AOp.move rfl rfl (ltb rfl) rfl ?_)
  obtain ⟨z246, q247, h0⟩ := bind_elim h0
  refine AO.op rfl (AOp.farith rfl rfl (ltb rfl) rfl rfl q247 ?_)
  refine AO.op rfl (AOp.assign rfl rfl (ltb rfl) rfl ?_)
  refine AO.nil ?_
  change AC _ _ _ _
  refine AC.seq ?_
  refine AC.joinP (V := Bool) [19, 20] [111] 15 (fun g248 => [(111, .d (dbool g248))]) (fun g248 => [.fix 24 [.d (dfl a0.X), .d (dfl a0.Y)], .fix 24 [.d (dfl a1.X), .d (dfl a1.Y)], .fix 24 [.d (dfl a2.X), .d (dfl a2.Y)], .fix 24 [.d (dfl a3.X), .d (dfl a3.Y)], .fix 24 [.d (dfl (0 : Nat)), .d (dfl (0 : Nat))], .frame fr9 [(8, .ptr 4 0)], .frame fr10 [(8, .d (.v (.slice none 0 0)))], .fix 22 (List.map (fun z => SV.d (keS1 z)) ((c16.set ((0 : Int)).toNat z82).set ((1 : Int)).toNat z92)), .fix 22 (List.map (fun z => SV.d (keS1 z)) ((c19.set ((0 : Int)).toNat z102).set ((1 : Int)).toNat z112)), .fix 22 (List.map (fun z => SV.d (keS1 z)) ((c22.set ((0 : Int)).toNat z122).set ((1 : Int)).toNat z132)), .fix 22 (List.map (fun z => SV.d (keS1 z)) ((c25.set ((0 : Int)).toNat z142).set ((1 : Int)).toNat z152)), .grow 22 1 (List.map keS1 (([(0 : Nat), (0 : Nat)].set ((0 : Int)).toNat z66).set ((1 : Int)).toNat z70)), .dead, .frame fr156 [(13, .own 11)], .frame fr157 [(0, .sl 7 1 0 (((2 : Int)).toNat) (((2 : Int)).toNat)), (1, .sl 8 1 0 (((2 : Int)).toNat) (((2 : Int)).toNat)), (2, .sl 9 1 0 (((2 : Int)).toNat) (((2 : Int)).toNat)), (3, .sl 10 1 0 (((2 : Int)).toNat) (((2 : Int)).toNat))]]) (fun g248 => (p_NormalizedMeet_k13 z66 z70 z244 z246) g248 = some r0) rfl ?_ ?_
  · refine AC.region ?_
    refine AO.op rfl (AOp.move rfl rfl (ltb rfl) rfl ?_)
    obtain ⟨y279, q280, h0⟩ := bind_elim h0
    refine AO.op rfl (AOp.callD rfl rfl (ltb rfl) rfl rfl (w_IsNaN z244 y279 q280) ?_)
    rintro _ rfl
    refine AO.op rfl (AOp.move rfl rfl (ltb rfl) rfl ?_)
    refine AO.dec y279 (fun q281 => ?_) (fun q281 => ?_)
    · replace h0 := cT h0 q281
      refine AO.guardN rfl rfl rfl (ltb rfl) rfl q281 ?_
      refine AO.guardN rfl rfl rfl (ltb rfl) rfl q281 ?_
      refine AO.op rfl (AOp.pick rfl rfl (ltb rfl) rfl q281 rfl ?_)
      refine AO.nil ?_
      exact ⟨true, _, rfl, (LeL.refl _), rfl, (okU_mk rfl (okU_cons rfl (okU_cons rfl (okU_cons rfl (okU_cons rfl (okU_cons rfl (okU_cons rfl (okU_cons rfl (okU_cons (okU_fixl (fun _ => rfl)) (okU_cons (okU_fixl (fun _ => rfl)) (okU_cons (okU_fixl (fun _ => rfl)) (okU_cons (okU_fixl (fun _ => rfl)) (okU_cons rfl (okU_cons rfl (okU_cons rfl (okU_cons rfl okU_nil)))))))))))))))), h0⟩
    replace h0 := cF h0 q281
    refine AO.guardY rfl rfl rfl q281 (AOp.move rfl rfl (ltb rfl) rfl ?_)
    obtain ⟨y282, q283, h0⟩ := bind_elim h0
    refine AO.guardY rfl rfl rfl q281 (AOp.callD rfl rfl (ltb rfl) rfl rfl (w_IsNaN z246 y282 q283) ?_)
    rintro _ rfl
    refine AO.op rfl (AOp.pickN rfl rfl (ltb rfl) rfl q281 rfl ?_)
    refine AO.nil ?_
    exact ⟨y282, _, rfl, (LeL.refl _), rfl, (okU_mk rfl (okU_cons rfl (okU_cons rfl (okU_cons rfl (okU_cons rfl (okU_cons rfl (okU_cons rfl (okU_cons rfl (okU_cons (okU_fixl (fun _ => rfl)) (okU_cons (okU_fixl (fun _ => rfl)) (okU_cons (okU_fixl (fun _ => rfl)) (okU_cons (okU_fixl (fun _ => rfl)) (okU_cons rfl (okU_cons rfl (okU_cons rfl (okU_cons rfl okU_nil)))))))))))))))), h0⟩
  intro g248 h0
  unfold p_NormalizedMeet_k13 at h0
  refine AC.cond rfl (fun q249 => ?_) (fun q249 => ?_)
  · replace h0 := cT h0 q249
    cases h0
  replace h0 := cF h0 q249
  refine AC.skip ?_
  change AC _ _ _ _
  refine AC.seq ?_
  refine AC.joinP (V := Bool) [19, 20] [118] 15 (fun g250 => [(118, .d (dbool g250))]) (fun g250 => [.fix 24 [.d (dfl a0.X), .d (dfl a0.Y)], .fix 24 [.d (dfl a1.X), .d (dfl a1.Y)], .fix 24 [.d (dfl a2.X), .d (dfl a2.Y)], .fix 24 [.d (dfl a3.X), .d (dfl a3.Y)], .fix 24 [.d (dfl (0 : Nat)), .d (dfl (0 : Nat))], .frame fr9 [(8, .ptr 4 0)], .frame fr10 [(8, .d (.v (.slice none 0 0)))], .fix 22 (List.map (fun z => SV.d (keS1 z)) ((c16.set ((0 : Int)).toNat z82).set ((1 : Int)).toNat z92)), .fix 22 (List.map (fun z => SV.d (keS1 z)) ((c19.set ((0 : Int)).toNat z102).set ((1 : Int)).toNat z112)), .fix 22 (List.map (fun z => SV.d (keS1 z)) ((c22.set ((0 : Int)).toNat z122).set ((1 : Int)).toNat z132)), .fix 22 (List.map (fun z => SV.d (keS1 z)) ((c25.set ((0 : Int)).toNat z142).set ((1 : Int)).toNat z152)), .grow 22 1 (List.map keS1 (([(0 : Nat), (0 : Nat)].set ((0 : Int)).toNat z66).set ((1 : Int)).toNat z70)), .dead, .frame fr156 [(13, .own 11)], .frame fr157 [(0, .sl 7 1 0 (((2 : Int)).toNat) (((2 : Int)).toNat)), (1, .sl 8 1 0 (((2 : Int)).toNat) (((2 : Int)).toNat)), (2, .sl 9 1 0 (((2 : Int)).toNat) (((2 : Int)).toNat)), (3, .sl 10 1 0 (((2 : Int)).toNat) (((2 : Int)).toNat))]]) (fun g250 => (p_NormalizedMeet_k14 z66 z70 z244 z246) g250 = some r0) rfl ?_ ?_
  · refine AC.region ?_
    refine AO.op rfl (AOp.move rfl rfl (ltb rfl) rfl ?_)
    obtain ⟨y274, q275, h0⟩ := bind_elim h0
    refine AO.op rfl (AOp.callD rfl rfl (ltb rfl) rfl rfl (w_IsInf z244 (0 : Int) y274 q275) ?_)
    rintro _ rfl
    refine AO.op rfl (AOp.move rfl rfl (ltb rfl) rfl ?_)
    refine AO.dec y274 (fun q276 => ?_) (fun q276 => ?_)
    · replace h0 := cT h0 q276
      refine AO.guardN rfl rfl rfl (ltb rfl) rfl q276 ?_
      refine AO.guardN rfl rfl rfl (ltb rfl) rfl q276 ?_
      refine AO.op rfl (AOp.pick rfl rfl (ltb rfl) rfl q276 rfl ?_)
      refine AO.nil ?_
      exact ⟨true, _, rfl, (LeL.refl _), rfl, (okU_mk rfl (okU_cons rfl (okU_cons rfl (okU_cons rfl (okU_cons rfl (okU_cons rfl (okU_cons rfl (okU_cons rfl (okU_cons (okU_fixl (fun _ => rfl)) (okU_cons (okU_fixl (fun _ => rfl)) (okU_cons (okU_fixl (fun _ => rfl)) (okU_cons (okU_fixl (fun _ => rfl)) (okU_cons rfl (okU_cons rfl (okU_cons rfl (okU_cons rfl okU_nil)))))))))))))))), h0⟩
    replace h0 := cF h0 q276
    refine AO.guardY rfl rfl rfl q276 (AOp.move rfl rfl (ltb rfl) rfl ?_)
    obtain ⟨y277, q278, h0⟩ := bind_elim h0
    refine AO.guardY rfl rfl rfl q276 (AOp.callD rfl rfl (ltb rfl) rfl rfl (w_IsInf z246 (0 : Int) y277 q278) ?_)
    rintro _ rfl
    refine AO.op rfl (AOp.pickN rfl rfl (ltb rfl) rfl q276 rfl ?_)
    refine AO.nil ?_
    exact ⟨y277, _, rfl, (LeL.refl _), rfl, (okU_mk rfl (okU_cons rfl (okU_cons rfl (okU_cons rfl (okU_cons rfl (okU_cons rfl (okU_cons rfl (okU_cons rfl (okU_cons (okU_fixl (fun _ => rfl)) (okU_cons (okU_fixl (fun _ => rfl)) (okU_cons (okU_fixl (fun _ => rfl)) (okU_cons (okU_fixl (fun _ => rfl)) (okU_cons rfl (okU_cons rfl (okU_cons rfl (okU_cons rfl okU_nil)))))))))))))))), h0⟩
  intro g250 h0
  unfold p_NormalizedMeet_k14 at h0
  refine AC.cond rfl (fun q251 => ?_) (fun q251 => ?_)
  · replace h0 := cT h0 q251
    cases h0
  replace h0 := cF h0 q251
  refine AC.skip ?_
  change AC _ _ _ _
  refine AC.seq ?_
  refine AC.region ?_
  refine AO.op rfl (AOp.move rfl rfl (ltb rfl) rfl ?_)
  refine AO.op rfl (AOp.move rfl rfl (ltb rfl) rfl ?_)
  refine AO.op rfl (AOp.buildOwn rfl rfl (ltb rfl) el56 zero22 rfl (leb rfl) rfl rfl rfl rfl ?_)
  refine AO.op rfl (AOp.assign rfl rfl (ltb rfl) rfl ?_)
  refine AO.op rfl (AOp.assign rfl rfl (ltb rfl) rfl ?_)
  refine AO.objs (obs' := [.fix 24 [.d (dfl a0.X), .d (dfl a0.Y)], .fix 24 [.d (dfl a1.X), .d (dfl a1.Y)], .fix 24 [.d (dfl a2.X), .d (dfl a2.Y)], .fix 24 [.d (dfl a3.X), .d (dfl a3.Y)], .fix 24 [.d (dfl (0 : Nat)), .d (dfl (0 : Nat))], .frame fr9 [(8, .ptr 4 0)], .frame fr10 [(8, .d (.v (.slice none 0 0)))], .fix 22 (List.map (fun z => SV.d (keS1 z)) ((c16.set ((0 : Int)).toNat z82).set ((1 : Int)).toNat z92)), .fix 22 (List.map (fun z => SV.d (keS1 z)) ((c19.set ((0 : Int)).toNat z102).set ((1 : Int)).toNat z112)), .fix 22 (List.map (fun z => SV.d (keS1 z)) ((c22.set ((0 : Int)).toNat z122).set ((1 : Int)).toNat z132)), .fix 22 (List.map (fun z => SV.d (keS1 z)) ((c25.set ((0 : Int)).toNat z142).set ((1 : Int)).toNat z152)), .grow 22 1 (List.map keS1 (([(0 : Nat), (0 : Nat)].set ((0 : Int)).toNat z66).set ((1 : Int)).toNat z70)), .dead, .frame fr156 [(13, .own 11)], .frame fr157 [(0, .sl 7 1 0 (((2 : Int)).toNat) (((2 : Int)).toNat)), (1, .sl 8 1 0 (((2 : Int)).toNat) (((2 : Int)).toNat)), (2, .sl 9 1 0 (((2 : Int)).toNat) (((2 : Int)).toNat)), (3, .sl 10 1 0 (((2 : Int)).toNat) (((2 : Int)).toNat))], .grow 22 1 (List.map keS1 [z244, z246])]) rfl ?_
  refine AO.nil ?_
  change AC _ _ _ _
  refine AC.ret ?_
  refine inlret (ob' := [.fix 24 [.d (dfl a0.X), .d (dfl a0.Y)], .fix 24 [.d (dfl a1.X), .d (dfl a1.Y)], .fix 24 [.d (dfl a2.X), .d (dfl a2.Y)], .fix 24 [.d (dfl a3.X), .d (dfl a3.Y)], .fix 24 [.d (dfl (0 : Nat)), .d (dfl (0 : Nat))], .frame fr9 [(8, .ptr 4 0)], .frame fr10 [(8, .d (.v (.slice none 0 0)))], .fix 22 (List.map (fun z => SV.d (keS1 z)) ((c16.set ((0 : Int)).toNat z82).set ((1 : Int)).toNat z92)), .fix 22 (List.map (fun z => SV.d (keS1 z)) ((c19.set ((0 : Int)).toNat z102).set ((1 : Int)).toNat z112)), .fix 22 (List.map (fun z => SV.d (keS1 z)) ((c22.set ((0 : Int)).toNat z122).set ((1 : Int)).toNat z132)), .fix 22 (List.map (fun z => SV.d (keS1 z)) ((c25.set ((0 : Int)).toNat z142).set ((1 : Int)).toNat z152)), .grow 22 1 (List.map keS1 (([(0 : Nat), (0 : Nat)].set ((0 : Int)).toNat z66).set ((1 : Int)).toNat z70)), .dead, .frame fr156 [(13, .own 11)], .dead, .grow 22 1 (List.map keS1 [z244, z246])]) (e' := [(0, .sl 7 1 0 (((2 : Int)).toNat) (((2 : Int)).toNat)), (1, .sl 8 1 0 (((2 : Int)).toNat) (((2 : Int)).toNat)), (2, .sl 9 1 0 (((2 : Int)).toNat) (((2 : Int)).toNat)), (3, .sl 10 1 0 (((2 : Int)).toNat) (((2 : Int)).toNat))]) (r := .tu [.own 15, .d (.v (.nilIface))]) rfl rfl rfl ?_
  change AO _ _ _ _ _
  refine AO.op rfl (AOp.move rfl rfl (ltb rfl) rfl ?_)
  first | refine AO.op rfl (AOp.extractD rfl rfl (ltb rfl) rfl rfl ?_) | refine AO.op rfl (AOp.extract rfl rfl (ltb rfl) rfl rfl ?_)
  first | refine AO.op rfl (AOp.extractD rfl rfl (ltb rfl) rfl rfl ?_) | refine AO.op rfl (AOp.extract rfl rfl (ltb rfl) rfl rfl ?_)
  refine AO.op rfl (AOp.assign rfl rfl (ltb rfl) rfl ?_)
  refine AO.op rfl (AOp.assign rfl rfl (ltb rfl) rfl ?_)
  refine AO.objs (obs' := [.fix 24 [.d (dfl a0.X), .d (dfl a0.Y)], .fix 24 [.d (dfl a1.X), .d (dfl a1.Y)], .fix 24 [.d (dfl a2.X), .d (dfl a2.Y)], .fix 24 [.d (dfl a3.X), .d (dfl a3.Y)], .fix 24 [.d (dfl (0 : Nat)), .d (dfl (0 : Nat))], .frame fr9 [(8, .ptr 4 0)], .frame fr10 [(8, .d (.v (.slice none 0 0)))], .fix 22 (List.map (fun z => SV.d (keS1 z)) ((c16.set ((0 : Int)).toNat z82).set ((1 : Int)).toNat z92)), .fix 22 (List.map (fun z => SV.d (keS1 z)) ((c19.set ((0 : Int)).toNat z102).set ((1 : Int)).toNat z112)), .fix 22 (List.map (fun z => SV.d (keS1 z)) ((c22.set ((0 : Int)).toNat z122).set ((1 : Int)).toNat z132)), .fix 22 (List.map (fun z => SV.d (keS1 z)) ((c25.set ((0 : Int)).toNat z142).set ((1 : Int)).toNat z152)), .grow 22 1 (List.map keS1 (([(0 : Nat), (0 : Nat)].set ((0 : Int)).toNat z66).set ((1 : Int)).toNat z70)), .dead, .frame fr156 [(13, .own 11)], .dead, .grow 22 1 (List.map keS1 [z244, z246])]) rfl ?_
  refine AO.nil ?_
  change AC _ _ _ _
  refine AC.seq ?_
  refine AC.seq ?_
  refine AC.region ?_
  refine AO.op rfl (AOp.move rfl rfl (ltb rfl) rfl ?_)
  refine AO.op rfl (AOp.nilNeq rfl rfl (ltb rfl) rfl imeth83 ?_)
  refine AO.nil ?_
  change AC _ _ _ _
  refine AC.condF rfl rfl ?_
  refine AC.skip ?_
  change AC _ _ _ _
  refine AC.seq ?_
  refine AC.region ?_
  refine AO.op rfl (AOp.move rfl rfl (ltb rfl) rfl ?_)
  refine AO.op rfl (AOp.assign rfl rfl (ltb rfl) rfl ?_)
  refine AO.nil ?_
  change AC _ _ _ _
  refine AC.ret ?_
  refine inlret (ob' := [.fix 24 [.d (dfl a0.X), .d (dfl a0.Y)], .fix 24 [.d (dfl a1.X), .d (dfl a1.Y)], .fix 24 [.d (dfl a2.X), .d (dfl a2.Y)], .fix 24 [.d (dfl a3.X), .d (dfl a3.Y)], .fix 24 [.d (dfl (0 : Nat)), .d (dfl (0 : Nat))], .frame fr9 [(8, .ptr 4 0)], .frame fr10 [(8, .d (.v (.slice none 0 0)))], .fix 22 (List.map (fun z => SV.d (keS1 z)) ((c16.set ((0 : Int)).toNat z82).set ((1 : Int)).toNat z92)), .fix 22 (List.map (fun z => SV.d (keS1 z)) ((c19.set ((0 : Int)).toNat z102).set ((1 : Int)).toNat z112)), .fix 22 (List.map (fun z => SV.d (keS1 z)) ((c22.set ((0 : Int)).toNat z122).set ((1 : Int)).toNat z132)), .fix 22 (List.map (fun z => SV.d (keS1 z)) ((c25.set ((0 : Int)).toNat z142).set ((1 : Int)).toNat z152)), .grow 22 1 (List.map keS1 (([(0 : Nat), (0 : Nat)].set ((0 : Int)).toNat z66).set ((1 : Int)).toNat z70)), .dead, .dead, .dead, .grow 22 1 (List.map keS1 [z244, z246])]) (e' := [(13, .own 11)]) (r := .own 15) rfl rfl rfl ?_
  change AO _ _ _ _ _
  refine AO.op rfl (AOp.assign rfl rfl (ltb rfl) rfl ?_)
  refine AO.objs (obs' := [.fix 24 [.d (dfl a0.X), .d (dfl a0.Y)], .fix 24 [.d (dfl a1.X), .d (dfl a1.Y)], .fix 24 [.d (dfl a2.X), .d (dfl a2.Y)], .fix 24 [.d (dfl a3.X), .d (dfl a3.Y)], .fix 24 [.d (dfl (0 : Nat)), .d (dfl (0 : Nat))], .frame fr9 [(8, .ptr 4 0)], .frame fr10 [(8, .d (.v (.slice none 0 0)))], .fix 22 (List.map (fun z => SV.d (keS1 z)) ((c16.set ((0 : Int)).toNat z82).set ((1 : Int)).toNat z92)), .fix 22 (List.map (fun z => SV.d (keS1 z)) ((c19.set ((0 : Int)).toNat z102).set ((1 : Int)).toNat z112)), .fix 22 (List.map (fun z => SV.d (keS1 z)) ((c22.set ((0 : Int)).toNat z122).set ((1 : Int)).toNat z132)), .fix 22 (List.map (fun z => SV.d (keS1 z)) ((c25.set ((0 : Int)).toNat z142).set ((1 : Int)).toNat z152)), .grow 22 1 (List.map keS1 (([(0 : Nat), (0 : Nat)].set ((0 : Int)).toNat z66).set ((1 : Int)).toNat z70)), .dead, .dead, .dead, .grow 22 1 (List.map keS1 [z244, z246])]) rfl ?_
  refine AO.nil ?_
  change AC _ _ _ _
  refine AC.seq ?_
  refine AC.draw 8 mixed (by kernel_rfl) ?_
  refine AD.op [14] rfl (by kernel_rfl) rfl rfl (fun _ _ h => AOp.move rfl rfl (ltb rfl) rfl h) ?_
  obtain ⟨q252, h0⟩ := need_elim h0
  refine AD.op [43] rfl (by kernel_rfl) rfl rfl (fun _ _ h => AOp.indexOwn (cells := (List.map keS1 [z244, z246])) (n := [z244, z246].length) rfl rfl (ltb rfl) rfl rfl el56 rfl (by decide) (len1 _ _) q252.1 q252.2 h) ?_
  obtain ⟨x253, q254, h0⟩ := idx_elim h0
  refine AD.op [44] rfl (by kernel_rfl) rfl rfl (fun _ _ h => AOp.loadO1 rfl rfl (ltb rfl) rfl agg22 rfl (at1 q254.2) h) ?_
  refine AD.op [13] rfl (by kernel_rfl) rfl rfl (fun _ _ h => AOp.move rfl rfl (ltb rfl) rfl h) ?_
  obtain ⟨q255, h0⟩ := need_elim h0
  refine AD.op [46] rfl (by kernel_rfl) rfl rfl (fun _ _ h => AOp.indexOwn (cells := (List.map keS1 (([(0 : Nat), (0 : Nat)].set ((0 : Int)).toNat z66).set ((1 : Int)).toNat z70))) (n := (([(0 : Nat), (0 : Nat)].set ((0 : Int)).toNat z66).set ((1 : Int)).toNat z70).length) rfl rfl (ltb rfl) rfl rfl el56 rfl (by decide) (len1 _ _) q255.1 q255.2 h) ?_
  obtain ⟨x256, q257, h0⟩ := idx_elim h0
  refine AD.op [47] rfl (by kernel_rfl) rfl rfl (fun _ _ h => AOp.loadO1 rfl rfl (ltb rfl) rfl agg22 rfl (at1 q257.2) h) ?_
  obtain ⟨z258, q259, h0⟩ := bind_elim h0
  refine AD.op [45, 48] rfl (by kernel_rfl) rfl rfl (fun _ _ h => AOp.farith rfl rfl (ltb rfl) rfl rfl q259 h) ?_
  obtain ⟨q260, h0⟩ := need_elim h0
  refine AD.op [43] rfl (by kernel_rfl) rfl rfl (fun _ _ h => AOp.indexOwn (cells := (List.map keS1 [z244, z246])) (n := [z244, z246].length) rfl rfl (ltb rfl) rfl rfl el56 rfl (by decide) (len1 _ _) q260.1 q260.2 h) ?_
  refine AD.done ?_
  obtain ⟨q261, h0⟩ := need_elim h0
  refine AO.op rfl (AOp.storeOL (f := keS1) (l := [z244, z246]) (i := ((0 : Int)).toNat) (v := z258) rfl rfl rfl rfl size22 rfl rfl rfl q261 ?_)
  refine AO.objs (obs' := [.fix 24 [.d (dfl a0.X), .d (dfl a0.Y)], .fix 24 [.d (dfl a1.X), .d (dfl a1.Y)], .fix 24 [.d (dfl a2.X), .d (dfl a2.Y)], .fix 24 [.d (dfl a3.X), .d (dfl a3.Y)], .fix 24 [.d (dfl (0 : Nat)), .d (dfl (0 : Nat))], .frame fr9 [(8, .ptr 4 0)], .frame fr10 [(8, .d (.v (.slice none 0 0)))], .fix 22 (List.map (fun z => SV.d (keS1 z)) ((c16.set ((0 : Int)).toNat z82).set ((1 : Int)).toNat z92)), .fix 22 (List.map (fun z => SV.d (keS1 z)) ((c19.set ((0 : Int)).toNat z102).set ((1 : Int)).toNat z112)), .fix 22 (List.map (fun z => SV.d (keS1 z)) ((c22.set ((0 : Int)).toNat z122).set ((1 : Int)).toNat z132)), .fix 22 (List.map (fun z => SV.d (keS1 z)) ((c25.set ((0 : Int)).toNat z142).set ((1 : Int)).toNat z152)), .grow 22 1 (List.map keS1 (([(0 : Nat), (0 : Nat)].set ((0 : Int)).toNat z66).set ((1 : Int)).toNat z70)), .dead, .dead, .dead, .grow 22 1 (List.map keS1 ([z244, z246].set ((0 : Int)).toNat z258))]) rfl ?_
  refine AO.nil ?_
  change AC _ _ _ _
  refine AC.seq ?_
  refine AC.draw 8 mixed (by kernel_rfl) ?_
  refine AD.op [14] rfl (by kernel_rfl) rfl rfl (fun _ _ h => AOp.move rfl rfl (ltb rfl) rfl h) ?_
  obtain ⟨q262, h0⟩ := need_elim h0
  refine AD.op [51] rfl (by kernel_rfl) rfl rfl (fun _ _ h => AOp.indexOwn (cells := (List.map keS1 ([z244, z246].set ((0 : Int)).toNat z258))) (n := ([z244, z246].set ((0 : Int)).toNat z258).length) rfl rfl (ltb rfl) rfl rfl el56 rfl (by decide) (len1 _ _) q262.1 q262.2 h) ?_
  obtain ⟨x263, q264, h0⟩ := idx_elim h0
  refine AD.op [52] rfl (by kernel_rfl) rfl rfl (fun _ _ h => AOp.loadO1 rfl rfl (ltb rfl) rfl agg22 rfl (at1 q264.2) h) ?_
  refine AD.op [13] rfl (by kernel_rfl) rfl rfl (fun _ _ h => AOp.move rfl rfl (ltb rfl) rfl h) ?_
  obtain ⟨q265, h0⟩ := need_elim h0
  refine AD.op [54] rfl (by kernel_rfl) rfl rfl (fun _ _ h => AOp.indexOwn (cells := (List.map keS1 (([(0 : Nat), (0 : Nat)].set ((0 : Int)).toNat z66).set ((1 : Int)).toNat z70))) (n := (([(0 : Nat), (0 : Nat)].set ((0 : Int)).toNat z66).set ((1 : Int)).toNat z70).length) rfl rfl (ltb rfl) rfl rfl el56 rfl (by decide) (len1 _ _) q265.1 q265.2 h) ?_
  obtain ⟨x266, q267, h0⟩ := idx_elim h0
  refine AD.op [55] rfl (by kernel_rfl) rfl rfl (fun _ _ h => AOp.loadO1 rfl rfl (ltb rfl) rfl agg22 rfl (at1 q267.2) h) ?_
  obtain ⟨z268, q269, h0⟩ := bind_elim h0
  refine AD.op [53, 56] rfl (by kernel_rfl) rfl rfl (fun _ _ h => AOp.farith rfl rfl (ltb rfl) rfl rfl q269 h) ?_
  obtain ⟨q270, h0⟩ := need_elim h0
  refine AD.op [51] rfl (by kernel_rfl) rfl rfl (fun _ _ h => AOp.indexOwn (cells := (List.map keS1 ([z244, z246].set ((0 : Int)).toNat z258))) (n := ([z244, z246].set ((0 : Int)).toNat z258).length) rfl rfl (ltb rfl) rfl rfl el56 rfl (by decide) (len1 _ _) q270.1 q270.2 h) ?_
  refine AD.done ?_
  obtain ⟨q271, h0⟩ := need_elim h0
  refine AO.op rfl (AOp.storeOL (f := keS1) (l := ([z244, z246].set ((0 : Int)).toNat z258)) (i := ((1 : Int)).toNat) (v := z268) rfl rfl rfl rfl size22 rfl rfl rfl q271 ?_)
  refine AO.objs (obs' := [.fix 24 [.d (dfl a0.X), .d (dfl a0.Y)], .fix 24 [.d (dfl a1.X), .d (dfl a1.Y)], .fix 24 [.d (dfl a2.X), .d (dfl a2.Y)], .fix 24 [.d (dfl a3.X), .d (dfl a3.Y)], .fix 24 [.d (dfl (0 : Nat)), .d (dfl (0 : Nat))], .frame fr9 [(8, .ptr 4 0)], .frame fr10 [(8, .d (.v (.slice none 0 0)))], .fix 22 (List.map (fun z => SV.d (keS1 z)) ((c16.set ((0 : Int)).toNat z82).set ((1 : Int)).toNat z92)), .fix 22 (List.map (fun z => SV.d (keS1 z)) ((c19.set ((0 : Int)).toNat z102).set ((1 : Int)).toNat z112)), .fix 22 (List.map (fun z => SV.d (keS1 z)) ((c22.set ((0 : Int)).toNat z122).set ((1 : Int)).toNat z132)), .fix 22 (List.map (fun z => SV.d (keS1 z)) ((c25.set ((0 : Int)).toNat z142).set ((1 : Int)).toNat z152)), .grow 22 1 (List.map keS1 (([(0 : Nat), (0 : Nat)].set ((0 : Int)).toNat z66).set ((1 : Int)).toNat z70)), .dead, .dead, .dead, .grow 22 1 (List.map keS1 (([z244, z246].set ((0 : Int)).toNat z258).set ((1 : Int)).toNat z268))]) rfl ?_
  refine AO.nil ?_
  change AC _ _ _ _
  refine AC.seq ?_
  refine AC.region ?_
  refine AO.op rfl (AOp.move rfl rfl (ltb rfl) rfl ?_)
  refine AO.op rfl (AOp.assign rfl rfl (ltb rfl) rfl ?_)
  refine AO.nil ?_
  change AC _ _ _ _
  refine AC.ret ?_
  refine inlret (ob' := [.fix 24 [.d (dfl a0.X), .d (dfl a0.Y)], .fix 24 [.d (dfl a1.X), .d (dfl a1.Y)], .fix 24 [.d (dfl a2.X), .d (dfl a2.Y)], .fix 24 [.d (dfl a3.X), .d (dfl a3.Y)], .fix 24 [.d (dfl (0 : Nat)), .d (dfl (0 : Nat))], .frame fr9 [(8, .ptr 4 0)], .dead, .fix 22 (List.map (fun z => SV.d (keS1 z)) ((c16.set ((0 : Int)).toNat z82).set ((1 : Int)).toNat z92)), .fix 22 (List.map (fun z => SV.d (keS1 z)) ((c19.set ((0 : Int)).toNat z102).set ((1 : Int)).toNat z112)), .fix 22 (List.map (fun z => SV.d (keS1 z)) ((c22.set ((0 : Int)).toNat z122).set ((1 : Int)).toNat z132)), .fix 22 (List.map (fun z => SV.d (keS1 z)) ((c25.set ((0 : Int)).toNat z142).set ((1 : Int)).toNat z152)), .grow 22 1 (List.map keS1 (([(0 : Nat), (0 : Nat)].set ((0 : Int)).toNat z66).set ((1 : Int)).toNat z70)), .dead, .dead, .dead, .grow 22 1 (List.map keS1 (([z244, z246].set ((0 : Int)).toNat z258).set ((1 : Int)).toNat z268))]) (e' := [(8, .d (.v (.slice none 0 0)))]) (r := .own 15) rfl rfl rfl ?_
  change AO _ _ _ _ _
  refine AO.op rfl (AOp.assign rfl rfl (ltb rfl) rfl ?_)
  refine AO.objs (obs' := [.fix 24 [.d (dfl a0.X), .d (dfl a0.Y)], .fix 24 [.d (dfl a1.X), .d (dfl a1.Y)], .fix 24 [.d (dfl a2.X), .d (dfl a2.Y)], .fix 24 [.d (dfl a3.X), .d (dfl a3.Y)], .fix 24 [.d (dfl (0 : Nat)), .d (dfl (0 : Nat))], .frame fr9 [(8, .ptr 4 0)], .dead, .fix 22 (List.map (fun z => SV.d (keS1 z)) ((c16.set ((0 : Int)).toNat z82).set ((1 : Int)).toNat z92)), .fix 22 (List.map (fun z => SV.d (keS1 z)) ((c19.set ((0 : Int)).toNat z102).set ((1 : Int)).toNat z112)), .fix 22 (List.map (fun z => SV.d (keS1 z)) ((c22.set ((0 : Int)).toNat z122).set ((1 : Int)).toNat z132)), .fix 22 (List.map (fun z => SV.d (keS1 z)) ((c25.set ((0 : Int)).toNat z142).set ((1 : Int)).toNat z152)), .grow 22 1 (List.map keS1 (([(0 : Nat), (0 : Nat)].set ((0 : Int)).toNat z66).set ((1 : Int)).toNat z70)), .dead, .dead, .dead, .grow 22 1 (List.map keS1 (([z244, z246].set ((0 : Int)).toNat z258).set ((1 : Int)).toNat z268))]) rfl ?_
  refine AO.nil ?_
  change AC _ _ _ _
  refine AC.ret ?_
  refine inlret (ob' := [.fix 24 [.d (dfl a0.X), .d (dfl a0.Y)], .fix 24 [.d (dfl a1.X), .d (dfl a1.Y)], .fix 24 [.d (dfl a2.X), .d (dfl a2.Y)], .fix 24 [.d (dfl a3.X), .d (dfl a3.Y)], .fix 24 [.d (dfl (0 : Nat)), .d (dfl (0 : Nat))], .dead, .dead, .fix 22 (List.map (fun z => SV.d (keS1 z)) ((c16.set ((0 : Int)).toNat z82).set ((1 : Int)).toNat z92)), .fix 22 (List.map (fun z => SV.d (keS1 z)) ((c19.set ((0 : Int)).toNat z102).set ((1 : Int)).toNat z112)), .fix 22 (List.map (fun z => SV.d (keS1 z)) ((c22.set ((0 : Int)).toNat z122).set ((1 : Int)).toNat z132)), .fix 22 (List.map (fun z => SV.d (keS1 z)) ((c25.set ((0 : Int)).toNat z142).set ((1 : Int)).toNat z152)), .grow 22 1 (List.map keS1 (([(0 : Nat), (0 : Nat)].set ((0 : Int)).toNat z66).set ((1 : Int)).toNat z70)), .dead, .dead, .dead, .grow 22 1 (List.map keS1 (([z244, z246].set ((0 : Int)).toNat z258).set ((1 : Int)).toNat z268))]) (e' := [(8, .ptr 4 0)]) (r := .own 15) rfl rfl rfl ?_
  change AO _ _ _ _ _
  refine AO.freezeG 15 rfl rfl rfl ?_
  obtain ⟨y272, q273, h0⟩ := bind_elim h0
  refine AO.op rfl (AOp.callD rfl rfl (ltb rfl) rfl rfl (w_place (([z244, z246].set ((0 : Int)).toNat z258).set ((1 : Int)).toNat z268) y272 q273) ?_)
  rintro _ rfl
  refine AO.op rfl (AOp.store rfl rfl rfl rfl size24 rfl rfl rfl (leb rfl) ?_)
  refine AO.objs (obs' := [.fix 24 [.d (dfl a0.X), .d (dfl a0.Y)], .fix 24 [.d (dfl a1.X), .d (dfl a1.Y)], .fix 24 [.d (dfl a2.X), .d (dfl a2.Y)], .fix 24 [.d (dfl a3.X), .d (dfl a3.Y)], .fix 24 [.d (dfl y272.X), .d (dfl y272.Y)], .dead, .dead, .fix 22 (List.map (fun z => SV.d (keS1 z)) ((c16.set ((0 : Int)).toNat z82).set ((1 : Int)).toNat z92)), .fix 22 (List.map (fun z => SV.d (keS1 z)) ((c19.set ((0 : Int)).toNat z102).set ((1 : Int)).toNat z112)), .fix 22 (List.map (fun z => SV.d (keS1 z)) ((c22.set ((0 : Int)).toNat z122).set ((1 : Int)).toNat z132)), .fix 22 (List.map (fun z => SV.d (keS1 z)) ((c25.set ((0 : Int)).toNat z142).set ((1 : Int)).toNat z152)), .grow 22 1 (List.map keS1 (([(0 : Nat), (0 : Nat)].set ((0 : Int)).toNat z66).set ((1 : Int)).toNat z70)), .dead, .dead, .dead, .dead]) rfl ?_
  refine AO.nil ?_
  change AC _ _ _ _
  refine AC.ret ?_
  change RetQ _ _ _ .ret _
  obtain rfl := Option.some.inj h0
  refine retq rfl rfl

def row (l : List Nat) : D := .ds 1 (l.map dfl)
def rows (ls : List (List Nat)) : D := .ds 1 (ls.map row)
theorem map_at {α β : Type} (f : α → β) (l : List α) (k : Nat) (d : α) (h : k < l.length) : (l.map f)[(k : Int).toNat * 1]? = some (f (l.getD k d)) := by
  simp [h]
theorem all_take_succ {α : Type} (p : α → Bool) (l : List α) (k : Nat) (d : α) (h : k < l.length) : (l.take (k + 1)).all p = ((l.take k).all p && p (l.getD k d)) := by
  rw [List.take_succ_eq_append_getElem h, List.all_append]
  simp [h]
theorem all_false_at {α : Type} (p : α → Bool) (l : List α) (j : Nat) (d : α) (h : j < l.length) (hf : p (l.getD j d) = false) : l.all p = false := by
  rw [List.all_eq_false]
  refine ⟨l.getD j d, ?_, by rw [hf]; decide⟩
  rw [List.getD_eq_getElem?_getD, List.getElem?_eq_getElem h]; simp

theorem all_range_succ (p : Nat → Bool) (k : Nat) : (List.range (k + 1)).all p = ((List.range k).all p && p k) := by
  rw [List.range_succ, List.all_append]; simp
theorem all_range_no {p : Nat → Bool} {n k : Nat} (h : k < n) (hp : p k = false) : (List.range n).all p = false := by
  rw [List.all_eq_false]; exact ⟨k, by simpa using h, by rw [hp]; decide⟩
theorem row_at (l : List Nat) (k : Nat) (h : k < l.length) : (l.map dfl)[(k : Int).toNat * 1]? = some (dfl (l.getD k 0)) := map_at dfl l k 0 h

def finAll (l : List Nat) : Bool := (List.range l.length).all fun i => Flt.isFin (l.getD i 0)
def flat2l (pts : List (Nat × Nat)) : List Nat := pts.flatMap fun p => [p.1, p.2]
theorem flat2l_len (pts : List (Nat × Nat)) : (flat2l pts).length = pts.length * 2 := by
  unfold flat2l
  induction pts with
  | nil => rfl
  | cons p r ih => simp [ih]; omega
theorem flat2l_succ (pts : List (Nat × Nat)) (k : Nat) (h : k < pts.length) : flat2l (pts.take (k + 1)) = flat2l (pts.take k) ++ [(pts.getD k (0, 0)).1, (pts.getD k (0, 0)).2] := by
  unfold flat2l
  rw [List.take_succ_eq_append_getElem h, List.flatMap_append]
  simp [h]
theorem dbool_eq' {a b : Bool} (h : a = b) : dbool a = dbool b := by rw [h]
theorem fin_of {x z : Nat} (hz : floatBits .sub .f64 x x = some z ∨ (floatBits .sub .f64 x x = none ∧ Flt.nanB z)) : feq z 0 = Flt.isFin x := by
  cases hf : Flt.isFin x with
  | true =>
    obtain ⟨y, h1, h2⟩ := Flt.sub_self_zero hf
    rcases hz with h3 | ⟨h3, _⟩
    · rw [h1] at h3; cases h3; exact h2
    · rw [h1] at h3; cases h3
  | false =>
    have h1 := Flt.sub_self_none hf
    rcases hz with h3 | ⟨_, h3⟩
    · rw [h1] at h3; cases h3
    · exact Flt.feq_nan h3 _

set_option maxRecDepth 100000 in
/-- pub-orthodrome/spec.Finite -/
theorem finite (x : Nat) : FnD Try.prog 36 [dfl x] (fun r => r = dbool (Flt.isFin x)) := by
  refine FnD.of (by kernel_rfl) Try.func36 rfl Try.ntmps36 rfl (leb rfl) fun W ok => ?_
  refine AC.seq ?_
  refine AC.region ?_
  refine AO.op rfl (AOp.assign rfl rfl (ltb rfl) rfl ?_)
  refine AO.nil ?_
  change AC _ _ _ _
  refine AC.seq ?_
  refine AC.region ?_
  refine AO.op rfl (AOp.move rfl rfl (ltb rfl) rfl ?_)
  refine AO.op rfl (AOp.move rfl rfl (ltb rfl) rfl ?_)
  refine AO.op rfl (AOp.farithA (by simp) rfl rfl (ltb rfl) rfl rfl ?_)
  rintro z1_2 hz1_2
  refine AO.op rfl (AOp.feql rfl rfl (ltb rfl) rfl rfl ?_)
  refine AO.op rfl (AOp.assign rfl rfl (ltb rfl) rfl ?_)
  refine AO.nil ?_
  change AC _ _ _ _
  refine AC.ret ?_
  change RetQ _ _ _ .ret _
  refine retq rfl ?_
  rw [fin_of hz1_2]

set_option maxRecDepth 100000 in
set_option maxHeartbeats 4000000 in
/-- (pub-orthodrome/spec.Dyadic).Abs -/
theorem w_Dyadic_Abs (a0 : TSpec_Dyadic) (r0 : TSpec_Dyadic) (h0 : p_Dyadic_Abs a0 = some r0) : FnD Try.prog 37 [e_TSpec_Dyadic a0] (fun r => r = e_TSpec_Dyadic r0) := by
  refine FnD.of (by kernel_rfl) Try.func37 rfl Try.ntmps37 rfl (leb rfl) fun W ok => ?_
  unfold p_Dyadic_Abs at h0
  refine AC.seq ?_
  refine AC.region ?_
  refine AO.op rfl (AOp.box rfl rfl (ltb rfl) rfl rfl ?_)
  refine AO.op rfl (AOp.alloc rfl rfl (ltb rfl) zero30 rfl ?_)
  refine AO.nil ?_
  change AC _ _ _ _
  refine AC.seq ?_
  refine AC.seq ?_
  refine AC.region ?_
  refine AO.op rfl (AOp.loadN rfl rfl (ltb rfl) rfl agg30 size30 rfl (leb rfl) rfl ?_)
  obtain ⟨y1, q2, h0⟩ := bind_elim h0
  refine AO.op rfl (AOp.callD rfl rfl (ltb rfl) rfl rfl (w_Dyadic_Sign a0 y1 q2) ?_)
  rintro _ rfl
  refine AO.op rfl (AOp.ilss rfl rfl (ltb rfl) rfl rfl ?_)
  refine AO.nil ?_
  change AC _ _ _ _
  refine AC.cond rfl (fun q3 => ?_) (fun q3 => ?_)
  · replace h0 := cT h0 q3
    refine AC.seq ?_
    refine AC.region ?_
    refine AO.op rfl (AOp.loadN rfl rfl (ltb rfl) rfl agg30 size30 rfl (leb rfl) rfl ?_)
    obtain ⟨y4, q5, h0⟩ := bind_elim h0
    refine AO.op rfl (AOp.callD rfl rfl (ltb rfl) rfl rfl (w_Dyadic_Minus a0 y4 q5) ?_)
    rintro _ rfl
    refine AO.op rfl (AOp.store rfl rfl rfl rfl size30 rfl rfl rfl (leb rfl) ?_)
    refine AO.nil ?_
    change AC _ _ _ _
    refine AC.ret ?_
    change RetQ _ _ _ .ret _
    obtain rfl := Option.some.inj h0
    refine retq rfl rfl
  replace h0 := cF h0 q3
  refine AC.skip ?_
  change AC _ _ _ _
  refine AC.seq ?_
  refine AC.region ?_
  refine AO.op rfl (AOp.loadN rfl rfl (ltb rfl) rfl agg30 size30 rfl (leb rfl) rfl ?_)
  refine AO.op rfl (AOp.store rfl rfl rfl rfl size30 rfl rfl rfl (leb rfl) ?_)
  refine AO.nil ?_
  change AC _ _ _ _
  refine AC.ret ?_
  change RetQ _ _ _ .ret _
  obtain rfl := Option.some.inj h0
  refine retq rfl rfl

set_option maxRecDepth 100000 in
set_option maxHeartbeats 4000000 in
/-- (pub-orthodrome/spec.Dyadic).Shift -/
theorem w_Dyadic_Shift (a0 : TSpec_Dyadic) (a1 : Int) (r0 : TSpec_Dyadic) (h0 : p_Dyadic_Shift a0 a1 = some r0) : FnD Try.prog 39 [e_TSpec_Dyadic a0, di .i64 a1] (fun r => r = e_TSpec_Dyadic r0) := by
  refine FnD.of (by kernel_rfl) Try.func39 rfl Try.ntmps39 rfl (leb rfl) fun W ok => ?_
  unfold p_Dyadic_Shift at h0
  refine AC.seq ?_
  refine AC.region ?_
  refine AO.op rfl (AOp.box rfl rfl (ltb rfl) rfl rfl ?_)
  refine AO.op rfl (AOp.alloc rfl rfl (ltb rfl) zero30 rfl ?_)
  refine AO.nil ?_
  change AC _ _ _ _
  refine AC.seq ?_
  refine AC.region ?_
  refine AO.op rfl (AOp.fieldAddr rfl rfl (ltb rfl) rfl fo30_0 ?_)
  refine AO.op rfl (AOp.loadN rfl rfl (ltb rfl) rfl agg28 size28 rfl (leb rfl) rfl ?_)
  refine AO.op rfl (AOp.fieldAddr rfl rfl (ltb rfl) rfl fo30_1 ?_)
  refine AO.op rfl (AOp.load1 rfl rfl (ltb rfl) rfl agg3 rfl rfl ?_)
  refine AO.op rfl (AOp.move rfl rfl (ltb rfl) rfl ?_)
  obtain ⟨q1, h0⟩ := need_elim h0
  refine AO.op rfl (AOp.iadd rfl rfl (ltb rfl) rfl rfl rfl q1.1 q1.2 ?_)
  refine AO.op rfl (AOp.build rfl rfl (ltb rfl) zero30 rfl places30 rfl rfl ?_)
  refine AO.op rfl (AOp.store rfl rfl rfl rfl size30 rfl rfl rfl (leb rfl) ?_)
  refine AO.nil ?_
  change AC _ _ _ _
  refine AC.ret ?_
  change RetQ _ _ _ .ret _
  obtain rfl := Option.some.inj h0
  refine retq rfl rfl

set_option maxRecDepth 100000 in
set_option maxHeartbeats 4000000 in
/-- pub-orthodrome/laws.nearRatio -/
theorem w_nearRatio (F : Nat) (a0 : Nat) (a1 : TSpec_Ratio) (a2 : Int) (r0 : Bool) (h0 : p_nearRatio F a0 a1 a2 = some r0) : FnD Try.prog 20 [dfl a0, e_TSpec_Ratio a1, di .i64 a2] (fun r => r = dbool r0) := by
  refine FnD.of (by kernel_rfl) Try.func20 rfl Try.ntmps20 rfl (leb rfl) fun W ok => ?_
  unfold p_nearRatio at h0
  refine AC.seq ?_
  refine AC.region ?_
  refine AO.op rfl (AOp.box rfl rfl (ltb rfl) rfl rfl ?_)
  refine AO.op rfl (AOp.assign rfl rfl (ltb rfl) rfl ?_)
  refine AO.nil ?_
  change AC _ _ _ _
  refine AC.seq ?_
  refine AC.draw 20 mixed (by kernel_rfl) ?_
  refine AD.op [0] rfl (by kernel_rfl) rfl rfl (fun _ _ h => AOp.move rfl rfl (ltb rfl) rfl h) ?_
  refine AD.op [7] rfl (by kernel_rfl) rfl rfl (fun _ _ h => AOp.callD rfl rfl (ltb rfl) rfl rfl (finite a0) (by rintro _ rfl; exact h)) ?_
  refine AD.op [8] rfl (by kernel_rfl) rfl rfl (fun _ _ h => AOp.move rfl rfl (ltb rfl) rfl h) ?_
  refine AD.dec (Flt.isFin a0) (fun q1 => ?_) (fun q1 => ?_)
  · replace h0 := cT h0 q1
    refine AD.opY [0, 9] rfl rfl rfl q1 (by kernel_rfl) rfl rfl (fun _ _ h => AOp.move rfl rfl (ltb rfl) rfl h) ?_
    obtain ⟨y2, q3, h0⟩ := bind_elim h0
    refine AD.opY [9, 10] rfl rfl rfl q1 (by kernel_rfl) rfl rfl (fun _ _ h => AOp.callD rfl rfl (ltb rfl) rfl rfl (w_DyadicOf F a0 y2 q3) (by rintro _ rfl; exact h)) ?_
    refine AD.opY [4, 9] rfl rfl rfl q1 (by kernel_rfl) rfl rfl (fun _ _ h => AOp.fieldAddr rfl rfl (ltb rfl) rfl fo37_1 h) ?_
    refine AD.opY [9, 12] rfl rfl rfl q1 (by kernel_rfl) rfl rfl (fun _ _ h => AOp.loadN rfl rfl (ltb rfl) rfl agg30 size30 rfl (leb rfl) rfl h) ?_
    obtain ⟨y4, q5, h0⟩ := bind_elim h0
    refine AD.opY [9, 11, 13] rfl rfl rfl q1 (by kernel_rfl) rfl rfl (fun _ _ h => AOp.callD rfl rfl (ltb rfl) rfl rfl (w_Dyadic_Mul F y2 a1.D y4 q5) (by rintro _ rfl; exact h)) ?_
    refine AD.opY [4, 9] rfl rfl rfl q1 (by kernel_rfl) rfl rfl (fun _ _ h => AOp.fieldAddr rfl rfl (ltb rfl) rfl fo37_0 h) ?_
    refine AD.opY [9, 15] rfl rfl rfl q1 (by kernel_rfl) rfl rfl (fun _ _ h => AOp.loadN rfl rfl (ltb rfl) rfl agg30 size30 rfl (leb rfl) rfl h) ?_
    obtain ⟨y6, q7, h0⟩ := bind_elim h0
    refine AD.opY [9, 14, 16] rfl rfl rfl q1 (by kernel_rfl) rfl rfl (fun _ _ h => AOp.callD rfl rfl (ltb rfl) rfl rfl (w_Dyadic_Sub F y4 a1.N y6 q7) (by rintro _ rfl; exact h)) ?_
    obtain ⟨y8, q9, h0⟩ := bind_elim h0
    refine AD.opY [9, 17] rfl rfl rfl q1 (by kernel_rfl) rfl rfl (fun _ _ h => AOp.callD rfl rfl (ltb rfl) rfl rfl (w_Dyadic_Abs y6 y8 q9) (by rintro _ rfl; exact h)) ?_
    refine AD.opY [4, 9] rfl rfl rfl q1 (by kernel_rfl) rfl rfl (fun _ _ h => AOp.fieldAddr rfl rfl (ltb rfl) rfl fo37_1 h) ?_
    refine AD.opY [9, 19] rfl rfl rfl q1 (by kernel_rfl) rfl rfl (fun _ _ h => AOp.loadN rfl rfl (ltb rfl) rfl agg30 size30 rfl (leb rfl) rfl h) ?_
    refine AD.opY [2, 9] rfl rfl rfl q1 (by kernel_rfl) rfl rfl (fun _ _ h => AOp.move rfl rfl (ltb rfl) rfl h) ?_
    obtain ⟨y10, q11, h0⟩ := bind_elim h0
    refine AD.opY [9, 20, 21] rfl rfl rfl q1 (by kernel_rfl) rfl rfl (fun _ _ h => AOp.callD rfl rfl (ltb rfl) rfl rfl (w_Dyadic_Shift a1.D a2 y10 q11) (by rintro _ rfl; exact h)) ?_
    obtain ⟨y12, q13, h0⟩ := bind_elim h0
    refine AD.opY [9, 18, 22] rfl rfl rfl q1 (by kernel_rfl) rfl rfl (fun _ _ h => AOp.callD rfl rfl (ltb rfl) rfl rfl (w_Dyadic_Cmp F y8 y10 y12 q13) (by rintro _ rfl; exact h)) ?_
    refine AD.opY [9, 23] rfl rfl rfl q1 (by kernel_rfl) rfl rfl (fun _ _ h => AOp.ilss rfl rfl (ltb rfl) rfl rfl h) ?_
    refine AD.op [9, 24] rfl (by kernel_rfl) rfl rfl (fun _ _ h => AOp.pick rfl rfl (ltb rfl) rfl q1 rfl h) ?_
    refine AD.op [25] rfl (by kernel_rfl) rfl rfl (fun _ _ h => AOp.assign rfl rfl (ltb rfl) rfl h) ?_
    refine AD.done ?_
    refine AO.nil ?_
    change AC _ _ _ _
    refine AC.ret ?_
    change RetQ _ _ _ .ret _
    obtain rfl := Option.some.inj h0
    refine retq rfl rfl
  replace h0 := cF h0 q1
  refine AD.opN rfl rfl rfl (ltb rfl) rfl q1 ?_
  refine AD.opN rfl rfl rfl (ltb rfl) rfl q1 ?_
  refine AD.opN rfl rfl rfl (ltb rfl) rfl q1 ?_
  refine AD.opN rfl rfl rfl (ltb rfl) rfl q1 ?_
  refine AD.opN rfl rfl rfl (ltb rfl) rfl q1 ?_
  refine AD.opN rfl rfl rfl (ltb rfl) rfl q1 ?_
  refine AD.opN rfl rfl rfl (ltb rfl) rfl q1 ?_
  refine AD.opN rfl rfl rfl (ltb rfl) rfl q1 ?_
  refine AD.opN rfl rfl rfl (ltb rfl) rfl q1 ?_
  refine AD.opN rfl rfl rfl (ltb rfl) rfl q1 ?_
  refine AD.opN rfl rfl rfl (ltb rfl) rfl q1 ?_
  refine AD.opN rfl rfl rfl (ltb rfl) rfl q1 ?_
  refine AD.opN rfl rfl rfl (ltb rfl) rfl q1 ?_
  refine AD.opN rfl rfl rfl (ltb rfl) rfl q1 ?_
  refine AD.opN rfl rfl rfl (ltb rfl) rfl q1 ?_
  refine AD.op [9, 24] rfl (by kernel_rfl) rfl rfl (fun _ _ h => AOp.pickN rfl rfl (ltb rfl) rfl q1 rfl h) ?_
  refine AD.op [25] rfl (by kernel_rfl) rfl rfl (fun _ _ h => AOp.assign rfl rfl (ltb rfl) rfl h) ?_
  refine AD.done ?_
  refine AO.nil ?_
  change AC _ _ _ _
  refine AC.ret ?_
  change RetQ _ _ _ .ret _
  obtain rfl := Option.some.inj h0
  refine retq rfl rfl

set_option maxRecDepth 100000 in
set_option maxHeartbeats 4000000 in
/-- pub-orthodrome/laws.nearPlace -/
theorem w_nearPlace (F : Nat) (a0 : TImpl_P2) (a1 : TSpec_Ratio) (a2 : TSpec_Ratio) (r0 : Bool) (h0 : p_nearPlace F a0 a1 a2 = some r0) : FnD Try.prog 8 [e_TImpl_P2 a0, e_TSpec_Ratio a1, e_TSpec_Ratio a2] (fun r => r = dbool r0) := by
  refine FnD.of (by kernel_rfl) Try.func8 rfl Try.ntmps8 rfl (leb rfl) fun W ok => ?_
  unfold p_nearPlace at h0
  refine AC.seq ?_
  refine AC.region ?_
  refine AO.op rfl (AOp.box rfl rfl (ltb rfl) rfl rfl ?_)
  refine AO.op rfl (AOp.box rfl rfl (ltb rfl) rfl rfl ?_)
  refine AO.op rfl (AOp.box rfl rfl (ltb rfl) rfl rfl ?_)
  refine AO.op rfl (AOp.assign rfl rfl (ltb rfl) rfl ?_)
  refine AO.nil ?_
  change AC _ _ _ _
  refine AC.seq ?_
  refine AC.region ?_
  refine AO.op rfl (AOp.fieldAddr rfl rfl (ltb rfl) rfl fo24_0 ?_)
  refine AO.op rfl (AOp.load1 rfl rfl (ltb rfl) rfl agg22 rfl rfl ?_)
  refine AO.op rfl (AOp.loadN rfl rfl (ltb rfl) rfl agg37 size37 rfl (leb rfl) rfl ?_)
  obtain ⟨y1, q2, h0⟩ := bind_elim h0
  refine AO.op rfl (AOp.callD rfl rfl (ltb rfl) rfl rfl (w_nearRatio F a0.X a1 (-30 : Int) y1 q2) ?_)
  rintro _ rfl
  refine AO.op rfl (AOp.move rfl rfl (ltb rfl) rfl ?_)
  refine AO.dec y1 (fun q3 => ?_) (fun q3 => ?_)
  · replace h0 := cT h0 q3
    refine AO.guardY rfl rfl rfl q3 (AOp.fieldAddr rfl rfl (ltb rfl) rfl fo24_1 ?_)
    refine AO.guardY rfl rfl rfl q3 (AOp.load1 rfl rfl (ltb rfl) rfl agg22 rfl rfl ?_)
    refine AO.guardY rfl rfl rfl q3 (AOp.loadN rfl rfl (ltb rfl) rfl agg37 size37 rfl (leb rfl) rfl ?_)
    obtain ⟨y4, q5, h0⟩ := bind_elim h0
    refine AO.guardY rfl rfl rfl q3 (AOp.callD rfl rfl (ltb rfl) rfl rfl (w_nearRatio F a0.Y a2 (-30 : Int) y4 q5) ?_)
    rintro _ rfl
    refine AO.op rfl (AOp.pick rfl rfl (ltb rfl) rfl q3 rfl ?_)
    refine AO.op rfl (AOp.assign rfl rfl (ltb rfl) rfl ?_)
    refine AO.nil ?_
    change AC _ _ _ _
    refine AC.ret ?_
    change RetQ _ _ _ .ret _
    obtain rfl := Option.some.inj h0
    refine retq rfl rfl
  replace h0 := cF h0 q3
  refine AO.guardN rfl rfl rfl (ltb rfl) rfl q3 ?_
  refine AO.guardN rfl rfl rfl (ltb rfl) rfl q3 ?_
  refine AO.guardN rfl rfl rfl (ltb rfl) rfl q3 ?_
  refine AO.guardN rfl rfl rfl (ltb rfl) rfl q3 ?_
  refine AO.op rfl (AOp.pickN rfl rfl (ltb rfl) rfl q3 rfl ?_)
  refine AO.op rfl (AOp.assign rfl rfl (ltb rfl) rfl ?_)
  refine AO.nil ?_
  change AC _ _ _ _
  refine AC.ret ?_
  change RetQ _ _ _ .ret _
  obtain rfl := Option.some.inj h0
  refine retq rfl rfl

set_option maxRecDepth 100000 in
set_option maxHeartbeats 4000000 in
/-- pub-orthodrome/laws.FnNormalizedMeet -/
theorem w_FnNormalizedMeet (F : Nat) (a0 : TImpl_P2) (a1 : TImpl_P2) (a2 : TImpl_P2) (a3 : TImpl_P2) (r0 : Bool) (h0 : p_FnNormalizedMeet F a0 a1 a2 a3 = some r0) : FnD Try.prog 3 [e_TImpl_P2 a0, e_TImpl_P2 a1, e_TImpl_P2 a2, e_TImpl_P2 a3] (fun r => r = dbool r0) := by
  refine FnD.of (by kernel_rfl) Try.func3 rfl Try.ntmps3 rfl (leb rfl) fun W ok => ?_
  unfold p_FnNormalizedMeet at h0
  refine AC.seq ?_
  refine AC.region ?_
  refine AO.op rfl (AOp.box rfl rfl (ltb rfl) rfl rfl ?_)
  refine AO.op rfl (AOp.box rfl rfl (ltb rfl) rfl rfl ?_)
  refine AO.op rfl (AOp.box rfl rfl (ltb rfl) rfl rfl ?_)
  refine AO.op rfl (AOp.box rfl rfl (ltb rfl) rfl rfl ?_)
  refine AO.op rfl (AOp.assign rfl rfl (ltb rfl) rfl ?_)
  refine AO.objs (obs' := [.fix 24 [.d (dfl a0.X), .d (dfl a0.Y)], .fix 24 [.d (dfl a1.X), .d (dfl a1.Y)], .fix 24 [.d (dfl a2.X), .d (dfl a2.Y)], .fix 24 [.d (dfl a3.X), .d (dfl a3.Y)]]) rfl ?_
  refine AO.nil ?_
  change AC _ _ _ _
  refine AC.seq ?_
  refine AC.seq ?_
  refine AC.region ?_
  refine AO.op rfl (AOp.loadN rfl rfl (ltb rfl) rfl agg24 size24 rfl (leb rfl) rfl ?_)
  refine AO.op rfl (AOp.loadN rfl rfl (ltb rfl) rfl agg24 size24 rfl (leb rfl) rfl ?_)
  refine AO.op rfl (AOp.loadN rfl rfl (ltb rfl) rfl agg24 size24 rfl (leb rfl) rfl ?_)
  refine AO.op rfl (AOp.loadN rfl rfl (ltb rfl) rfl agg24 size24 rfl (leb rfl) rfl ?_)
  refine AO.op rfl (AOp.buildSliceD rfl rfl (ltb rfl) el43 zero24 rfl (leb rfl) rfl rfl rfl rfl ?_)
  obtain ⟨y1, q2, h0⟩ := bind_elim h0
  refine AO.op rfl (AOp.callD rfl rfl (ltb rfl) rfl rfl (w_planeTo F (4665729213955833856 : Nat) [a0, a1, a2, a3] y1 q2) ?_)
  rintro _ rfl
  refine AO.op rfl (AOp.bnot rfl rfl (ltb rfl) rfl ?_)
  refine AO.nil ?_
  change AC _ _ _ _
  refine AC.cond rfl (fun q3 => ?_) (fun q3 => ?_)
  · replace h0 := cT h0 q3
    refine AC.seq ?_
    refine AC.region ?_
    refine AO.op rfl (AOp.assign rfl rfl (ltb rfl) rfl ?_)
    refine AO.nil ?_
    change AC _ _ _ _
    refine AC.ret ?_
    change RetQ _ _ _ .ret _
    obtain rfl := Option.some.inj h0
    refine retq rfl rfl
  replace h0 := cF h0 q3
  refine AC.skip ?_
  change AC _ _ _ _
  refine AC.seq ?_
  refine AC.room ?_
  refine AC.room ?_
  obtain ⟨y4, q5, h0⟩ := bind_elim h0
  obtain ⟨y6, q7, h0⟩ := bind_elim h0
  obtain ⟨y8, q9, h0⟩ := bind_elim h0
  obtain ⟨y10, q11, h0⟩ := bind_elim h0
  obtain ⟨y12, q13, h0⟩ := bind_elim h0
  refine AC.drawS [0, 1, 2, 3, 4, 5, 6, 7, 8, 9, 10, 11, 12, 13, 14, 15, 16, 17, 18] [14, 15, 17, 18] [19] (fun L => [.fix 24 [.d (dfl a0.X), .d (dfl a0.Y)], .fix 24 [.d (dfl a1.X), .d (dfl a1.Y)], .fix 24 [.d (dfl a2.X), .d (dfl a2.Y)], .fix 24 [.d (dfl a3.X), .d (dfl a3.Y)], bif L 17 then .fix 32 [.d (dbool y12.2.1.X.N.Neg), .d (eS2 y12.2.1.X.N.L), .d (di .i64 y12.2.1.X.E), .d (dbool y12.2.1.Y.N.Neg), .d (eS2 y12.2.1.Y.N.L), .d (di .i64 y12.2.1.Y.E)] else bif L 14 then .fix 32 [.d (dbool false), .d (.v (.slice none 0 0)), .d (di .i64 (0 : Int)), .d (dbool false), .d (.v (.slice none 0 0)), .d (di .i64 (0 : Int))] else .dead, bif L 18 then .fix 32 [.d (dbool y12.2.2.1.X.N.Neg), .d (eS2 y12.2.2.1.X.N.L), .d (di .i64 y12.2.2.1.X.E), .d (dbool y12.2.2.1.Y.N.Neg), .d (eS2 y12.2.2.1.Y.N.L), .d (di .i64 y12.2.2.1.Y.E)] else bif L 15 then .fix 32 [.d (dbool false), .d (.v (.slice none 0 0)), .d (di .i64 (0 : Int)), .d (dbool false), .d (.v (.slice none 0 0)), .d (di .i64 (0 : Int))] else .dead]) [(14, SV.noO2 4 6), (15, SV.noO2 5 6), (17, (fun _ => true)), (18, (fun _ => true))] mixed (by kernel_rfl) (fun L L' h => by simp only [h 14 (by decide), h 17 (by decide), h 15 (by decide), h 18 (by decide)]) rfl ?_
  refine AS.op [4] [] [17, 18] [14, 15] rfl rfl rfl (by kernel_rfl) (by kernel_rfl) rfl rfl (fun _ _ _ h => AOp.loadN rfl rfl (ltb rfl) rfl agg24 size24 rfl (leb rfl) rfl h) (by kernel_rfl) ?_
  refine AS.op [24] [] [17, 18] [14, 15] rfl rfl rfl (by kernel_rfl) (by kernel_rfl) rfl rfl (fun _ _ _ h => AOp.callD rfl rfl (ltb rfl) rfl rfl (w_exactly F a0 y4 q5) (by rintro _ rfl; exact h)) (by kernel_rfl) ?_
  refine AS.op [5] [] [17, 18] [14, 15] rfl rfl rfl (by kernel_rfl) (by kernel_rfl) rfl rfl (fun _ _ _ h => AOp.loadN rfl rfl (ltb rfl) rfl agg24 size24 rfl (leb rfl) rfl h) (by kernel_rfl) ?_
  refine AS.op [26] [] [17, 18] [14, 15] rfl rfl rfl (by kernel_rfl) (by kernel_rfl) rfl rfl (fun _ _ _ h => AOp.callD rfl rfl (ltb rfl) rfl rfl (w_exactly F a1 y6 q7) (by rintro _ rfl; exact h)) (by kernel_rfl) ?_
  refine AS.op [6] [] [17, 18] [14, 15] rfl rfl rfl (by kernel_rfl) (by kernel_rfl) rfl rfl (fun _ _ _ h => AOp.loadN rfl rfl (ltb rfl) rfl agg24 size24 rfl (leb rfl) rfl h) (by kernel_rfl) ?_
  refine AS.op [28] [] [17, 18] [14, 15] rfl rfl rfl (by kernel_rfl) (by kernel_rfl) rfl rfl (fun _ _ _ h => AOp.callD rfl rfl (ltb rfl) rfl rfl (w_exactly F a2 y8 q9) (by rintro _ rfl; exact h)) (by kernel_rfl) ?_
  refine AS.op [7] [] [17, 18] [14, 15] rfl rfl rfl (by kernel_rfl) (by kernel_rfl) rfl rfl (fun _ _ _ h => AOp.loadN rfl rfl (ltb rfl) rfl agg24 size24 rfl (leb rfl) rfl h) (by kernel_rfl) ?_
  refine AS.op [30] [] [17, 18] [14, 15] rfl rfl rfl (by kernel_rfl) (by kernel_rfl) rfl rfl (fun _ _ _ h => AOp.callD rfl rfl (ltb rfl) rfl rfl (w_exactly F a3 y10 q11) (by rintro _ rfl; exact h)) (by kernel_rfl) ?_
  refine AS.op [25, 27, 29, 31] [] [17, 18] [14, 15] rfl rfl rfl (by kernel_rfl) (by kernel_rfl) rfl rfl (fun _ _ _ h => AOp.callD rfl rfl (ltb rfl) rfl rfl (w_Meet F y4 y6 y8 y10 y12 q13) (by rintro _ rfl; exact h)) (by kernel_rfl) ?_
  refine AS.op [32] [] [17, 18] [14, 15] rfl rfl rfl (by kernel_rfl) (by kernel_rfl) rfl rfl (fun _ _ _ h => AOp.move rfl rfl (ltb rfl) rfl h) (by kernel_rfl) ?_
  first | refine AS.op [23] [] [17, 18] [14, 15] rfl rfl rfl (by kernel_rfl) (by kernel_rfl) rfl rfl (fun _ _ _ h => AOp.extractD rfl rfl (ltb rfl) rfl rfl h) (by kernel_rfl) ?_ | refine AS.op [23] [] [17, 18] [14, 15] rfl rfl rfl (by kernel_rfl) (by kernel_rfl) rfl rfl (fun _ _ _ h => AOp.extract rfl rfl (ltb rfl) rfl rfl h) (by kernel_rfl) ?_
  first | refine AS.op [23] [] [17, 18] [14, 15] rfl rfl rfl (by kernel_rfl) (by kernel_rfl) rfl rfl (fun _ _ _ h => AOp.extractD rfl rfl (ltb rfl) rfl rfl h) (by kernel_rfl) ?_ | refine AS.op [23] [] [17, 18] [14, 15] rfl rfl rfl (by kernel_rfl) (by kernel_rfl) rfl rfl (fun _ _ _ h => AOp.extract rfl rfl (ltb rfl) rfl rfl h) (by kernel_rfl) ?_
  first | refine AS.op [23] [] [18] [14, 15, 17] rfl rfl rfl (by kernel_rfl) (by kernel_rfl) rfl rfl (fun _ _ _ h => AOp.extractD rfl rfl (ltb rfl) rfl rfl h) (by kernel_rfl) ?_ | refine AS.op [23] [] [18] [14, 15, 17] rfl rfl rfl (by kernel_rfl) (by kernel_rfl) rfl rfl (fun _ _ _ h => AOp.extract rfl rfl (ltb rfl) rfl rfl h) (by kernel_rfl) ?_
  first | refine AS.op [23] [] [] [14, 15, 17, 18] rfl rfl rfl (by kernel_rfl) (by kernel_rfl) rfl rfl (fun _ _ _ h => AOp.extractD rfl rfl (ltb rfl) rfl rfl h) (by kernel_rfl) ?_ | refine AS.op [23] [] [] [14, 15, 17, 18] rfl rfl rfl (by kernel_rfl) (by kernel_rfl) rfl rfl (fun _ _ _ h => AOp.extract rfl rfl (ltb rfl) rfl rfl h) (by kernel_rfl) ?_
  refine AS.mid [] [] [17, 18, 14] [15] rfl rfl rfl rfl (by kernel_rfl) (by kernel_rfl) rfl rfl (fun _ _ _ h => AOp.alloc rfl rfl (ltb rfl) zero32 rfl (AO.sink 4 6 rfl rfl rfl (.cons rfl (.cons rfl (.cons rfl (.cons rfl (.cons (noO2_cond rfl (noO2_cond rfl rfl)) (.cons (noO2_cond rfl (noO2_cond rfl rfl)) .nil)))))) rfl h)) (by kernel_rfl) rfl ?_
  refine AS.mid [] [] [17, 18, 15] [14] rfl rfl rfl rfl (by kernel_rfl) (by kernel_rfl) rfl rfl (fun _ _ _ h => AOp.alloc rfl rfl (ltb rfl) zero32 rfl (AO.sink 5 6 rfl rfl rfl (.cons rfl (.cons rfl (.cons rfl (.cons rfl (.cons (noO2_cond rfl (noO2_cond rfl rfl)) (.cons (noO2_cond rfl (noO2_cond rfl rfl)) .nil)))))) rfl h)) (by kernel_rfl) rfl ?_
  refine AS.op [33] [14, 15] [17, 18] [] rfl rfl rfl (by kernel_rfl) (by kernel_rfl) rfl rfl (fun _ _ _ h => AOp.assign rfl rfl (ltb rfl) rfl h) (by kernel_rfl) ?_
  refine AS.mid0 [10, 34] [14, 15] [18, 17] [] rfl rfl rfl rfl (by kernel_rfl) (by kernel_rfl) rfl rfl (fun _ _ _ h => AOp.store rfl rfl rfl rfl size32 rfl rfl rfl (leb rfl) (AO.dropT h)) (by kernel_rfl) rfl ?_
  refine AS.mid0 [11, 35] [14, 15, 17] [18] [] rfl rfl rfl rfl (by kernel_rfl) (by kernel_rfl) rfl rfl (fun _ _ _ h => AOp.store rfl rfl rfl rfl size32 rfl rfl rfl (leb rfl) (AO.dropT h)) (by kernel_rfl) rfl ?_
  refine AS.done ?_
  refine AO.objs (obs' := [.fix 24 [.d (dfl a0.X), .d (dfl a0.Y)], .fix 24 [.d (dfl a1.X), .d (dfl a1.Y)], .fix 24 [.d (dfl a2.X), .d (dfl a2.Y)], .fix 24 [.d (dfl a3.X), .d (dfl a3.Y)], .fix 32 [.d (dbool y12.2.1.X.N.Neg), .d (eS2 y12.2.1.X.N.L), .d (di .i64 y12.2.1.X.E), .d (dbool y12.2.1.Y.N.Neg), .d (eS2 y12.2.1.Y.N.L), .d (di .i64 y12.2.1.Y.E)], .fix 32 [.d (dbool y12.2.2.1.X.N.Neg), .d (eS2 y12.2.2.1.X.N.L), .d (di .i64 y12.2.2.1.X.E), .d (dbool y12.2.2.1.Y.N.Neg), .d (eS2 y12.2.2.1.Y.N.L), .d (di .i64 y12.2.2.1.Y.E)]]) rfl ?_
  refine AO.op rfl (AOp.assign rfl rfl (ltb rfl) rfl ?_)
  refine AO.objs (obs' := [.fix 24 [.d (dfl a0.X), .d (dfl a0.Y)], .fix 24 [.d (dfl a1.X), .d (dfl a1.Y)], .fix 24 [.d (dfl a2.X), .d (dfl a2.Y)], .fix 24 [.d (dfl a3.X), .d (dfl a3.Y)], .fix 32 [.d (dbool y12.2.1.X.N.Neg), .d (eS2 y12.2.1.X.N.L), .d (di .i64 y12.2.1.X.E), .d (dbool y12.2.1.Y.N.Neg), .d (eS2 y12.2.1.Y.N.L), .d (di .i64 y12.2.1.Y.E)], .fix 32 [.d (dbool y12.2.2.1.X.N.Neg), .d (eS2 y12.2.2.1.X.N.L), .d (di .i64 y12.2.2.1.X.E), .d (dbool y12.2.2.1.Y.N.Neg), .d (eS2 y12.2.2.1.Y.N.L), .d (di .i64 y12.2.2.1.Y.E)]]) rfl ?_
  refine AO.nil ?_
  change AC _ _ _ _
  refine AC.seq ?_
  refine AC.joinP (V := Bool) [4, 5, 6, 7] [41] 6 (fun g14 => [(41, .d (dbool g14))]) (fun g14 => [.fix 24 [.d (dfl a0.X), .d (dfl a0.Y)], .fix 24 [.d (dfl a1.X), .d (dfl a1.Y)], .fix 24 [.d (dfl a2.X), .d (dfl a2.Y)], .fix 24 [.d (dfl a3.X), .d (dfl a3.Y)], .fix 32 [.d (dbool y12.2.1.X.N.Neg), .d (eS2 y12.2.1.X.N.L), .d (di .i64 y12.2.1.X.E), .d (dbool y12.2.1.Y.N.Neg), .d (eS2 y12.2.1.Y.N.L), .d (di .i64 y12.2.1.Y.E)], .fix 32 [.d (dbool y12.2.2.1.X.N.Neg), .d (eS2 y12.2.2.1.X.N.L), .d (di .i64 y12.2.2.1.X.E), .d (dbool y12.2.2.1.Y.N.Neg), .d (eS2 y12.2.2.1.Y.N.L), .d (di .i64 y12.2.2.1.Y.E)]]) (fun g14 => (p_FnNormalizedMeet_k1 a0 a1 a2 a3 F) g14 = some r0) rfl ?_ ?_
  · refine AC.region ?_
    refine AO.op rfl (AOp.move rfl rfl (ltb rfl) rfl ?_)
    refine AO.op rfl (AOp.ineq rfl rfl (ltb rfl) rfl rfl ?_)
    refine AO.op rfl (AOp.move rfl rfl (ltb rfl) rfl ?_)
    refine AO.dec (!decide (y12.1 = (1 : Int))) (fun q31 => ?_) (fun q31 => ?_)
    · replace h0 := cT h0 q31
      refine AO.guardN rfl rfl rfl (ltb rfl) rfl q31 ?_
      refine AO.op rfl (AOp.pick rfl rfl (ltb rfl) rfl q31 rfl ?_)
      refine AO.nil ?_
      exact ⟨true, _, rfl, (LeL.refl _), rfl, rfl, h0⟩
    replace h0 := cF h0 q31
    refine AO.guardY rfl rfl rfl q31 (AOp.move rfl rfl (ltb rfl) rfl ?_)
    refine AO.op rfl (AOp.pickN rfl rfl (ltb rfl) rfl q31 rfl ?_)
    refine AO.nil ?_
    exact ⟨y12.2.2.2, _, rfl, (LeL.refl _), rfl, rfl, h0⟩
  intro g14 h0
  unfold p_FnNormalizedMeet_k1 at h0
  refine AC.cond rfl (fun q15 => ?_) (fun q15 => ?_)
  · replace h0 := cT h0 q15
    refine AC.seq ?_
    refine AC.region ?_
    refine AO.op rfl (AOp.assign rfl rfl (ltb rfl) rfl ?_)
    refine AO.nil ?_
    change AC _ _ _ _
    refine AC.ret ?_
    change RetQ _ _ _ .ret _
    obtain rfl := Option.some.inj h0
    refine retq rfl rfl
  replace h0 := cF h0 q15
  refine AC.skip ?_
  change AC _ _ _ _
  refine AC.seq ?_
  refine AC.room ?_
  refine AC.room ?_
  obtain ⟨y16, q17, h0⟩ := bind_elim h0
  obtain ⟨y18, q19, h0⟩ := bind_elim h0
  obtain ⟨y20, q21, h0⟩ := bind_elim h0
  obtain ⟨y22, q23, h0⟩ := bind_elim h0
  obtain ⟨y24, q25, h0⟩ := bind_elim h0
  refine AC.drawS [0, 1, 2, 3, 4, 5, 6, 7, 8, 9, 10, 11, 12, 13, 14, 15, 16] [13, 14, 15, 16] [17] (fun L => [.fix 24 [.d (dfl a0.X), .d (dfl a0.Y)], .fix 24 [.d (dfl a1.X), .d (dfl a1.Y)], .fix 24 [.d (dfl a2.X), .d (dfl a2.Y)], .fix 24 [.d (dfl a3.X), .d (dfl a3.Y)], .fix 32 [.d (dbool y12.2.1.X.N.Neg), .d (eS2 y12.2.1.X.N.L), .d (di .i64 y12.2.1.X.E), .d (dbool y12.2.1.Y.N.Neg), .d (eS2 y12.2.1.Y.N.L), .d (di .i64 y12.2.1.Y.E)], .fix 32 [.d (dbool y12.2.2.1.X.N.Neg), .d (eS2 y12.2.2.1.X.N.L), .d (di .i64 y12.2.2.1.X.E), .d (dbool y12.2.2.1.Y.N.Neg), .d (eS2 y12.2.2.1.Y.N.L), .d (di .i64 y12.2.2.1.Y.E)], bif L 15 then .fix 37 [.d (dbool y24.1.N.N.Neg), .d (eS2 y24.1.N.N.L), .d (di .i64 y24.1.N.E), .d (dbool y24.1.D.N.Neg), .d (eS2 y24.1.D.N.L), .d (di .i64 y24.1.D.E)] else bif L 13 then .fix 37 [.d (dbool false), .d (.v (.slice none 0 0)), .d (di .i64 (0 : Int)), .d (dbool false), .d (.v (.slice none 0 0)), .d (di .i64 (0 : Int))] else .dead, bif L 16 then .fix 37 [.d (dbool y24.2.1.N.N.Neg), .d (eS2 y24.2.1.N.N.L), .d (di .i64 y24.2.1.N.E), .d (dbool y24.2.1.D.N.Neg), .d (eS2 y24.2.1.D.N.L), .d (di .i64 y24.2.1.D.E)] else bif L 14 then .fix 37 [.d (dbool false), .d (.v (.slice none 0 0)), .d (di .i64 (0 : Int)), .d (dbool false), .d (.v (.slice none 0 0)), .d (di .i64 (0 : Int))] else .dead]) [(13, SV.noO2 6 8), (14, SV.noO2 7 8), (15, (fun _ => true)), (16, (fun _ => true))] mixed (by kernel_rfl) (fun L L' h => by simp only [h 13 (by decide), h 15 (by decide), h 14 (by decide), h 16 (by decide)]) rfl ?_
  refine AS.op [4] [] [15, 16] [13, 14] rfl rfl rfl (by kernel_rfl) (by kernel_rfl) rfl rfl (fun _ _ _ h => AOp.loadN rfl rfl (ltb rfl) rfl agg24 size24 rfl (leb rfl) rfl h) (by kernel_rfl) ?_
  refine AS.op [43] [] [15, 16] [13, 14] rfl rfl rfl (by kernel_rfl) (by kernel_rfl) rfl rfl (fun _ _ _ h => AOp.callD rfl rfl (ltb rfl) rfl rfl (w_exactly F a0 y16 q17) (by rintro _ rfl; exact h)) (by kernel_rfl) ?_
  refine AS.op [5] [] [15, 16] [13, 14] rfl rfl rfl (by kernel_rfl) (by kernel_rfl) rfl rfl (fun _ _ _ h => AOp.loadN rfl rfl (ltb rfl) rfl agg24 size24 rfl (leb rfl) rfl h) (by kernel_rfl) ?_
  refine AS.op [45] [] [15, 16] [13, 14] rfl rfl rfl (by kernel_rfl) (by kernel_rfl) rfl rfl (fun _ _ _ h => AOp.callD rfl rfl (ltb rfl) rfl rfl (w_exactly F a1 y18 q19) (by rintro _ rfl; exact h)) (by kernel_rfl) ?_
  refine AS.op [6] [] [15, 16] [13, 14] rfl rfl rfl (by kernel_rfl) (by kernel_rfl) rfl rfl (fun _ _ _ h => AOp.loadN rfl rfl (ltb rfl) rfl agg24 size24 rfl (leb rfl) rfl h) (by kernel_rfl) ?_
  refine AS.op [47] [] [15, 16] [13, 14] rfl rfl rfl (by kernel_rfl) (by kernel_rfl) rfl rfl (fun _ _ _ h => AOp.callD rfl rfl (ltb rfl) rfl rfl (w_exactly F a2 y20 q21) (by rintro _ rfl; exact h)) (by kernel_rfl) ?_
  refine AS.op [7] [] [15, 16] [13, 14] rfl rfl rfl (by kernel_rfl) (by kernel_rfl) rfl rfl (fun _ _ _ h => AOp.loadN rfl rfl (ltb rfl) rfl agg24 size24 rfl (leb rfl) rfl h) (by kernel_rfl) ?_
  refine AS.op [49] [] [15, 16] [13, 14] rfl rfl rfl (by kernel_rfl) (by kernel_rfl) rfl rfl (fun _ _ _ h => AOp.callD rfl rfl (ltb rfl) rfl rfl (w_exactly F a3 y22 q23) (by rintro _ rfl; exact h)) (by kernel_rfl) ?_
  refine AS.op [44, 46, 48, 50] [] [15, 16] [13, 14] rfl rfl rfl (by kernel_rfl) (by kernel_rfl) rfl rfl (fun _ _ _ h => AOp.callD rfl rfl (ltb rfl) rfl rfl (w_Crossing F y16 y18 y20 y22 y24 q25) (by rintro _ rfl; exact h)) (by kernel_rfl) ?_
  refine AS.op [51] [] [15, 16] [13, 14] rfl rfl rfl (by kernel_rfl) (by kernel_rfl) rfl rfl (fun _ _ _ h => AOp.move rfl rfl (ltb rfl) rfl h) (by kernel_rfl) ?_
  first | refine AS.op [42] [] [15, 16] [13, 14] rfl rfl rfl (by kernel_rfl) (by kernel_rfl) rfl rfl (fun _ _ _ h => AOp.extractD rfl rfl (ltb rfl) rfl rfl h) (by kernel_rfl) ?_ | refine AS.op [42] [] [15, 16] [13, 14] rfl rfl rfl (by kernel_rfl) (by kernel_rfl) rfl rfl (fun _ _ _ h => AOp.extract rfl rfl (ltb rfl) rfl rfl h) (by kernel_rfl) ?_
  first | refine AS.op [42] [] [16] [13, 14, 15] rfl rfl rfl (by kernel_rfl) (by kernel_rfl) rfl rfl (fun _ _ _ h => AOp.extractD rfl rfl (ltb rfl) rfl rfl h) (by kernel_rfl) ?_ | refine AS.op [42] [] [16] [13, 14, 15] rfl rfl rfl (by kernel_rfl) (by kernel_rfl) rfl rfl (fun _ _ _ h => AOp.extract rfl rfl (ltb rfl) rfl rfl h) (by kernel_rfl) ?_
  first | refine AS.op [42] [] [] [13, 14, 15, 16] rfl rfl rfl (by kernel_rfl) (by kernel_rfl) rfl rfl (fun _ _ _ h => AOp.extractD rfl rfl (ltb rfl) rfl rfl h) (by kernel_rfl) ?_ | refine AS.op [42] [] [] [13, 14, 15, 16] rfl rfl rfl (by kernel_rfl) (by kernel_rfl) rfl rfl (fun _ _ _ h => AOp.extract rfl rfl (ltb rfl) rfl rfl h) (by kernel_rfl) ?_
  refine AS.mid [] [] [15, 16, 13] [14] rfl rfl rfl rfl (by kernel_rfl) (by kernel_rfl) rfl rfl (fun _ _ _ h => AOp.alloc rfl rfl (ltb rfl) zero37 rfl (AO.sink 6 8 rfl rfl rfl (.cons rfl (.cons rfl (.cons rfl (.cons rfl (.cons rfl (.cons rfl (.cons (noO2_cond rfl (noO2_cond rfl rfl)) (.cons (noO2_cond rfl (noO2_cond rfl rfl)) .nil)))))))) rfl h)) (by kernel_rfl) rfl ?_
  refine AS.mid [] [] [15, 16, 14] [13] rfl rfl rfl rfl (by kernel_rfl) (by kernel_rfl) rfl rfl (fun _ _ _ h => AOp.alloc rfl rfl (ltb rfl) zero37 rfl (AO.sink 7 8 rfl rfl rfl (.cons rfl (.cons rfl (.cons rfl (.cons rfl (.cons rfl (.cons rfl (.cons (noO2_cond rfl (noO2_cond rfl rfl)) (.cons (noO2_cond rfl (noO2_cond rfl rfl)) .nil)))))))) rfl h)) (by kernel_rfl) rfl ?_
  refine AS.mid0 [13, 52] [13, 14] [16, 15] [] rfl rfl rfl rfl (by kernel_rfl) (by kernel_rfl) rfl rfl (fun _ _ _ h => AOp.store rfl rfl rfl rfl size37 rfl rfl rfl (leb rfl) (AO.dropT h)) (by kernel_rfl) rfl ?_
  refine AS.mid0 [14, 53] [13, 14, 15] [16] [] rfl rfl rfl rfl (by kernel_rfl) (by kernel_rfl) rfl rfl (fun _ _ _ h => AOp.store rfl rfl rfl rfl size37 rfl rfl rfl (leb rfl) (AO.dropT h)) (by kernel_rfl) rfl ?_
  refine AS.done ?_
  refine AO.objs (obs' := [.fix 24 [.d (dfl a0.X), .d (dfl a0.Y)], .fix 24 [.d (dfl a1.X), .d (dfl a1.Y)], .fix 24 [.d (dfl a2.X), .d (dfl a2.Y)], .fix 24 [.d (dfl a3.X), .d (dfl a3.Y)], .fix 32 [.d (dbool y12.2.1.X.N.Neg), .d (eS2 y12.2.1.X.N.L), .d (di .i64 y12.2.1.X.E), .d (dbool y12.2.1.Y.N.Neg), .d (eS2 y12.2.1.Y.N.L), .d (di .i64 y12.2.1.Y.E)], .fix 32 [.d (dbool y12.2.2.1.X.N.Neg), .d (eS2 y12.2.2.1.X.N.L), .d (di .i64 y12.2.2.1.X.E), .d (dbool y12.2.2.1.Y.N.Neg), .d (eS2 y12.2.2.1.Y.N.L), .d (di .i64 y12.2.2.1.Y.E)], .fix 37 [.d (dbool y24.1.N.N.Neg), .d (eS2 y24.1.N.N.L), .d (di .i64 y24.1.N.E), .d (dbool y24.1.D.N.Neg), .d (eS2 y24.1.D.N.L), .d (di .i64 y24.1.D.E)], .fix 37 [.d (dbool y24.2.1.N.N.Neg), .d (eS2 y24.2.1.N.N.L), .d (di .i64 y24.2.1.N.E), .d (dbool y24.2.1.D.N.Neg), .d (eS2 y24.2.1.D.N.L), .d (di .i64 y24.2.1.D.E)]]) rfl ?_
  refine AO.op rfl (AOp.assign rfl rfl (ltb rfl) rfl ?_)
  refine AO.objs (obs' := [.fix 24 [.d (dfl a0.X), .d (dfl a0.Y)], .fix 24 [.d (dfl a1.X), .d (dfl a1.Y)], .fix 24 [.d (dfl a2.X), .d (dfl a2.Y)], .fix 24 [.d (dfl a3.X), .d (dfl a3.Y)], .fix 32 [.d (dbool y12.2.1.X.N.Neg), .d (eS2 y12.2.1.X.N.L), .d (di .i64 y12.2.1.X.E), .d (dbool y12.2.1.Y.N.Neg), .d (eS2 y12.2.1.Y.N.L), .d (di .i64 y12.2.1.Y.E)], .fix 32 [.d (dbool y12.2.2.1.X.N.Neg), .d (eS2 y12.2.2.1.X.N.L), .d (di .i64 y12.2.2.1.X.E), .d (dbool y12.2.2.1.Y.N.Neg), .d (eS2 y12.2.2.1.Y.N.L), .d (di .i64 y12.2.2.1.Y.E)], .fix 37 [.d (dbool y24.1.N.N.Neg), .d (eS2 y24.1.N.N.L), .d (di .i64 y24.1.N.E), .d (dbool y24.1.D.N.Neg), .d (eS2 y24.1.D.N.L), .d (di .i64 y24.1.D.E)], .fix 37 [.d (dbool y24.2.1.N.N.Neg), .d (eS2 y24.2.1.N.N.L), .d (di .i64 y24.2.1.N.E), .d (dbool y24.2.1.D.N.Neg), .d (eS2 y24.2.1.D.N.L), .d (di .i64 y24.2.1.D.E)]]) rfl ?_
  refine AO.nil ?_
  change AC _ _ _ _
  refine AC.seq ?_
  refine AC.dec y24.2.2 (fun q26 => ?_) (fun q26 => ?_)
  · replace h0 := cT h0 q26
    obtain ⟨y27, q28, h0⟩ := bind_elim h0
    refine AC.drawS [0, 1, 2, 3, 4, 5, 6, 7, 8] [] [9, 10, 11] (fun L => [.fix 24 [.d (dfl a0.X), .d (dfl a0.Y)], .fix 24 [.d (dfl a1.X), .d (dfl a1.Y)], .fix 24 [.d (dfl a2.X), .d (dfl a2.Y)], .fix 24 [.d (dfl a3.X), .d (dfl a3.Y)], .fix 32 [.d (dbool y12.2.1.X.N.Neg), .d (eS2 y12.2.1.X.N.L), .d (di .i64 y12.2.1.X.E), .d (dbool y12.2.1.Y.N.Neg), .d (eS2 y12.2.1.Y.N.L), .d (di .i64 y12.2.1.Y.E)], .fix 32 [.d (dbool y12.2.2.1.X.N.Neg), .d (eS2 y12.2.2.1.X.N.L), .d (di .i64 y12.2.2.1.X.E), .d (dbool y12.2.2.1.Y.N.Neg), .d (eS2 y12.2.2.1.Y.N.L), .d (di .i64 y12.2.2.1.Y.E)], .fix 37 [.d (dbool y24.1.N.N.Neg), .d (eS2 y24.1.N.N.L), .d (di .i64 y24.1.N.E), .d (dbool y24.1.D.N.Neg), .d (eS2 y24.1.D.N.L), .d (di .i64 y24.1.D.E)], .fix 37 [.d (dbool y24.2.1.N.N.Neg), .d (eS2 y24.2.1.N.N.L), .d (di .i64 y24.2.1.N.E), .d (dbool y24.2.1.D.N.Neg), .d (eS2 y24.2.1.D.N.L), .d (di .i64 y24.2.1.D.E)]]) [] mixed (by kernel_rfl) (fun _ _ _ => rfl) rfl ?_
    refine AS.op [15] [] [] [] rfl rfl rfl (by kernel_rfl) (by kernel_rfl) rfl rfl (fun _ _ _ h => AOp.move rfl rfl (ltb rfl) rfl h) (by kernel_rfl) ?_
    refine AS.op [55] [] [] [] rfl rfl rfl (by kernel_rfl) (by kernel_rfl) rfl rfl (fun _ _ _ h => AOp.move rfl rfl (ltb rfl) rfl h) (by kernel_rfl) ?_
    refine AS.opY [4, 56] [] [] [] rfl rfl rfl rfl rfl q26 (by kernel_rfl) (by kernel_rfl) rfl rfl (fun _ _ _ h => AOp.loadN rfl rfl (ltb rfl) rfl agg24 size24 rfl (leb rfl) rfl h) (by kernel_rfl) ?_
    refine AS.opY [5, 56] [] [] [] rfl rfl rfl rfl rfl q26 (by kernel_rfl) (by kernel_rfl) rfl rfl (fun _ _ _ h => AOp.loadN rfl rfl (ltb rfl) rfl agg24 size24 rfl (leb rfl) rfl h) (by kernel_rfl) ?_
    refine AS.opY [6, 56] [] [] [] rfl rfl rfl rfl rfl q26 (by kernel_rfl) (by kernel_rfl) rfl rfl (fun _ _ _ h => AOp.loadN rfl rfl (ltb rfl) rfl agg24 size24 rfl (leb rfl) rfl h) (by kernel_rfl) ?_
    refine AS.opY [7, 56] [] [] [] rfl rfl rfl rfl rfl q26 (by kernel_rfl) (by kernel_rfl) rfl rfl (fun _ _ _ h => AOp.loadN rfl rfl (ltb rfl) rfl agg24 size24 rfl (leb rfl) rfl h) (by kernel_rfl) ?_
    refine AS.opY [56, 57, 58, 59, 60] [] [] [] rfl rfl rfl rfl rfl q26 (by kernel_rfl) (by kernel_rfl) rfl rfl (fun _ _ _ h => AOp.callD rfl rfl (ltb rfl) rfl rfl (w_NormalizedMeet a0 a1 a2 a3 y27 q28) (by rintro _ rfl; exact h)) (by kernel_rfl) ?_
    refine AS.opY [13, 56] [] [] [] rfl rfl rfl rfl rfl q26 (by kernel_rfl) (by kernel_rfl) rfl rfl (fun _ _ _ h => AOp.loadN rfl rfl (ltb rfl) rfl agg37 size37 rfl (leb rfl) rfl h) (by kernel_rfl) ?_
    refine AS.opY [14, 56] [] [] [] rfl rfl rfl rfl rfl q26 (by kernel_rfl) (by kernel_rfl) rfl rfl (fun _ _ _ h => AOp.loadN rfl rfl (ltb rfl) rfl agg37 size37 rfl (leb rfl) rfl h) (by kernel_rfl) ?_
    refine AS.done ?_
    refine AO.objs (obs' := [.fix 24 [.d (dfl a0.X), .d (dfl a0.Y)], .fix 24 [.d (dfl a1.X), .d (dfl a1.Y)], .fix 24 [.d (dfl a2.X), .d (dfl a2.Y)], .fix 24 [.d (dfl a3.X), .d (dfl a3.Y)], .fix 32 [.d (dbool y12.2.1.X.N.Neg), .d (eS2 y12.2.1.X.N.L), .d (di .i64 y12.2.1.X.E), .d (dbool y12.2.1.Y.N.Neg), .d (eS2 y12.2.1.Y.N.L), .d (di .i64 y12.2.1.Y.E)], .fix 32 [.d (dbool y12.2.2.1.X.N.Neg), .d (eS2 y12.2.2.1.X.N.L), .d (di .i64 y12.2.2.1.X.E), .d (dbool y12.2.2.1.Y.N.Neg), .d (eS2 y12.2.2.1.Y.N.L), .d (di .i64 y12.2.2.1.Y.E)], .fix 37 [.d (dbool y24.1.N.N.Neg), .d (eS2 y24.1.N.N.L), .d (di .i64 y24.1.N.E), .d (dbool y24.1.D.N.Neg), .d (eS2 y24.1.D.N.L), .d (di .i64 y24.1.D.E)], .fix 37 [.d (dbool y24.2.1.N.N.Neg), .d (eS2 y24.2.1.N.N.L), .d (di .i64 y24.2.1.N.E), .d (dbool y24.2.1.D.N.Neg), .d (eS2 y24.2.1.D.N.L), .d (di .i64 y24.2.1.D.E)]]) rfl ?_
    obtain ⟨y29, q30, h0⟩ := bind_elim h0
    refine AO.guardY rfl rfl rfl q26 (AOp.callD rfl rfl (ltb rfl) rfl rfl (w_nearPlace F y27 y24.1 y24.2.1 y29 q30) ?_)
    rintro _ rfl
    refine AO.op rfl (AOp.pick rfl rfl (ltb rfl) rfl q26 rfl ?_)
    refine AO.op rfl (AOp.assign rfl rfl (ltb rfl) rfl ?_)
    refine AO.nil ?_
    change AC _ _ _ _
    refine AC.ret ?_
    change RetQ _ _ _ .ret _
    obtain rfl := Option.some.inj h0
    refine retq rfl rfl
  replace h0 := cF h0 q26
  refine AC.drawS [0, 1, 2, 3, 4, 5, 6, 7, 8] [] [9, 10, 11] (fun L => [.fix 24 [.d (dfl a0.X), .d (dfl a0.Y)], .fix 24 [.d (dfl a1.X), .d (dfl a1.Y)], .fix 24 [.d (dfl a2.X), .d (dfl a2.Y)], .fix 24 [.d (dfl a3.X), .d (dfl a3.Y)], .fix 32 [.d (dbool y12.2.1.X.N.Neg), .d (eS2 y12.2.1.X.N.L), .d (di .i64 y12.2.1.X.E), .d (dbool y12.2.1.Y.N.Neg), .d (eS2 y12.2.1.Y.N.L), .d (di .i64 y12.2.1.Y.E)], .fix 32 [.d (dbool y12.2.2.1.X.N.Neg), .d (eS2 y12.2.2.1.X.N.L), .d (di .i64 y12.2.2.1.X.E), .d (dbool y12.2.2.1.Y.N.Neg), .d (eS2 y12.2.2.1.Y.N.L), .d (di .i64 y12.2.2.1.Y.E)], .fix 37 [.d (dbool y24.1.N.N.Neg), .d (eS2 y24.1.N.N.L), .d (di .i64 y24.1.N.E), .d (dbool y24.1.D.N.Neg), .d (eS2 y24.1.D.N.L), .d (di .i64 y24.1.D.E)], .fix 37 [.d (dbool y24.2.1.N.N.Neg), .d (eS2 y24.2.1.N.N.L), .d (di .i64 y24.2.1.N.E), .d (dbool y24.2.1.D.N.Neg), .d (eS2 y24.2.1.D.N.L), .d (di .i64 y24.2.1.D.E)]]) [] mixed (by kernel_rfl) (fun _ _ _ => rfl) rfl ?_
  refine AS.op [15] [] [] [] rfl rfl rfl (by kernel_rfl) (by kernel_rfl) rfl rfl (fun _ _ _ h => AOp.move rfl rfl (ltb rfl) rfl h) (by kernel_rfl) ?_
  refine AS.op [55] [] [] [] rfl rfl rfl (by kernel_rfl) (by kernel_rfl) rfl rfl (fun _ _ _ h => AOp.move rfl rfl (ltb rfl) rfl h) (by kernel_rfl) ?_
  refine AS.opN [4, 56] [] [] [] rfl rfl rfl rfl rfl q26 (by kernel_rfl) (by kernel_rfl) rfl rfl (ltb rfl) (by kernel_rfl) ?_
  refine AS.opN [5, 56] [] [] [] rfl rfl rfl rfl rfl q26 (by kernel_rfl) (by kernel_rfl) rfl rfl (ltb rfl) (by kernel_rfl) ?_
  refine AS.opN [6, 56] [] [] [] rfl rfl rfl rfl rfl q26 (by kernel_rfl) (by kernel_rfl) rfl rfl (ltb rfl) (by kernel_rfl) ?_
  refine AS.opN [7, 56] [] [] [] rfl rfl rfl rfl rfl q26 (by kernel_rfl) (by kernel_rfl) rfl rfl (ltb rfl) (by kernel_rfl) ?_
  refine AS.opN [56, 57, 58, 59, 60] [] [] [] rfl rfl rfl rfl rfl q26 (by kernel_rfl) (by kernel_rfl) rfl rfl (ltb rfl) (by kernel_rfl) ?_
  refine AS.opN [13, 56] [] [] [] rfl rfl rfl rfl rfl q26 (by kernel_rfl) (by kernel_rfl) rfl rfl (ltb rfl) (by kernel_rfl) ?_
  refine AS.opN [14, 56] [] [] [] rfl rfl rfl rfl rfl q26 (by kernel_rfl) (by kernel_rfl) rfl rfl (ltb rfl) (by kernel_rfl) ?_
  refine AS.done ?_
  refine AO.objs (obs' := [.fix 24 [.d (dfl a0.X), .d (dfl a0.Y)], .fix 24 [.d (dfl a1.X), .d (dfl a1.Y)], .fix 24 [.d (dfl a2.X), .d (dfl a2.Y)], .fix 24 [.d (dfl a3.X), .d (dfl a3.Y)], .fix 32 [.d (dbool y12.2.1.X.N.Neg), .d (eS2 y12.2.1.X.N.L), .d (di .i64 y12.2.1.X.E), .d (dbool y12.2.1.Y.N.Neg), .d (eS2 y12.2.1.Y.N.L), .d (di .i64 y12.2.1.Y.E)], .fix 32 [.d (dbool y12.2.2.1.X.N.Neg), .d (eS2 y12.2.2.1.X.N.L), .d (di .i64 y12.2.2.1.X.E), .d (dbool y12.2.2.1.Y.N.Neg), .d (eS2 y12.2.2.1.Y.N.L), .d (di .i64 y12.2.2.1.Y.E)], .fix 37 [.d (dbool y24.1.N.N.Neg), .d (eS2 y24.1.N.N.L), .d (di .i64 y24.1.N.E), .d (dbool y24.1.D.N.Neg), .d (eS2 y24.1.D.N.L), .d (di .i64 y24.1.D.E)], .fix 37 [.d (dbool y24.2.1.N.N.Neg), .d (eS2 y24.2.1.N.N.L), .d (di .i64 y24.2.1.N.E), .d (dbool y24.2.1.D.N.Neg), .d (eS2 y24.2.1.D.N.L), .d (di .i64 y24.2.1.D.E)]]) rfl ?_
  refine AO.guardN rfl rfl rfl (ltb rfl) rfl q26 ?_
  refine AO.op rfl (AOp.pickN rfl rfl (ltb rfl) rfl q26 rfl ?_)
  refine AO.op rfl (AOp.assign rfl rfl (ltb rfl) rfl ?_)
  refine AO.nil ?_
  change AC _ _ _ _
  refine AC.ret ?_
  change RetQ _ _ _ .ret _
  obtain rfl := Option.some.inj h0
  refine retq rfl rfl

end Go.Proofs.Ytohgipjhcgblfaa.Wk
