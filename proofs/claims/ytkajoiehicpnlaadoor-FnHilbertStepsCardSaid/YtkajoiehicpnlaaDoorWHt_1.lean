/- Proved: more of it. -/
import Derived.Test.YtkajoiehicpnlaaDoorWHt_0
namespace Go.Proofs.YtkajoiehicpnlaaDoor.Wk
open Go.Vm
set_option linter.unusedVariables false
set_option linter.unusedSimpArgs false
set_option maxRecDepth 100000 in
set_option maxHeartbeats 1000000 in
/-- pub-orthodrome/impl.HCoord -/
theorem w_HCoord_c2 (F : Nat) (a0 : Int) (a1 : Int) (a2 : Int) (r0 : ((List Int) × Bool)) (h0 : p_HCoord F a0 a1 a2 = some r0) (hp0 : (decide (a0 = (2 : Int))) = false) (hp1 : (decide (a0 = (3 : Int))) = false) (hp2 : (decide (a0 = (4 : Int))) = true) : FnD Tryd.prog 9 [di .i64 a0, di .i64 a1, di .i64 a2] (fun r => r = .tu [eS0 r0.1, dbool r0.2]) := by
  refine FnD.wrap (g := 19) (m := 2) (fun vs w h => idle19 vs w h) (by kernel_rfl) Tryd.func9 rfl Tryd.ntmps9 rfl (leb rfl) fun W ok => ?_
  unfold p_HCoord at h0
  refine AW.seq ?_
  refine AC.region ?_
  refine AO.op rfl (AOp.alloc rfl rfl (ltb rfl) zero25 rfl ?_)
  refine AO.op rfl (AOp.alloc rfl rfl (ltb rfl) zero4 rfl ?_)
  refine AO.nil ?_
  refine ⟨rfl, ?_⟩
  refine AW.defer (caps := [.tmp 6, .tmp 7]) rfl rfl rfl (ltb rfl) rfl rfl rfl rfl (by kernel_rfl) rfl fun df => ?_
  refine AC.seq ?_
  refine AC.seq ?_
  refine AC.region ?_
  refine AO.op rfl (AOp.move rfl rfl (ltb rfl) rfl ?_)
  refine AO.nil ?_
  change AC _ _ _ _
  refine AC.block ?_
  refine AC.seq ?_
  refine AC.region ?_
  refine AO.op rfl (AOp.ieql rfl rfl (ltb rfl) rfl rfl ?_)
  refine AO.op rfl (AOp.assign rfl rfl (ltb rfl) rfl ?_)
  refine AO.nil ?_
  change AC _ _ _ _
  refine AC.cond rfl (fun q1 => ?_) (fun q1 => ?_)
  · exact absurd (hp0.symm.trans q1) (by decide)
  replace h0 := cF h0 q1
  refine AC.seq ?_
  refine AC.region ?_
  refine AO.op rfl (AOp.ieql rfl rfl (ltb rfl) rfl rfl ?_)
  refine AO.op rfl (AOp.assign rfl rfl (ltb rfl) rfl ?_)
  refine AO.nil ?_
  change AC _ _ _ _
  refine AC.cond rfl (fun q102 => ?_) (fun q102 => ?_)
  · exact absurd (hp1.symm.trans q102) (by decide)
  replace h0 := cF h0 q102
  refine AC.seq ?_
  refine AC.region ?_
  refine AO.op rfl (AOp.ieql rfl rfl (ltb rfl) rfl rfl ?_)
  refine AO.op rfl (AOp.assign rfl rfl (ltb rfl) rfl ?_)
  refine AO.nil ?_
  change AC _ _ _ _
  refine AC.cond rfl (fun q420 => ?_) (fun q420 => ?_)
  · replace h0 := cT h0 q420
    refine AC.seq ?_
    refine AC.region ?_
    refine AO.op rfl (AOp.move rfl rfl (ltb rfl) rfl ?_)
    refine AO.op rfl (AOp.inl [2, 6, 7] (by kernel_rfl) Tryd.func14 rfl Tryd.ntmps14 rfl rfl (ltb rfl) rfl (leb rfl) rfl ?_)
    intro fr421
    refine AC.seq ?_
    refine AC.region ?_
    refine AO.op rfl (AOp.alloc rfl rfl (ltb rfl) zero41 rfl ?_)
    refine AO.op rfl (AOp.assign rfl rfl (ltb rfl) rfl ?_)
    refine AO.nil ?_
    change AC _ _ _ _
    refine AC.seq ?_
    refine AC.region ?_
    refine AO.op rfl (AOp.move rfl rfl (ltb rfl) rfl ?_)
    refine AO.op rfl (AOp.build rfl rfl (ltb rfl) zero41 rfl places41 rfl rfl ?_)
    refine AO.op rfl (AOp.alloc rfl rfl (ltb rfl) zero41 rfl ?_)
    refine AO.op rfl (AOp.store rfl rfl rfl rfl size41 rfl rfl rfl (leb rfl) ?_)
    refine AO.nil ?_
    change AC _ _ _ _
    refine AC.seq ?_
    refine AC.seq ?_
    refine AC.region ?_
    refine AO.op rfl (AOp.move rfl rfl (ltb rfl) rfl ?_)
    refine AO.op rfl (AOp.ilss rfl rfl (ltb rfl) rfl rfl ?_)
    refine AO.nil ?_
    change AC _ _ _ _
    refine AC.cond rfl (fun q422 => ?_) (fun q422 => ?_)
    · replace h0 := cT h0 q422
      refine AC.seq ?_
      refine AC.drawS [0, 1, 2] [2] [3] (fun L => [.fix 25 [.d (.v (.slice none 0 0))], .fix 4 [.d (dbool false)], .frame fr421 [(2, .d (di .i64 a2)), (6, .ptr 0 0), (7, .ptr 1 0)], bif L 2 then .fix 41 [.d (di .i64 a1)] else .fix 41 [.d (di .i64 (0 : Int))], .fix 41 [.d (di .i64 a1)]]) [(2, (fun _ => true))] mixed (by kernel_rfl) (fun L L' h => by simp only [h 2 (by decide)]) rfl ?_
      refine AS.op [4] [] [2] [] rfl rfl rfl (by kernel_rfl) (by kernel_rfl) rfl rfl (fun _ _ _ h => AOp.loadN rfl rfl (ltb rfl) rfl agg41 size41 rfl (leb rfl) rfl h) (by kernel_rfl) ?_
      refine AS.op [] [] [] [2] rfl rfl rfl (by kernel_rfl) (by kernel_rfl) rfl rfl (fun _ _ _ h => AOp.loadE rfl rfl (ltb rfl) rfl agg34 (by simp [GlobsE]) h) (by kernel_rfl) ?_
      refine AS.mid0 [2, 9] [] [2] [] rfl rfl rfl rfl (by kernel_rfl) (by kernel_rfl) rfl rfl (fun _ _ _ h => AOp.store rfl rfl rfl rfl size41 rfl rfl rfl (leb rfl) (AO.dropT h)) (by kernel_rfl) rfl ?_
      refine AS.done ?_
      refine AO.objs (obs' := [.fix 25 [.d (.v (.slice none 0 0))], .fix 4 [.d (dbool false)], .frame fr421 [(2, .d (di .i64 a2)), (6, .ptr 0 0), (7, .ptr 1 0)], .fix 41 [.d (di .i64 a1)], .fix 41 [.d (di .i64 a1)]]) rfl ?_
      refine AO.op rfl (AOp.assign rfl rfl (ltb rfl) rfl ?_)
      refine AO.nil ?_
      change AC _ _ _ _
      refine AC.ret ?_
      refine inlret (ob' := [.fix 25 [.d (.v (.slice none 0 0))], .fix 4 [.d (dbool false)], .dead, .fix 41 [.d (di .i64 a1)], .fix 41 [.d (di .i64 a1)]]) (e' := [(2, .d (di .i64 a2)), (6, .ptr 0 0), (7, .ptr 1 0)]) (r := .tu [.ag [.d (di .i64 a1)], .ifc (errT W 0) (.any)]) rfl rfl rfl ?_
      change AO _ _ _ _ _
      refine AO.op rfl (AOp.move rfl rfl (ltb rfl) rfl ?_)
      first | refine AO.op rfl (AOp.extractD rfl rfl (ltb rfl) rfl rfl ?_) | refine AO.op rfl (AOp.extract rfl rfl (ltb rfl) rfl rfl ?_)
      first | refine AO.op rfl (AOp.extractD rfl rfl (ltb rfl) rfl rfl ?_) | refine AO.op rfl (AOp.extract rfl rfl (ltb rfl) rfl rfl ?_)
      refine AO.op rfl (AOp.alloc rfl rfl (ltb rfl) zero41 rfl ?_)
      refine AO.op rfl (AOp.store rfl rfl rfl rfl size41 rfl rfl rfl (leb rfl) ?_)
      refine AO.op rfl (AOp.assign rfl rfl (ltb rfl) rfl ?_)
      refine AO.nil ?_
      change AC _ _ _ _
      refine AC.seq ?_
      refine AC.seq ?_
      refine AC.region ?_
      refine AO.op rfl (AOp.move rfl rfl (ltb rfl) rfl ?_)
      refine AO.op rfl (AOp.ifcNeq rfl rfl (ltb rfl) rfl rfl imeth34 ?_)
      refine AO.nil ?_
      change AC _ _ _ _
      refine AC.condT rfl rfl ?_
      refine AC.seq ?_
      refine AC.region ?_
      refine AO.op rfl (AOp.store rfl rfl rfl rfl size25 rfl rfl rfl (leb rfl) ?_)
      refine AO.op rfl (AOp.store rfl rfl rfl rfl size4 rfl rfl rfl (leb rfl) ?_)
      refine AO.nil ?_
      change AC _ _ _ _
      refine AC.subO 0 rfl (.cons (SVLe.nil 1) .nil) ?_
      refine AC.ret ?_
      change RetQ _ _ _ .ret _
      obtain rfl := Option.some.inj h0
      refine retq rfl rfl
    replace h0 := cF h0 q422
    refine AC.skip ?_
    change AC _ _ _ _
    refine AC.seq ?_
    refine AC.seq ?_
    refine AC.region ?_
    refine AO.op rfl (AOp.move rfl rfl (ltb rfl) rfl ?_)
    obtain ⟨q423, h0⟩ := need_elim h0
    refine AO.op rfl (AOp.imul rfl rfl (ltb rfl) rfl rfl rfl q423.1 q423.2 ?_)
    refine AO.op rfl (AOp.igeq rfl rfl (ltb rfl) rfl rfl ?_)
    refine AO.nil ?_
    change AC _ _ _ _
    refine AC.cond rfl (fun q424 => ?_) (fun q424 => ?_)
    · replace h0 := cT h0 q424
      refine AC.seq ?_
      refine AC.drawS [0, 1, 2] [2] [3] (fun L => [.fix 25 [.d (.v (.slice none 0 0))], .fix 4 [.d (dbool false)], .frame fr421 [(2, .d (di .i64 a2)), (6, .ptr 0 0), (7, .ptr 1 0)], bif L 2 then .fix 41 [.d (di .i64 a1)] else .fix 41 [.d (di .i64 (0 : Int))], .fix 41 [.d (di .i64 a1)]]) [(2, (fun _ => true))] mixed (by kernel_rfl) (fun L L' h => by simp only [h 2 (by decide)]) rfl ?_
      refine AS.op [4] [] [2] [] rfl rfl rfl (by kernel_rfl) (by kernel_rfl) rfl rfl (fun _ _ _ h => AOp.loadN rfl rfl (ltb rfl) rfl agg41 size41 rfl (leb rfl) rfl h) (by kernel_rfl) ?_
      refine AS.op [] [] [] [2] rfl rfl rfl (by kernel_rfl) (by kernel_rfl) rfl rfl (fun _ _ _ h => AOp.loadE rfl rfl (ltb rfl) rfl agg34 (by simp [GlobsE]) h) (by kernel_rfl) ?_
      refine AS.mid0 [2, 14] [] [2] [] rfl rfl rfl rfl (by kernel_rfl) (by kernel_rfl) rfl rfl (fun _ _ _ h => AOp.store rfl rfl rfl rfl size41 rfl rfl rfl (leb rfl) (AO.dropT h)) (by kernel_rfl) rfl ?_
      refine AS.done ?_
      refine AO.objs (obs' := [.fix 25 [.d (.v (.slice none 0 0))], .fix 4 [.d (dbool false)], .frame fr421 [(2, .d (di .i64 a2)), (6, .ptr 0 0), (7, .ptr 1 0)], .fix 41 [.d (di .i64 a1)], .fix 41 [.d (di .i64 a1)]]) rfl ?_
      refine AO.op rfl (AOp.assign rfl rfl (ltb rfl) rfl ?_)
      refine AO.nil ?_
      change AC _ _ _ _
      refine AC.ret ?_
      refine inlret (ob' := [.fix 25 [.d (.v (.slice none 0 0))], .fix 4 [.d (dbool false)], .dead, .fix 41 [.d (di .i64 a1)], .fix 41 [.d (di .i64 a1)]]) (e' := [(2, .d (di .i64 a2)), (6, .ptr 0 0), (7, .ptr 1 0)]) (r := .tu [.ag [.d (di .i64 a1)], .ifc (errT W 1) (.any)]) rfl rfl rfl ?_
      change AO _ _ _ _ _
      refine AO.op rfl (AOp.move rfl rfl (ltb rfl) rfl ?_)
      first | refine AO.op rfl (AOp.extractD rfl rfl (ltb rfl) rfl rfl ?_) | refine AO.op rfl (AOp.extract rfl rfl (ltb rfl) rfl rfl ?_)
      first | refine AO.op rfl (AOp.extractD rfl rfl (ltb rfl) rfl rfl ?_) | refine AO.op rfl (AOp.extract rfl rfl (ltb rfl) rfl rfl ?_)
      refine AO.op rfl (AOp.alloc rfl rfl (ltb rfl) zero41 rfl ?_)
      refine AO.op rfl (AOp.store rfl rfl rfl rfl size41 rfl rfl rfl (leb rfl) ?_)
      refine AO.op rfl (AOp.assign rfl rfl (ltb rfl) rfl ?_)
      refine AO.nil ?_
      change AC _ _ _ _
      refine AC.seq ?_
      refine AC.seq ?_
      refine AC.region ?_
      refine AO.op rfl (AOp.move rfl rfl (ltb rfl) rfl ?_)
      refine AO.op rfl (AOp.ifcNeq rfl rfl (ltb rfl) rfl rfl imeth34 ?_)
      refine AO.nil ?_
      change AC _ _ _ _
      refine AC.condT rfl rfl ?_
      refine AC.seq ?_
      refine AC.region ?_
      refine AO.op rfl (AOp.store rfl rfl rfl rfl size25 rfl rfl rfl (leb rfl) ?_)
      refine AO.op rfl (AOp.store rfl rfl rfl rfl size4 rfl rfl rfl (leb rfl) ?_)
      refine AO.nil ?_
      change AC _ _ _ _
      refine AC.subO 0 rfl (.cons (SVLe.nil 1) .nil) ?_
      refine AC.ret ?_
      change RetQ _ _ _ .ret _
      obtain rfl := Option.some.inj h0
      refine retq rfl rfl
    replace h0 := cF h0 q424
    refine AC.skip ?_
    change AC _ _ _ _
    refine AC.seq ?_
    refine AC.region ?_
    refine AO.op rfl (AOp.loadN rfl rfl (ltb rfl) rfl agg41 size41 rfl (leb rfl) rfl ?_)
    refine AO.op rfl (AOp.store rfl rfl rfl rfl size41 rfl rfl rfl (leb rfl) ?_)
    refine AO.op rfl (AOp.assign rfl rfl (ltb rfl) rfl ?_)
    refine AO.nil ?_
    change AC _ _ _ _
    refine AC.ret ?_
    refine inlret (ob' := [.fix 25 [.d (.v (.slice none 0 0))], .fix 4 [.d (dbool false)], .dead, .fix 41 [.d (di .i64 a1)], .fix 41 [.d (di .i64 a1)]]) (e' := [(2, .d (di .i64 a2)), (6, .ptr 0 0), (7, .ptr 1 0)]) (r := .tu [.ag [.d (di .i64 a1)], .d (.v (.nilIface))]) rfl rfl rfl ?_
    change AO _ _ _ _ _
    refine AO.op rfl (AOp.move rfl rfl (ltb rfl) rfl ?_)
    first | refine AO.op rfl (AOp.extractD rfl rfl (ltb rfl) rfl rfl ?_) | refine AO.op rfl (AOp.extract rfl rfl (ltb rfl) rfl rfl ?_)
    first | refine AO.op rfl (AOp.extractD rfl rfl (ltb rfl) rfl rfl ?_) | refine AO.op rfl (AOp.extract rfl rfl (ltb rfl) rfl rfl ?_)
    refine AO.op rfl (AOp.alloc rfl rfl (ltb rfl) zero41 rfl ?_)
    refine AO.op rfl (AOp.store rfl rfl rfl rfl size41 rfl rfl rfl (leb rfl) ?_)
    refine AO.op rfl (AOp.assign rfl rfl (ltb rfl) rfl ?_)
    refine AO.nil ?_
    change AC _ _ _ _
    refine AC.seq ?_
    refine AC.seq ?_
    refine AC.region ?_
    refine AO.op rfl (AOp.move rfl rfl (ltb rfl) rfl ?_)
    refine AO.op rfl (AOp.nilNeq rfl rfl (ltb rfl) rfl imeth34 ?_)
    refine AO.nil ?_
    change AC _ _ _ _
    refine AC.condF rfl rfl ?_
    refine AC.skip ?_
    change AC _ _ _ _
    refine AC.seq ?_
    refine AC.region ?_
    refine AO.op rfl (AOp.loadN rfl rfl (ltb rfl) rfl agg41 size41 rfl (leb rfl) rfl ?_)
    refine AO.op rfl (AOp.move rfl rfl (ltb rfl) rfl ?_)
    refine AO.op rfl (AOp.inl [6, 7] (by kernel_rfl) Tryd.func22 rfl Tryd.ntmps22 rfl rfl (ltb rfl) rfl (leb rfl) rfl ?_)
    intro fr425
    refine AC.seq ?_
    refine AC.region ?_
    refine AO.op rfl (AOp.box rfl rfl (ltb rfl) rfl rfl ?_)
    refine AO.op rfl (AOp.assign rfl rfl (ltb rfl) rfl ?_)
    refine AO.nil ?_
    change AC _ _ _ _
    refine AC.seq ?_
    refine AC.seq ?_
    refine AC.region ?_
    refine AO.op rfl (AOp.move rfl rfl (ltb rfl) rfl ?_)
    refine AO.op rfl (AOp.nilEql (f := eS0) (x0 := none) Tryd.underlying25 rfl rfl (ltb rfl) rfl (neO_cons (fun _ _ => ⟨_, _, _, rfl⟩) rfl) ?_)
    refine AO.nil ?_
    change AC _ _ _ _
    refine AC.condT rfl rfl ?_
    refine AC.region ?_
    obtain ⟨q426, h0⟩ := need_elim h0
    refine AO.op rfl (AOp.makeL (f := fun z => SV.d (keS0 z)) (z0 := (0 : Int)) rfl rfl (ltb rfl) rfl rfl el25 info3 rfl rfl (by decide) q426.1 q426.2 rfl ?_)
    refine AO.op rfl (AOp.assign rfl rfl (ltb rfl) rfl ?_)
    refine AO.nil ?_
    change AC _ _ _ _
    refine AC.seq ?_
    refine AC.region ?_
    refine AO.op rfl (AOp.assign rfl rfl (ltb rfl) rfl ?_)
    refine AO.nil ?_
    change AC _ _ _ _
    refine AC.seq ?_
    refine AC.seq ?_
    refine AC.region ?_
    refine AO.op rfl (AOp.assign rfl rfl (ltb rfl) rfl ?_)
    refine AO.nil ?_
    change AC _ _ _ _
    obtain ⟨o427, l428, h0⟩ := bind_elim h0
    refine AC.joinE (V := (List Int)) [1] [] 9 (fun g429 => []) (fun g429 => [.fix 25 [.d (.v (.slice none 0 0))], .fix 4 [.d (dbool false)], .dead, .fix 41 [.d (di .i64 a1)], .fix 41 [.d (di .i64 a1)], .fix 41 [.d (di .i64 a1)], .frame fr425 [(6, .ptr 0 0), (7, .ptr 1 0)], .fix 41 [.d (di .i64 a1)], .fix 3 (List.map sS0 g429)]) (fun g429 => p_HCoord_k8 g429 = some r0) rfl ?_ ?_
    · refine AC.block ?_
      refine AC.loopP (V := (Int × Int × (List Int))) (p_HCoord_l9 a1 F) o427 [1, 3, 7] [2, 8] 9 (fun g431 => [(2, .d (di .i64 g431.1)), (8, .d (di .i64 g431.2.1))]) (fun g431 => [.fix 25 [.d (.v (.slice none 0 0))], .fix 4 [.d (dbool false)], .dead, .fix 41 [.d (di .i64 a1)], .fix 41 [.d (di .i64 a1)], .fix 41 [.d (di .i64 a1)], .frame fr425 [(6, .ptr 0 0), (7, .ptr 1 0)], .fix 41 [.d (di .i64 a1)], .fix 3 (List.map sS0 g431.2.2)]) F (a2, (0 : Int), (List.replicate ((4 : Int)).toNat (0 : Int))) l428 rfl rfl (LeL.refl _) rfl (okU_mk rfl (okU_cons rfl (okU_cons rfl (okU_cons rfl (okU_cons rfl (okU_cons rfl (okU_cons rfl (okU_cons rfl (okU_cons rfl (okU_cons (okU_fixl (fun _ => rfl)) okU_nil)))))))))) ?_
      intro n433 g431 h1
      unfold p_HCoord_l9 at h1
      refine AC.seq ?_
      refine AC.seq ?_
      refine AC.region ?_
      refine AO.op rfl (AOp.move rfl rfl (ltb rfl) rfl ?_)
      refine AO.op rfl (AOp.fieldAddr rfl rfl (ltb rfl) rfl fo41_0 ?_)
      refine AO.op rfl (AOp.load1 rfl rfl (ltb rfl) rfl agg3 rfl rfl ?_)
      refine AO.op rfl (AOp.ilss rfl rfl (ltb rfl) rfl rfl ?_)
      refine AO.nil ?_
      change AC _ _ _ _
      refine AC.cond rfl (fun q434 => ?_) (fun q434 => ?_)
      · replace h1 := cT h1 q434
        refine AC.skip ?_
        change AC _ _ _ _
        refine AC.seq ?_
        refine AC.block ?_
        refine AC.seq ?_
        refine AC.region ?_
        refine AO.op rfl (AOp.move rfl rfl (ltb rfl) rfl ?_)
        refine AO.op rfl (AOp.move rfl rfl (ltb rfl) rfl ?_)
        obtain ⟨q435, h1⟩ := need_elim h1
        refine AO.op rfl (AOp.ishl' rfl rfl (ltb rfl) rfl rfl q435 ?_)
        obtain ⟨q436, h1⟩ := need_elim h1
        refine AO.op rfl (AOp.isub rfl rfl (ltb rfl) rfl rfl rfl q436.1 q436.2 ?_)
        refine AO.op rfl (AOp.ibits (by simp) rfl rfl (ltb rfl) rfl rfl rfl ?_)
        refine AO.op rfl (AOp.assign rfl rfl (ltb rfl) rfl ?_)
        refine AO.nil ?_
        change AC _ _ _ _
        refine AC.seq ?_
        refine AC.draw 5 mixed (by kernel_rfl) ?_
        refine AD.op [3] rfl (by kernel_rfl) rfl rfl (fun _ _ h => AOp.loadN rfl rfl (ltb rfl) rfl agg41 size41 rfl (leb rfl) rfl h) ?_
        refine AD.op [8] rfl (by kernel_rfl) rfl rfl (fun _ _ h => AOp.move rfl rfl (ltb rfl) rfl h) ?_
        refine AD.op [1] rfl (by kernel_rfl) rfl rfl (fun _ _ h => AOp.move rfl rfl (ltb rfl) rfl h) ?_
        refine AD.op [32] rfl (by kernel_rfl) rfl rfl (fun _ _ h => AOp.sliceFull rfl rfl (ltb rfl) rfl el25 h) ?_
        refine AD.op [9] rfl (by kernel_rfl) rfl rfl (fun _ _ h => AOp.move rfl rfl (ltb rfl) rfl h) ?_
        refine AD.done ?_
        refine AO.op rfl (AOp.inl [1, 2, 3, 7, 8, 9] (by kernel_rfl) Tryd.func25 rfl Tryd.ntmps25 rfl rfl (ltb rfl) rfl (leb rfl) rfl ?_)
        intro fr437
        refine AC.seq ?_
        refine AC.region ?_
        refine AO.op rfl (AOp.box rfl rfl (ltb rfl) rfl rfl ?_)
        refine AO.nil ?_
        change AC _ _ _ _
        refine AC.seq ?_
        refine AC.region ?_
        refine AO.op rfl (AOp.move rfl rfl (ltb rfl) rfl ?_)
        refine AO.nil ?_
        change AC _ _ _ _
        refine AC.block ?_
        refine AC.seq ?_
        refine AC.region ?_
        refine AO.op rfl (AOp.ieql rfl rfl (ltb rfl) rfl rfl ?_)
        refine AO.op rfl (AOp.assign rfl rfl (ltb rfl) rfl ?_)
        refine AO.nil ?_
        change AC _ _ _ _
        refine AC.cond rfl (fun q438 => ?_) (fun q438 => ?_)
        · replace h1 := cT h1 q438
          refine AC.region ?_
          refine AO.op rfl (AOp.move rfl rfl (ltb rfl) rfl ?_)
          refine AO.op rfl (AOp.move rfl rfl (ltb rfl) rfl ?_)
          refine AO.op rfl (AOp.move rfl rfl (ltb rfl) rfl ?_)
          refine AO.op rfl (AOp.build rfl rfl (ltb rfl) zero50 rfl places50 rfl rfl ?_)
          refine AO.op rfl (AOp.build rfl rfl (ltb rfl) zero50 rfl places50 rfl rfl ?_)
          refine AO.op rfl (AOp.inl [] (by kernel_rfl) Tryd.func28 rfl Tryd.ntmps28 rfl rfl (ltb rfl) rfl (leb rfl) rfl ?_)
          intro fr439
          refine AC.seq ?_
          refine AC.region ?_
          refine AO.op rfl (AOp.box rfl rfl (ltb rfl) rfl rfl ?_)
          refine AO.op rfl (AOp.box rfl rfl (ltb rfl) rfl rfl ?_)
          refine AO.nil ?_
          change AC _ _ _ _
          refine AC.seq ?_
          refine AC.region ?_
          refine AO.op rfl (AOp.move rfl rfl (ltb rfl) rfl ?_)
          refine AO.nil ?_
          change AC _ _ _ _
          refine AC.condT rfl rfl ?_
          refine AC.seq ?_
          refine AC.region ?_
          refine AO.op rfl (AOp.loadN rfl rfl (ltb rfl) rfl agg50 size50 rfl (leb rfl) rfl ?_)
          refine AO.op rfl (AOp.makeIfc rfl rfl (ltb rfl) rfl conc50 ?_)
          refine AO.op rfl (AOp.move rfl rfl (ltb rfl) rfl ?_)
          refine AO.op rfl (AOp.move rfl rfl (ltb rfl) rfl ?_)
          refine AO.op rfl (AOp.inlE [1, 2, 8] (EntersS.meth (by kernel_rfl) rfl rfl rfl meth50_pub_orthodrome_pub_gonum_spatial_curve_do rfl rfl) Tryd.func26 rfl Tryd.ntmps26 rfl (ltb rfl) (leb rfl) rfl ?_)
          intro fr440
          refine AC.seq ?_
          refine AC.region ?_
          refine AO.op rfl (AOp.box rfl rfl (ltb rfl) rfl rfl ?_)
          refine AO.nil ?_
          change AC _ _ _ _
          obtain ⟨q441, h1⟩ := need_elim h1
          obtain ⟨x442, q443, h1⟩ := idx_elim h1
          obtain ⟨q444, h1⟩ := need_elim h1
          obtain ⟨x445, q446, h1⟩ := idx_elim h1
          obtain ⟨q447, h1⟩ := need_elim h1
          obtain ⟨q448, h1⟩ := need_elim h1
          refine AC.drawS [0, 1, 2, 3, 4, 5, 6, 7, 8, 9, 10, 11, 12, 13, 14, 15, 16, 17] [17] [18, 19] (fun L => [.fix 25 [.d (.v (.slice none 0 0))], .fix 4 [.d (dbool false)], .dead, .fix 41 [.d (di .i64 a1)], .fix 41 [.d (di .i64 a1)], .fix 41 [.d (di .i64 a1)], .frame fr425 [(6, .ptr 0 0), (7, .ptr 1 0)], .fix 41 [.d (di .i64 a1)], bif L 17 then .fix 3 (List.map sS0 (g431.2.2.set ((0 : Int)).toNat x442)) else .fix 3 (List.map sS0 g431.2.2), .frame fr437 [(1, .sl 8 1 0 (((4 : Int)).toNat) (((4 : Int)).toNat)), (2, .d (di .i64 g431.1)), (3, .ptr 7 0), (7, .d (di .i64 (4 : Int))), (8, .d (di .i64 g431.2.1)), (9, .d (di .i64 (m4 g431.1)))], .fix 41 [.d (di .i64 a1)], .frame fr439 [], .fix 50 [.d (di .i64 (1 : Int)), .d (di .i64 (3 : Int))], .fix 50 [.d (di .i64 (0 : Int)), .d (di .i64 (3 : Int))], .frame fr440 [(1, .d (di .i64 g431.2.1)), (2, .sl 8 1 0 (((4 : Int)).toNat) (((4 : Int)).toNat)), (8, .ptr 12 0)], .fix 50 [.d (di .i64 (0 : Int)), .d (di .i64 (3 : Int))]]) [(17, (fun _ => true))] mixed (by kernel_rfl) (fun L L' h => by simp only [h 17 (by decide)]) rfl ?_
          refine AS.op [2] [] [17] [] rfl rfl rfl (by kernel_rfl) (by kernel_rfl) rfl rfl (fun _ _ _ h => AOp.move rfl rfl (ltb rfl) rfl h) (by kernel_rfl) ?_
          refine AS.op [3] [] [17] [] rfl rfl rfl (by kernel_rfl) (by kernel_rfl) rfl rfl (fun _ _ _ h => AOp.fieldAddr rfl rfl (ltb rfl) rfl fo50_0 h) (by kernel_rfl) ?_
          refine AS.op [7] [] [17] [] rfl rfl rfl (by kernel_rfl) (by kernel_rfl) rfl rfl (fun _ _ _ h => AOp.load1 rfl rfl (ltb rfl) rfl agg3 rfl rfl h) (by kernel_rfl) ?_
          refine AS.op [2] [] [] [17] rfl rfl rfl (by kernel_rfl) (by kernel_rfl) rfl rfl (fun _ _ _ h => AOp.move rfl rfl (ltb rfl) rfl h) (by kernel_rfl) ?_
          refine AS.op [3] [] [] [17] rfl rfl rfl (by kernel_rfl) (by kernel_rfl) rfl rfl (fun _ _ _ h => AOp.fieldAddr rfl rfl (ltb rfl) rfl fo50_1 h) (by kernel_rfl) ?_
          refine AS.op [10] [] [] [17] rfl rfl rfl (by kernel_rfl) (by kernel_rfl) rfl rfl (fun _ _ _ h => AOp.load1 rfl rfl (ltb rfl) rfl agg3 rfl rfl h) (by kernel_rfl) ?_
          refine AS.op [2] [] [17] [] rfl rfl rfl (by kernel_rfl) (by kernel_rfl) rfl rfl (fun _ _ _ h => AOp.move rfl rfl (ltb rfl) rfl h) (by kernel_rfl) ?_
          refine AS.op [3] [] [17] [] rfl rfl rfl (by kernel_rfl) (by kernel_rfl) rfl rfl (fun _ _ _ h => AOp.fieldAddr rfl rfl (ltb rfl) rfl fo50_1 h) (by kernel_rfl) ?_
          refine AS.op [13] [] [17] [] rfl rfl rfl (by kernel_rfl) (by kernel_rfl) rfl rfl (fun _ _ _ h => AOp.load1 rfl rfl (ltb rfl) rfl agg3 rfl rfl h) (by kernel_rfl) ?_
          refine AS.op [12, 14] [] [17] [] rfl rfl rfl (by kernel_rfl) (by kernel_rfl) rfl rfl (fun _ _ _ h => AOp.indexSl rfl rfl (ltb rfl) rfl rfl el25 q441.1 q441.2 h) (by kernel_rfl) ?_
          refine AS.op [15] [] [17] [] rfl rfl rfl (by kernel_rfl) (by kernel_rfl) rfl rfl (fun _ _ _ h => AOp.load1 rfl rfl (ltb rfl) rfl agg3 rfl (atO q443.2) h) (by kernel_rfl) ?_
          refine AS.op [2] [] [17] [] rfl rfl rfl (by kernel_rfl) (by kernel_rfl) rfl rfl (fun _ _ _ h => AOp.move rfl rfl (ltb rfl) rfl h) (by kernel_rfl) ?_
          refine AS.op [3] [] [17] [] rfl rfl rfl (by kernel_rfl) (by kernel_rfl) rfl rfl (fun _ _ _ h => AOp.fieldAddr rfl rfl (ltb rfl) rfl fo50_0 h) (by kernel_rfl) ?_
          refine AS.op [18] [] [17] [] rfl rfl rfl (by kernel_rfl) (by kernel_rfl) rfl rfl (fun _ _ _ h => AOp.load1 rfl rfl (ltb rfl) rfl agg3 rfl rfl h) (by kernel_rfl) ?_
          refine AS.op [17, 19] [] [17] [] rfl rfl rfl (by kernel_rfl) (by kernel_rfl) rfl rfl (fun _ _ _ h => AOp.indexSl rfl rfl (ltb rfl) rfl rfl el25 q444.1 q444.2 h) (by kernel_rfl) ?_
          refine AS.op [20] [] [17] [] rfl rfl rfl (by kernel_rfl) (by kernel_rfl) rfl rfl (fun _ _ _ h => AOp.load1 rfl rfl (ltb rfl) rfl agg3 rfl (atO q446.2) h) (by kernel_rfl) ?_
          refine AS.op [6, 8] [] [17] [] rfl rfl rfl (by kernel_rfl) (by kernel_rfl) rfl rfl (fun _ _ _ h => AOp.indexSl rfl rfl (ltb rfl) rfl rfl el25 q447.1 q447.2 h) (by kernel_rfl) ?_
          refine AS.mid0 [16, 22] [] [17] [] rfl rfl rfl rfl (by kernel_rfl) (by kernel_rfl) rfl rfl (fun _ _ _ h => AOp.storeL (f := fun z => SV.d (keS0 z)) (l := g431.2.2) (i := ((0 : Int)).toNat) (v := x442) rfl rfl rfl rfl size3 rfl rfl rfl q448 (AO.dropT h)) (by kernel_rfl) rfl ?_
          refine AS.done ?_
          refine AO.objs (obs' := [.fix 25 [.d (.v (.slice none 0 0))], .fix 4 [.d (dbool false)], .dead, .fix 41 [.d (di .i64 a1)], .fix 41 [.d (di .i64 a1)], .fix 41 [.d (di .i64 a1)], .frame fr425 [(6, .ptr 0 0), (7, .ptr 1 0)], .fix 41 [.d (di .i64 a1)], .fix 3 (List.map sS0 (g431.2.2.set ((0 : Int)).toNat x442)), .frame fr437 [(1, .sl 8 1 0 (((4 : Int)).toNat) (((4 : Int)).toNat)), (2, .d (di .i64 g431.1)), (3, .ptr 7 0), (7, .d (di .i64 (4 : Int))), (8, .d (di .i64 g431.2.1)), (9, .d (di .i64 (m4 g431.1)))], .fix 41 [.d (di .i64 a1)], .frame fr439 [], .fix 50 [.d (di .i64 (1 : Int)), .d (di .i64 (3 : Int))], .fix 50 [.d (di .i64 (0 : Int)), .d (di .i64 (3 : Int))], .frame fr440 [(1, .d (di .i64 g431.2.1)), (2, .sl 8 1 0 (((4 : Int)).toNat) (((4 : Int)).toNat)), (8, .ptr 12 0)], .fix 50 [.d (di .i64 (0 : Int)), .d (di .i64 (3 : Int))]]) rfl ?_
          obtain ⟨q449, h1⟩ := need_elim h1
          refine AO.op rfl (AOp.indexSl rfl rfl (ltb rfl) rfl rfl el25 q449.1 q449.2 ?_)
          obtain ⟨q450, h1⟩ := need_elim h1
          refine AO.op rfl (AOp.storeL (f := fun z => SV.d (keS0 z)) (l := (g431.2.2.set ((0 : Int)).toNat x442)) (i := ((3 : Int)).toNat) (v := x445) rfl rfl rfl rfl size3 rfl rfl rfl q450 ?_)
          refine AO.nil ?_
          refine inlend (ob' := [.fix 25 [.d (.v (.slice none 0 0))], .fix 4 [.d (dbool false)], .dead, .fix 41 [.d (di .i64 a1)], .fix 41 [.d (di .i64 a1)], .fix 41 [.d (di .i64 a1)], .frame fr425 [(6, .ptr 0 0), (7, .ptr 1 0)], .fix 41 [.d (di .i64 a1)], .fix 3 (List.map sS0 ((g431.2.2.set ((0 : Int)).toNat x442).set ((3 : Int)).toNat x445)), .frame fr437 [(1, .sl 8 1 0 (((4 : Int)).toNat) (((4 : Int)).toNat)), (2, .d (di .i64 g431.1)), (3, .ptr 7 0), (7, .d (di .i64 (4 : Int))), (8, .d (di .i64 g431.2.1)), (9, .d (di .i64 (m4 g431.1)))], .fix 41 [.d (di .i64 a1)], .frame fr439 [], .fix 50 [.d (di .i64 (1 : Int)), .d (di .i64 (3 : Int))], .fix 50 [.d (di .i64 (0 : Int)), .d (di .i64 (3 : Int))], .dead, .fix 50 [.d (di .i64 (0 : Int)), .d (di .i64 (3 : Int))]]) (e' := [(1, .d (di .i64 g431.2.1)), (2, .sl 8 1 0 (((4 : Int)).toNat) (((4 : Int)).toNat)), (8, .ptr 12 0)]) (r := .tu []) rfl rfl rfl ?_
          change AO _ _ _ _ _
          refine AO.nil ?_
          change AC _ _ _ _
          refine AC.region ?_
          refine AO.op rfl (AOp.loadN rfl rfl (ltb rfl) rfl agg50 size50 rfl (leb rfl) rfl ?_)
          refine AO.op rfl (AOp.makeIfc rfl rfl (ltb rfl) rfl conc50 ?_)
          refine AO.op rfl (AOp.move rfl rfl (ltb rfl) rfl ?_)
          refine AO.op rfl (AOp.move rfl rfl (ltb rfl) rfl ?_)
          refine AO.op rfl (AOp.inlE [] (EntersS.meth (by kernel_rfl) rfl rfl rfl meth50_pub_orthodrome_pub_gonum_spatial_curve_do rfl rfl) Tryd.func26 rfl Tryd.ntmps26 rfl (ltb rfl) (leb rfl) rfl ?_)
          intro fr451
          refine AC.seq ?_
          refine AC.region ?_
          refine AO.op rfl (AOp.box rfl rfl (ltb rfl) rfl rfl ?_)
          refine AO.nil ?_
          change AC _ _ _ _
          obtain ⟨q452, h1⟩ := need_elim h1
          obtain ⟨x453, q454, h1⟩ := idx_elim h1
          obtain ⟨q455, h1⟩ := need_elim h1
          obtain ⟨x456, q457, h1⟩ := idx_elim h1
          obtain ⟨q458, h1⟩ := need_elim h1
          obtain ⟨q459, h1⟩ := need_elim h1
          refine AC.drawS [0, 1, 2, 3, 4, 5, 6, 7, 8, 9, 10, 11, 12, 13, 14, 15, 16, 17] [17] [18, 19] (fun L => [.fix 25 [.d (.v (.slice none 0 0))], .fix 4 [.d (dbool false)], .dead, .fix 41 [.d (di .i64 a1)], .fix 41 [.d (di .i64 a1)], .fix 41 [.d (di .i64 a1)], .frame fr425 [(6, .ptr 0 0), (7, .ptr 1 0)], .fix 41 [.d (di .i64 a1)], bif L 17 then .fix 3 (List.map sS0 (((g431.2.2.set ((0 : Int)).toNat x442).set ((3 : Int)).toNat x445).set ((1 : Int)).toNat x453)) else .fix 3 (List.map sS0 ((g431.2.2.set ((0 : Int)).toNat x442).set ((3 : Int)).toNat x445)), .frame fr437 [(1, .sl 8 1 0 (((4 : Int)).toNat) (((4 : Int)).toNat)), (2, .d (di .i64 g431.1)), (3, .ptr 7 0), (7, .d (di .i64 (4 : Int))), (8, .d (di .i64 g431.2.1)), (9, .d (di .i64 (m4 g431.1)))], .fix 41 [.d (di .i64 a1)], .frame fr439 [], .fix 50 [.d (di .i64 (1 : Int)), .d (di .i64 (3 : Int))], .fix 50 [.d (di .i64 (0 : Int)), .d (di .i64 (3 : Int))], .dead, .fix 50 [.d (di .i64 (0 : Int)), .d (di .i64 (3 : Int))], .frame fr451 [], .fix 50 [.d (di .i64 (1 : Int)), .d (di .i64 (3 : Int))]]) [(17, (fun _ => true))] mixed (by kernel_rfl) (fun L L' h => by simp only [h 17 (by decide)]) rfl ?_
          refine AS.op [2] [] [17] [] rfl rfl rfl (by kernel_rfl) (by kernel_rfl) rfl rfl (fun _ _ _ h => AOp.move rfl rfl (ltb rfl) rfl h) (by kernel_rfl) ?_
          refine AS.op [3] [] [17] [] rfl rfl rfl (by kernel_rfl) (by kernel_rfl) rfl rfl (fun _ _ _ h => AOp.fieldAddr rfl rfl (ltb rfl) rfl fo50_0 h) (by kernel_rfl) ?_
          refine AS.op [7] [] [17] [] rfl rfl rfl (by kernel_rfl) (by kernel_rfl) rfl rfl (fun _ _ _ h => AOp.load1 rfl rfl (ltb rfl) rfl agg3 rfl rfl h) (by kernel_rfl) ?_
          refine AS.op [2] [] [] [17] rfl rfl rfl (by kernel_rfl) (by kernel_rfl) rfl rfl (fun _ _ _ h => AOp.move rfl rfl (ltb rfl) rfl h) (by kernel_rfl) ?_
          refine AS.op [3] [] [] [17] rfl rfl rfl (by kernel_rfl) (by kernel_rfl) rfl rfl (fun _ _ _ h => AOp.fieldAddr rfl rfl (ltb rfl) rfl fo50_1 h) (by kernel_rfl) ?_
          refine AS.op [10] [] [] [17] rfl rfl rfl (by kernel_rfl) (by kernel_rfl) rfl rfl (fun _ _ _ h => AOp.load1 rfl rfl (ltb rfl) rfl agg3 rfl rfl h) (by kernel_rfl) ?_
          refine AS.op [2] [] [17] [] rfl rfl rfl (by kernel_rfl) (by kernel_rfl) rfl rfl (fun _ _ _ h => AOp.move rfl rfl (ltb rfl) rfl h) (by kernel_rfl) ?_
          refine AS.op [3] [] [17] [] rfl rfl rfl (by kernel_rfl) (by kernel_rfl) rfl rfl (fun _ _ _ h => AOp.fieldAddr rfl rfl (ltb rfl) rfl fo50_1 h) (by kernel_rfl) ?_
          refine AS.op [13] [] [17] [] rfl rfl rfl (by kernel_rfl) (by kernel_rfl) rfl rfl (fun _ _ _ h => AOp.load1 rfl rfl (ltb rfl) rfl agg3 rfl rfl h) (by kernel_rfl) ?_
          refine AS.op [12, 14] [] [17] [] rfl rfl rfl (by kernel_rfl) (by kernel_rfl) rfl rfl (fun _ _ _ h => AOp.indexSl rfl rfl (ltb rfl) rfl rfl el25 q452.1 q452.2 h) (by kernel_rfl) ?_
          refine AS.op [15] [] [17] [] rfl rfl rfl (by kernel_rfl) (by kernel_rfl) rfl rfl (fun _ _ _ h => AOp.load1 rfl rfl (ltb rfl) rfl agg3 rfl (atO q454.2) h) (by kernel_rfl) ?_
          refine AS.op [2] [] [17] [] rfl rfl rfl (by kernel_rfl) (by kernel_rfl) rfl rfl (fun _ _ _ h => AOp.move rfl rfl (ltb rfl) rfl h) (by kernel_rfl) ?_
          refine AS.op [3] [] [17] [] rfl rfl rfl (by kernel_rfl) (by kernel_rfl) rfl rfl (fun _ _ _ h => AOp.fieldAddr rfl rfl (ltb rfl) rfl fo50_0 h) (by kernel_rfl) ?_
          refine AS.op [18] [] [17] [] rfl rfl rfl (by kernel_rfl) (by kernel_rfl) rfl rfl (fun _ _ _ h => AOp.load1 rfl rfl (ltb rfl) rfl agg3 rfl rfl h) (by kernel_rfl) ?_
          refine AS.op [17, 19] [] [17] [] rfl rfl rfl (by kernel_rfl) (by kernel_rfl) rfl rfl (fun _ _ _ h => AOp.indexSl rfl rfl (ltb rfl) rfl rfl el25 q455.1 q455.2 h) (by kernel_rfl) ?_
          refine AS.op [20] [] [17] [] rfl rfl rfl (by kernel_rfl) (by kernel_rfl) rfl rfl (fun _ _ _ h => AOp.load1 rfl rfl (ltb rfl) rfl agg3 rfl (atO q457.2) h) (by kernel_rfl) ?_
          refine AS.op [6, 8] [] [17] [] rfl rfl rfl (by kernel_rfl) (by kernel_rfl) rfl rfl (fun _ _ _ h => AOp.indexSl rfl rfl (ltb rfl) rfl rfl el25 q458.1 q458.2 h) (by kernel_rfl) ?_
          refine AS.mid0 [16, 22] [] [17] [] rfl rfl rfl rfl (by kernel_rfl) (by kernel_rfl) rfl rfl (fun _ _ _ h => AOp.storeL (f := fun z => SV.d (keS0 z)) (l := ((g431.2.2.set ((0 : Int)).toNat x442).set ((3 : Int)).toNat x445)) (i := ((1 : Int)).toNat) (v := x453) rfl rfl rfl rfl size3 rfl rfl rfl q459 (AO.dropT h)) (by kernel_rfl) rfl ?_
          refine AS.done ?_
          refine AO.objs (obs' := [.fix 25 [.d (.v (.slice none 0 0))], .fix 4 [.d (dbool false)], .dead, .fix 41 [.d (di .i64 a1)], .fix 41 [.d (di .i64 a1)], .fix 41 [.d (di .i64 a1)], .frame fr425 [(6, .ptr 0 0), (7, .ptr 1 0)], .fix 41 [.d (di .i64 a1)], .fix 3 (List.map sS0 (((g431.2.2.set ((0 : Int)).toNat x442).set ((3 : Int)).toNat x445).set ((1 : Int)).toNat x453)), .frame fr437 [(1, .sl 8 1 0 (((4 : Int)).toNat) (((4 : Int)).toNat)), (2, .d (di .i64 g431.1)), (3, .ptr 7 0), (7, .d (di .i64 (4 : Int))), (8, .d (di .i64 g431.2.1)), (9, .d (di .i64 (m4 g431.1)))], .fix 41 [.d (di .i64 a1)], .frame fr439 [], .fix 50 [.d (di .i64 (1 : Int)), .d (di .i64 (3 : Int))], .fix 50 [.d (di .i64 (0 : Int)), .d (di .i64 (3 : Int))], .dead, .fix 50 [.d (di .i64 (0 : Int)), .d (di .i64 (3 : Int))], .frame fr451 [], .fix 50 [.d (di .i64 (1 : Int)), .d (di .i64 (3 : Int))]]) rfl ?_
          obtain ⟨q460, h1⟩ := need_elim h1
          refine AO.op rfl (AOp.indexSl rfl rfl (ltb rfl) rfl rfl el25 q460.1 q460.2 ?_)
          obtain ⟨q461, h1⟩ := need_elim h1
          refine AO.op rfl (AOp.storeL (f := fun z => SV.d (keS0 z)) (l := (((g431.2.2.set ((0 : Int)).toNat x442).set ((3 : Int)).toNat x445).set ((1 : Int)).toNat x453)) (i := ((3 : Int)).toNat) (v := x456) rfl rfl rfl rfl size3 rfl rfl rfl q461 ?_)
          refine AO.nil ?_
          refine inlend (ob' := [.fix 25 [.d (.v (.slice none 0 0))], .fix 4 [.d (dbool false)], .dead, .fix 41 [.d (di .i64 a1)], .fix 41 [.d (di .i64 a1)], .fix 41 [.d (di .i64 a1)], .frame fr425 [(6, .ptr 0 0), (7, .ptr 1 0)], .fix 41 [.d (di .i64 a1)], .fix 3 (List.map sS0 ((((g431.2.2.set ((0 : Int)).toNat x442).set ((3 : Int)).toNat x445).set ((1 : Int)).toNat x453).set ((3 : Int)).toNat x456)), .frame fr437 [(1, .sl 8 1 0 (((4 : Int)).toNat) (((4 : Int)).toNat)), (2, .d (di .i64 g431.1)), (3, .ptr 7 0), (7, .d (di .i64 (4 : Int))), (8, .d (di .i64 g431.2.1)), (9, .d (di .i64 (m4 g431.1)))], .fix 41 [.d (di .i64 a1)], .frame fr439 [], .fix 50 [.d (di .i64 (1 : Int)), .d (di .i64 (3 : Int))], .fix 50 [.d (di .i64 (0 : Int)), .d (di .i64 (3 : Int))], .dead, .fix 50 [.d (di .i64 (0 : Int)), .d (di .i64 (3 : Int))], .dead, .fix 50 [.d (di .i64 (1 : Int)), .d (di .i64 (3 : Int))]]) (e' := []) (r := .tu []) rfl rfl rfl ?_
          change AO _ _ _ _ _
          refine AO.nil ?_
          refine inlend (ob' := [.fix 25 [.d (.v (.slice none 0 0))], .fix 4 [.d (dbool false)], .dead, .fix 41 [.d (di .i64 a1)], .fix 41 [.d (di .i64 a1)], .fix 41 [.d (di .i64 a1)], .frame fr425 [(6, .ptr 0 0), (7, .ptr 1 0)], .fix 41 [.d (di .i64 a1)], .fix 3 (List.map sS0 ((((g431.2.2.set ((0 : Int)).toNat x442).set ((3 : Int)).toNat x445).set ((1 : Int)).toNat x453).set ((3 : Int)).toNat x456)), .frame fr437 [(1, .sl 8 1 0 (((4 : Int)).toNat) (((4 : Int)).toNat)), (2, .d (di .i64 g431.1)), (3, .ptr 7 0), (7, .d (di .i64 (4 : Int))), (8, .d (di .i64 g431.2.1)), (9, .d (di .i64 (m4 g431.1)))], .fix 41 [.d (di .i64 a1)], .dead, .fix 50 [.d (di .i64 (1 : Int)), .d (di .i64 (3 : Int))], .fix 50 [.d (di .i64 (0 : Int)), .d (di .i64 (3 : Int))], .dead, .fix 50 [.d (di .i64 (0 : Int)), .d (di .i64 (3 : Int))], .dead, .fix 50 [.d (di .i64 (1 : Int)), .d (di .i64 (3 : Int))]]) (e' := []) (r := .tu []) rfl rfl rfl ?_
          change AO _ _ _ _ _
          refine AO.nil ?_
          refine inlend (ob' := [.fix 25 [.d (.v (.slice none 0 0))], .fix 4 [.d (dbool false)], .dead, .fix 41 [.d (di .i64 a1)], .fix 41 [.d (di .i64 a1)], .fix 41 [.d (di .i64 a1)], .frame fr425 [(6, .ptr 0 0), (7, .ptr 1 0)], .fix 41 [.d (di .i64 a1)], .fix 3 (List.map sS0 ((((g431.2.2.set ((0 : Int)).toNat x442).set ((3 : Int)).toNat x445).set ((1 : Int)).toNat x453).set ((3 : Int)).toNat x456)), .dead, .fix 41 [.d (di .i64 a1)], .dead, .fix 50 [.d (di .i64 (1 : Int)), .d (di .i64 (3 : Int))], .fix 50 [.d (di .i64 (0 : Int)), .d (di .i64 (3 : Int))], .dead, .fix 50 [.d (di .i64 (0 : Int)), .d (di .i64 (3 : Int))], .dead, .fix 50 [.d (di .i64 (1 : Int)), .d (di .i64 (3 : Int))]]) (e' := [(1, .sl 8 1 0 (((4 : Int)).toNat) (((4 : Int)).toNat)), (2, .d (di .i64 g431.1)), (3, .ptr 7 0), (7, .d (di .i64 (4 : Int))), (8, .d (di .i64 g431.2.1)), (9, .d (di .i64 (m4 g431.1)))]) (r := .tu []) rfl rfl rfl ?_
          change AO _ _ _ _ _
          refine AO.nil ?_
          change AC _ _ _ _
          refine AC.seq ?_
          refine AC.seq ?_
          refine AC.region ?_
          refine AO.op rfl (AOp.move rfl rfl (ltb rfl) rfl ?_)
          refine AO.op rfl (AOp.assign rfl rfl (ltb rfl) rfl ?_)
          refine AO.op rfl (AOp.assign rfl rfl (ltb rfl) rfl ?_)
          refine AO.nil ?_
          change AC _ _ _ _
          obtain ⟨o462, l463, h1⟩ := bind_elim h1
          refine AC.joinE (V := (List Int)) [1, 2, 3, 7, 8] [] 18 (fun g464 => []) (fun g464 => [.fix 25 [.d (.v (.slice none 0 0))], .fix 4 [.d (dbool false)], .dead, .fix 41 [.d (di .i64 a1)], .fix 41 [.d (di .i64 a1)], .fix 41 [.d (di .i64 a1)], .frame fr425 [(6, .ptr 0 0), (7, .ptr 1 0)], .fix 41 [.d (di .i64 a1)], .fix 3 (List.map sS0 g464), .dead, .fix 41 [.d (di .i64 a1)], .dead, .fix 50 [.d (di .i64 (1 : Int)), .d (di .i64 (3 : Int))], .fix 50 [.d (di .i64 (0 : Int)), .d (di .i64 (3 : Int))], .dead, .fix 50 [.d (di .i64 (0 : Int)), .d (di .i64 (3 : Int))], .dead, .fix 50 [.d (di .i64 (1 : Int)), .d (di .i64 (3 : Int))]]) (fun g464 => (p_HCoord_k10 g431 (iter (p_HCoord_l9 a1 F) n433)) g464 = some o427) rfl ?_ ?_
          · refine AC.block ?_
            refine AC.loopP (V := (Int × Int × (List Int))) (p_HCoord_l11 g431) o462 [1, 2, 3, 7, 8] [10, 11] 18 (fun g467 => [(10, .d (di .i64 g467.1)), (11, .d (di .i64 g467.2.1))]) (fun g467 => [.fix 25 [.d (.v (.slice none 0 0))], .fix 4 [.d (dbool false)], .dead, .fix 41 [.d (di .i64 a1)], .fix 41 [.d (di .i64 a1)], .fix 41 [.d (di .i64 a1)], .frame fr425 [(6, .ptr 0 0), (7, .ptr 1 0)], .fix 41 [.d (di .i64 a1)], .fix 3 (List.map sS0 g467.2.2), .dead, .fix 41 [.d (di .i64 a1)], .dead, .fix 50 [.d (di .i64 (1 : Int)), .d (di .i64 (3 : Int))], .fix 50 [.d (di .i64 (0 : Int)), .d (di .i64 (3 : Int))], .dead, .fix 50 [.d (di .i64 (0 : Int)), .d (di .i64 (3 : Int))], .dead, .fix 50 [.d (di .i64 (1 : Int)), .d (di .i64 (3 : Int))]]) F ((0 : Int), (m4 g431.1), ((((g431.2.2.set ((0 : Int)).toNat x442).set ((3 : Int)).toNat x445).set ((1 : Int)).toNat x453).set ((3 : Int)).toNat x456)) l463 rfl rfl (LeL.refl _) rfl (okU_mk rfl (okU_cons rfl (okU_cons rfl (okU_cons rfl (okU_cons rfl (okU_cons rfl (okU_cons rfl (okU_cons rfl (okU_cons rfl (okU_cons (okU_fixl (fun _ => rfl)) (okU_cons rfl (okU_cons rfl (okU_cons rfl (okU_cons rfl (okU_cons rfl (okU_cons rfl (okU_cons rfl (okU_cons rfl (okU_cons rfl okU_nil))))))))))))))))))) ?_
            intro n469 g467 h2
            unfold p_HCoord_l11 at h2
            refine AC.seq ?_
            refine AC.seq ?_
            refine AC.region ?_
            refine AO.op rfl (AOp.move rfl rfl (ltb rfl) rfl ?_)
            refine AO.op rfl (AOp.move rfl rfl (ltb rfl) rfl ?_)
            refine AO.op rfl (AOp.ilss rfl rfl (ltb rfl) rfl rfl ?_)
            refine AO.nil ?_
            change AC _ _ _ _
            refine AC.cond rfl (fun q470 => ?_) (fun q470 => ?_)
            · replace h2 := cT h2 q470
              refine AC.skip ?_
              change AC _ _ _ _
              refine AC.seq ?_
              refine AC.block ?_
              refine AC.seq ?_
              refine AC.draw 13 mixed (by kernel_rfl) ?_
              refine AD.op [1] rfl (by kernel_rfl) rfl rfl (fun _ _ h => AOp.move rfl rfl (ltb rfl) rfl h) ?_
              refine AD.op [10] rfl (by kernel_rfl) rfl rfl (fun _ _ h => AOp.move rfl rfl (ltb rfl) rfl h) ?_
              obtain ⟨q471, h2⟩ := need_elim h2
              refine AD.op [42, 43] rfl (by kernel_rfl) rfl rfl (fun _ _ h => AOp.indexSl rfl rfl (ltb rfl) rfl rfl el25 q471.1 q471.2 h) ?_
              obtain ⟨x472, q473, h2⟩ := idx_elim h2
              refine AD.op [44] rfl (by kernel_rfl) rfl rfl (fun _ _ h => AOp.load1 rfl rfl (ltb rfl) rfl agg3 rfl (atO q473.2) h) ?_
              refine AD.op [11] rfl (by kernel_rfl) rfl rfl (fun _ _ h => AOp.move rfl rfl (ltb rfl) rfl h) ?_
              refine AD.op [11] rfl (by kernel_rfl) rfl rfl (fun _ _ h => AOp.move rfl rfl (ltb rfl) rfl h) ?_
              obtain ⟨q474, h2⟩ := need_elim h2
              refine AD.op [47] rfl (by kernel_rfl) rfl rfl (fun _ _ h => AOp.ishr (n := 1) rfl rfl (ltb rfl) rfl rfl (by decide) q474 rfl h) ?_
              refine AD.op [46, 48] rfl (by kernel_rfl) rfl rfl (fun _ _ h => AOp.ibits (by simp) rfl rfl (ltb rfl) rfl rfl rfl h) ?_
              refine AD.op [49] rfl (by kernel_rfl) rfl rfl (fun _ _ h => AOp.ibits (by simp) rfl rfl (ltb rfl) rfl rfl rfl h) ?_
              refine AD.op [8] rfl (by kernel_rfl) rfl rfl (fun _ _ h => AOp.move rfl rfl (ltb rfl) rfl h) ?_
              obtain ⟨q475, h2⟩ := need_elim h2
              refine AD.op [50, 51] rfl (by kernel_rfl) rfl rfl (fun _ _ h => AOp.ishl' rfl rfl (ltb rfl) rfl rfl q475 h) ?_
              obtain ⟨q476, h2⟩ := need_elim h2
              refine AD.op [45, 52] rfl (by kernel_rfl) rfl rfl (fun _ _ h => AOp.iadd rfl rfl (ltb rfl) rfl rfl rfl q476.1 q476.2 h) ?_
              obtain ⟨q477, h2⟩ := need_elim h2
              refine AD.op [42, 43] rfl (by kernel_rfl) rfl rfl (fun _ _ h => AOp.indexSl rfl rfl (ltb rfl) rfl rfl el25 q477.1 q477.2 h) ?_
              refine AD.done ?_
              obtain ⟨q478, h2⟩ := need_elim h2
              refine AO.op rfl (AOp.storeL (f := fun z => SV.d (keS0 z)) (l := g467.2.2) (i := (g467.1).toNat) (v := (x472 + (IntKind.i64.wrap ((bits .and .i64 (bits .xor .i64 g467.2.1 (g467.2.1 / 2 ^ 1)) (1 : Int)) * 2 ^ (g431.2.1).toNat)))) rfl rfl rfl rfl size3 rfl rfl rfl q478 ?_)
              refine AO.nil ?_
              change AC _ _ _ _
              refine AC.region ?_
              refine AO.op rfl (AOp.move rfl rfl (ltb rfl) rfl ?_)
              obtain ⟨q479, h2⟩ := need_elim h2
              refine AO.op rfl (AOp.ishr (n := 1) rfl rfl (ltb rfl) rfl rfl (by decide) q479 rfl ?_)
              refine AO.op rfl (AOp.assign rfl rfl (ltb rfl) rfl ?_)
              refine AO.nil ?_
              change AC _ _ _ _
              refine AC.region ?_
              refine AO.op rfl (AOp.move rfl rfl (ltb rfl) rfl ?_)
              obtain ⟨q480, h2⟩ := need_elim h2
              refine AO.op rfl (AOp.iadd rfl rfl (ltb rfl) rfl rfl rfl q480.1 q480.2 ?_)
              refine AO.op rfl (AOp.assign rfl rfl (ltb rfl) rfl ?_)
              refine AO.nil ?_
              exact ⟨((g467.1 + (1 : Int)), (g467.2.1 / 2 ^ 1), (g467.2.2.set (g467.1).toNat (x472 + (IntKind.i64.wrap ((bits .and .i64 (bits .xor .i64 g467.2.1 (g467.2.1 / 2 ^ 1)) (1 : Int)) * 2 ^ (g431.2.1).toNat))))), _, rfl, (LeL.refl _), rfl, (okU_mk rfl (okU_cons rfl (okU_cons rfl (okU_cons rfl (okU_cons rfl (okU_cons rfl (okU_cons rfl (okU_cons rfl (okU_cons rfl (okU_cons (okU_fixl (fun _ => rfl)) (okU_cons rfl (okU_cons rfl (okU_cons rfl (okU_cons rfl (okU_cons rfl (okU_cons rfl (okU_cons rfl (okU_cons rfl (okU_cons rfl okU_nil))))))))))))))))))), h2⟩
            replace h2 := cF h2 q470
            refine AC.exit ?_
            obtain rfl := Option.some.inj h2
            exact ⟨g467.2.2, _, rfl, (LeL.refl _), rfl, (okU_mk rfl (okU_cons rfl (okU_cons rfl (okU_cons rfl (okU_cons rfl (okU_cons rfl (okU_cons rfl (okU_cons rfl (okU_cons rfl (okU_cons (okU_fixl (fun _ => rfl)) (okU_cons rfl (okU_cons rfl (okU_cons rfl (okU_cons rfl (okU_cons rfl (okU_cons rfl (okU_cons rfl (okU_cons rfl (okU_cons rfl okU_nil))))))))))))))))))), aftL h1⟩
          intro g464 h1
          unfold p_HCoord_k10 at h1
          change AC _ _ _ _
          refine AC.region ?_
          refine AO.op rfl (AOp.move rfl rfl (ltb rfl) rfl ?_)
          refine AO.op rfl (AOp.move rfl rfl (ltb rfl) rfl ?_)
          obtain ⟨q465, h1⟩ := need_elim h1
          refine AO.op rfl (AOp.ishr' rfl rfl (ltb rfl) rfl rfl q465.1 q465.2 ?_)
          refine AO.op rfl (AOp.assign rfl rfl (ltb rfl) rfl ?_)
          refine AO.nil ?_
          change AC _ _ _ _
          refine AC.region ?_
          refine AO.op rfl (AOp.move rfl rfl (ltb rfl) rfl ?_)
          obtain ⟨q466, h1⟩ := need_elim h1
          refine AO.op rfl (AOp.iadd rfl rfl (ltb rfl) rfl rfl rfl q466.1 q466.2 ?_)
          refine AO.op rfl (AOp.assign rfl rfl (ltb rfl) rfl ?_)
          refine AO.nil ?_
          exact ⟨((g431.1 / 2 ^ ((4 : Int)).toNat), (g431.2.1 + (1 : Int)), g464), _, rfl, (LeL.refl _), rfl, (okU_mk rfl (okU_cons rfl (okU_cons rfl (okU_cons rfl (okU_cons rfl (okU_cons rfl (okU_cons rfl (okU_cons rfl (okU_cons rfl (okU_cons (okU_fixl (fun _ => rfl)) okU_nil)))))))))), h1⟩
        replace h1 := cF h1 q438
        refine AC.joinP (V := Bool) [1, 2, 3, 10] [19] 11 (fun g481 => [(19, .d (dbool g481))]) (fun g481 => [.fix 25 [.d (.v (.slice none 0 0))], .fix 4 [.d (dbool false)], .dead, .fix 41 [.d (di .i64 a1)], .fix 41 [.d (di .i64 a1)], .fix 41 [.d (di .i64 a1)], .frame fr425 [(6, .ptr 0 0), (7, .ptr 1 0)], .fix 41 [.d (di .i64 a1)], .fix 3 (List.map sS0 g431.2.2), .frame fr437 [(1, .sl 8 1 0 (((4 : Int)).toNat) (((4 : Int)).toNat)), (2, .d (di .i64 g431.1)), (3, .ptr 7 0), (7, .d (di .i64 (4 : Int))), (8, .d (di .i64 g431.2.1)), (9, .d (di .i64 (m4 g431.1)))], .fix 41 [.d (di .i64 a1)]]) (fun g481 => (p_HCoord_k12 F g431 (iter (p_HCoord_l9 a1 F) n433)) g481 = some o427) rfl ?_ ?_
        · refine AC.seq ?_
          refine AC.region ?_
          refine AO.op rfl (AOp.ieql rfl rfl (ltb rfl) rfl rfl ?_)
          refine AO.op rfl (AOp.assign rfl rfl (ltb rfl) rfl ?_)
          refine AO.nil ?_
          change AC _ _ _ _
          refine AC.cond rfl (fun q889 => ?_) (fun q889 => ?_)
          · replace h1 := cT h1 q889
            refine AC.skip ?_
            exact ⟨(decide ((m4 g431.1) = (1 : Int))), _, rfl, (LeL.refl _), rfl, (okU_mk rfl (okU_cons rfl (okU_cons rfl (okU_cons rfl (okU_cons rfl (okU_cons rfl (okU_cons rfl (okU_cons rfl (okU_cons rfl (okU_cons (okU_fixl (fun _ => rfl)) (okU_cons rfl (okU_cons rfl okU_nil)))))))))))), h1⟩
          replace h1 := cF h1 q889
          refine AC.region ?_
          refine AO.op rfl (AOp.ieql rfl rfl (ltb rfl) rfl rfl ?_)
          refine AO.op rfl (AOp.assign rfl rfl (ltb rfl) rfl ?_)
          refine AO.nil ?_
          exact ⟨(decide ((m4 g431.1) = (2 : Int))), _, rfl, (LeL.refl _), rfl, (okU_mk rfl (okU_cons rfl (okU_cons rfl (okU_cons rfl (okU_cons rfl (okU_cons rfl (okU_cons rfl (okU_cons rfl (okU_cons rfl (okU_cons (okU_fixl (fun _ => rfl)) (okU_cons rfl (okU_cons rfl okU_nil)))))))))))), h1⟩
        intro g481 h1
        unfold p_HCoord_k12 at h1
        refine AC.cond rfl (fun q482 => ?_) (fun q482 => ?_)
        · replace h1 := cT h1 q482
          refine AC.region ?_
          refine AO.op rfl (AOp.move rfl rfl (ltb rfl) rfl ?_)
          refine AO.op rfl (AOp.move rfl rfl (ltb rfl) rfl ?_)
          refine AO.op rfl (AOp.move rfl rfl (ltb rfl) rfl ?_)
          refine AO.op rfl (AOp.build rfl rfl (ltb rfl) zero50 rfl places50 rfl rfl ?_)
          refine AO.op rfl (AOp.build rfl rfl (ltb rfl) zero50 rfl places50 rfl rfl ?_)
          refine AO.op rfl (AOp.inl [] (by kernel_rfl) Tryd.func28 rfl Tryd.ntmps28 rfl rfl (ltb rfl) rfl (leb rfl) rfl ?_)
          intro fr483
          refine AC.seq ?_
          refine AC.region ?_
          refine AO.op rfl (AOp.box rfl rfl (ltb rfl) rfl rfl ?_)
          refine AO.op rfl (AOp.box rfl rfl (ltb rfl) rfl rfl ?_)
          refine AO.nil ?_
          change AC _ _ _ _
          refine AC.seq ?_
          refine AC.region ?_
          refine AO.op rfl (AOp.move rfl rfl (ltb rfl) rfl ?_)
          refine AO.nil ?_
          change AC _ _ _ _
          refine AC.condT rfl rfl ?_
          refine AC.seq ?_
          refine AC.region ?_
          refine AO.op rfl (AOp.loadN rfl rfl (ltb rfl) rfl agg50 size50 rfl (leb rfl) rfl ?_)
          refine AO.op rfl (AOp.makeIfc rfl rfl (ltb rfl) rfl conc50 ?_)
          refine AO.op rfl (AOp.move rfl rfl (ltb rfl) rfl ?_)
          refine AO.op rfl (AOp.move rfl rfl (ltb rfl) rfl ?_)
          refine AO.op rfl (AOp.inlE [1, 2, 8] (EntersS.meth (by kernel_rfl) rfl rfl rfl meth50_pub_orthodrome_pub_gonum_spatial_curve_do rfl rfl) Tryd.func26 rfl Tryd.ntmps26 rfl (ltb rfl) (leb rfl) rfl ?_)
          intro fr484
          refine AC.seq ?_
          refine AC.region ?_
          refine AO.op rfl (AOp.box rfl rfl (ltb rfl) rfl rfl ?_)
          refine AO.nil ?_
          change AC _ _ _ _
          obtain ⟨q485, h1⟩ := need_elim h1
          obtain ⟨x486, q487, h1⟩ := idx_elim h1
          obtain ⟨q488, h1⟩ := need_elim h1
          obtain ⟨x489, q490, h1⟩ := idx_elim h1
          obtain ⟨q491, h1⟩ := need_elim h1
          obtain ⟨q492, h1⟩ := need_elim h1
          refine AC.drawS [0, 1, 2, 3, 4, 5, 6, 7, 8, 9, 10, 11, 12, 13, 14, 15, 16, 17] [17] [18, 19] (fun L => [.fix 25 [.d (.v (.slice none 0 0))], .fix 4 [.d (dbool false)], .dead, .fix 41 [.d (di .i64 a1)], .fix 41 [.d (di .i64 a1)], .fix 41 [.d (di .i64 a1)], .frame fr425 [(6, .ptr 0 0), (7, .ptr 1 0)], .fix 41 [.d (di .i64 a1)], bif L 17 then .fix 3 (List.map sS0 (g431.2.2.set ((1 : Int)).toNat x486)) else .fix 3 (List.map sS0 g431.2.2), .frame fr437 [(1, .sl 8 1 0 (((4 : Int)).toNat) (((4 : Int)).toNat)), (2, .d (di .i64 g431.1)), (3, .ptr 7 0), (7, .d (di .i64 (4 : Int))), (8, .d (di .i64 g431.2.1)), (9, .d (di .i64 (m4 g431.1)))], .fix 41 [.d (di .i64 a1)], .frame fr483 [], .fix 50 [.d (di .i64 (0 : Int)), .d (di .i64 (3 : Int))], .fix 50 [.d (di .i64 (1 : Int)), .d (di .i64 (3 : Int))], .frame fr484 [(1, .d (di .i64 g431.2.1)), (2, .sl 8 1 0 (((4 : Int)).toNat) (((4 : Int)).toNat)), (8, .ptr 12 0)], .fix 50 [.d (di .i64 (1 : Int)), .d (di .i64 (3 : Int))]]) [(17, (fun _ => true))] mixed (by kernel_rfl) (fun L L' h => by simp only [h 17 (by decide)]) rfl ?_
          refine AS.op [2] [] [17] [] rfl rfl rfl (by kernel_rfl) (by kernel_rfl) rfl rfl (fun _ _ _ h => AOp.move rfl rfl (ltb rfl) rfl h) (by kernel_rfl) ?_
          refine AS.op [3] [] [17] [] rfl rfl rfl (by kernel_rfl) (by kernel_rfl) rfl rfl (fun _ _ _ h => AOp.fieldAddr rfl rfl (ltb rfl) rfl fo50_0 h) (by kernel_rfl) ?_
          refine AS.op [7] [] [17] [] rfl rfl rfl (by kernel_rfl) (by kernel_rfl) rfl rfl (fun _ _ _ h => AOp.load1 rfl rfl (ltb rfl) rfl agg3 rfl rfl h) (by kernel_rfl) ?_
          refine AS.op [2] [] [] [17] rfl rfl rfl (by kernel_rfl) (by kernel_rfl) rfl rfl (fun _ _ _ h => AOp.move rfl rfl (ltb rfl) rfl h) (by kernel_rfl) ?_
          refine AS.op [3] [] [] [17] rfl rfl rfl (by kernel_rfl) (by kernel_rfl) rfl rfl (fun _ _ _ h => AOp.fieldAddr rfl rfl (ltb rfl) rfl fo50_1 h) (by kernel_rfl) ?_
          refine AS.op [10] [] [] [17] rfl rfl rfl (by kernel_rfl) (by kernel_rfl) rfl rfl (fun _ _ _ h => AOp.load1 rfl rfl (ltb rfl) rfl agg3 rfl rfl h) (by kernel_rfl) ?_
          refine AS.op [2] [] [17] [] rfl rfl rfl (by kernel_rfl) (by kernel_rfl) rfl rfl (fun _ _ _ h => AOp.move rfl rfl (ltb rfl) rfl h) (by kernel_rfl) ?_
          refine AS.op [3] [] [17] [] rfl rfl rfl (by kernel_rfl) (by kernel_rfl) rfl rfl (fun _ _ _ h => AOp.fieldAddr rfl rfl (ltb rfl) rfl fo50_1 h) (by kernel_rfl) ?_
          refine AS.op [13] [] [17] [] rfl rfl rfl (by kernel_rfl) (by kernel_rfl) rfl rfl (fun _ _ _ h => AOp.load1 rfl rfl (ltb rfl) rfl agg3 rfl rfl h) (by kernel_rfl) ?_
          refine AS.op [12, 14] [] [17] [] rfl rfl rfl (by kernel_rfl) (by kernel_rfl) rfl rfl (fun _ _ _ h => AOp.indexSl rfl rfl (ltb rfl) rfl rfl el25 q485.1 q485.2 h) (by kernel_rfl) ?_
          refine AS.op [15] [] [17] [] rfl rfl rfl (by kernel_rfl) (by kernel_rfl) rfl rfl (fun _ _ _ h => AOp.load1 rfl rfl (ltb rfl) rfl agg3 rfl (atO q487.2) h) (by kernel_rfl) ?_
          refine AS.op [2] [] [17] [] rfl rfl rfl (by kernel_rfl) (by kernel_rfl) rfl rfl (fun _ _ _ h => AOp.move rfl rfl (ltb rfl) rfl h) (by kernel_rfl) ?_
          refine AS.op [3] [] [17] [] rfl rfl rfl (by kernel_rfl) (by kernel_rfl) rfl rfl (fun _ _ _ h => AOp.fieldAddr rfl rfl (ltb rfl) rfl fo50_0 h) (by kernel_rfl) ?_
          refine AS.op [18] [] [17] [] rfl rfl rfl (by kernel_rfl) (by kernel_rfl) rfl rfl (fun _ _ _ h => AOp.load1 rfl rfl (ltb rfl) rfl agg3 rfl rfl h) (by kernel_rfl) ?_
          refine AS.op [17, 19] [] [17] [] rfl rfl rfl (by kernel_rfl) (by kernel_rfl) rfl rfl (fun _ _ _ h => AOp.indexSl rfl rfl (ltb rfl) rfl rfl el25 q488.1 q488.2 h) (by kernel_rfl) ?_
          refine AS.op [20] [] [17] [] rfl rfl rfl (by kernel_rfl) (by kernel_rfl) rfl rfl (fun _ _ _ h => AOp.load1 rfl rfl (ltb rfl) rfl agg3 rfl (atO q490.2) h) (by kernel_rfl) ?_
          refine AS.op [6, 8] [] [17] [] rfl rfl rfl (by kernel_rfl) (by kernel_rfl) rfl rfl (fun _ _ _ h => AOp.indexSl rfl rfl (ltb rfl) rfl rfl el25 q491.1 q491.2 h) (by kernel_rfl) ?_
          refine AS.mid0 [16, 22] [] [17] [] rfl rfl rfl rfl (by kernel_rfl) (by kernel_rfl) rfl rfl (fun _ _ _ h => AOp.storeL (f := fun z => SV.d (keS0 z)) (l := g431.2.2) (i := ((1 : Int)).toNat) (v := x486) rfl rfl rfl rfl size3 rfl rfl rfl q492 (AO.dropT h)) (by kernel_rfl) rfl ?_
          refine AS.done ?_
          refine AO.objs (obs' := [.fix 25 [.d (.v (.slice none 0 0))], .fix 4 [.d (dbool false)], .dead, .fix 41 [.d (di .i64 a1)], .fix 41 [.d (di .i64 a1)], .fix 41 [.d (di .i64 a1)], .frame fr425 [(6, .ptr 0 0), (7, .ptr 1 0)], .fix 41 [.d (di .i64 a1)], .fix 3 (List.map sS0 (g431.2.2.set ((1 : Int)).toNat x486)), .frame fr437 [(1, .sl 8 1 0 (((4 : Int)).toNat) (((4 : Int)).toNat)), (2, .d (di .i64 g431.1)), (3, .ptr 7 0), (7, .d (di .i64 (4 : Int))), (8, .d (di .i64 g431.2.1)), (9, .d (di .i64 (m4 g431.1)))], .fix 41 [.d (di .i64 a1)], .frame fr483 [], .fix 50 [.d (di .i64 (0 : Int)), .d (di .i64 (3 : Int))], .fix 50 [.d (di .i64 (1 : Int)), .d (di .i64 (3 : Int))], .frame fr484 [(1, .d (di .i64 g431.2.1)), (2, .sl 8 1 0 (((4 : Int)).toNat) (((4 : Int)).toNat)), (8, .ptr 12 0)], .fix 50 [.d (di .i64 (1 : Int)), .d (di .i64 (3 : Int))]]) rfl ?_
          obtain ⟨q493, h1⟩ := need_elim h1
          refine AO.op rfl (AOp.indexSl rfl rfl (ltb rfl) rfl rfl el25 q493.1 q493.2 ?_)
          obtain ⟨q494, h1⟩ := need_elim h1
          refine AO.op rfl (AOp.storeL (f := fun z => SV.d (keS0 z)) (l := (g431.2.2.set ((1 : Int)).toNat x486)) (i := ((3 : Int)).toNat) (v := x489) rfl rfl rfl rfl size3 rfl rfl rfl q494 ?_)
          refine AO.nil ?_
          refine inlend (ob' := [.fix 25 [.d (.v (.slice none 0 0))], .fix 4 [.d (dbool false)], .dead, .fix 41 [.d (di .i64 a1)], .fix 41 [.d (di .i64 a1)], .fix 41 [.d (di .i64 a1)], .frame fr425 [(6, .ptr 0 0), (7, .ptr 1 0)], .fix 41 [.d (di .i64 a1)], .fix 3 (List.map sS0 ((g431.2.2.set ((1 : Int)).toNat x486).set ((3 : Int)).toNat x489)), .frame fr437 [(1, .sl 8 1 0 (((4 : Int)).toNat) (((4 : Int)).toNat)), (2, .d (di .i64 g431.1)), (3, .ptr 7 0), (7, .d (di .i64 (4 : Int))), (8, .d (di .i64 g431.2.1)), (9, .d (di .i64 (m4 g431.1)))], .fix 41 [.d (di .i64 a1)], .frame fr483 [], .fix 50 [.d (di .i64 (0 : Int)), .d (di .i64 (3 : Int))], .fix 50 [.d (di .i64 (1 : Int)), .d (di .i64 (3 : Int))], .dead, .fix 50 [.d (di .i64 (1 : Int)), .d (di .i64 (3 : Int))]]) (e' := [(1, .d (di .i64 g431.2.1)), (2, .sl 8 1 0 (((4 : Int)).toNat) (((4 : Int)).toNat)), (8, .ptr 12 0)]) (r := .tu []) rfl rfl rfl ?_
          change AO _ _ _ _ _
          refine AO.nil ?_
          change AC _ _ _ _
          refine AC.region ?_
          refine AO.op rfl (AOp.loadN rfl rfl (ltb rfl) rfl agg50 size50 rfl (leb rfl) rfl ?_)
          refine AO.op rfl (AOp.makeIfc rfl rfl (ltb rfl) rfl conc50 ?_)
          refine AO.op rfl (AOp.move rfl rfl (ltb rfl) rfl ?_)
          refine AO.op rfl (AOp.move rfl rfl (ltb rfl) rfl ?_)
          refine AO.op rfl (AOp.inlE [] (EntersS.meth (by kernel_rfl) rfl rfl rfl meth50_pub_orthodrome_pub_gonum_spatial_curve_do rfl rfl) Tryd.func26 rfl Tryd.ntmps26 rfl (ltb rfl) (leb rfl) rfl ?_)
          intro fr495
          refine AC.seq ?_
          refine AC.region ?_
          refine AO.op rfl (AOp.box rfl rfl (ltb rfl) rfl rfl ?_)
          refine AO.nil ?_
          change AC _ _ _ _
          obtain ⟨q496, h1⟩ := need_elim h1
          obtain ⟨x497, q498, h1⟩ := idx_elim h1
          obtain ⟨q499, h1⟩ := need_elim h1
          obtain ⟨x500, q501, h1⟩ := idx_elim h1
          obtain ⟨q502, h1⟩ := need_elim h1
          obtain ⟨q503, h1⟩ := need_elim h1
          refine AC.drawS [0, 1, 2, 3, 4, 5, 6, 7, 8, 9, 10, 11, 12, 13, 14, 15, 16, 17] [17] [18, 19] (fun L => [.fix 25 [.d (.v (.slice none 0 0))], .fix 4 [.d (dbool false)], .dead, .fix 41 [.d (di .i64 a1)], .fix 41 [.d (di .i64 a1)], .fix 41 [.d (di .i64 a1)], .frame fr425 [(6, .ptr 0 0), (7, .ptr 1 0)], .fix 41 [.d (di .i64 a1)], bif L 17 then .fix 3 (List.map sS0 (((g431.2.2.set ((1 : Int)).toNat x486).set ((3 : Int)).toNat x489).set ((0 : Int)).toNat x497)) else .fix 3 (List.map sS0 ((g431.2.2.set ((1 : Int)).toNat x486).set ((3 : Int)).toNat x489)), .frame fr437 [(1, .sl 8 1 0 (((4 : Int)).toNat) (((4 : Int)).toNat)), (2, .d (di .i64 g431.1)), (3, .ptr 7 0), (7, .d (di .i64 (4 : Int))), (8, .d (di .i64 g431.2.1)), (9, .d (di .i64 (m4 g431.1)))], .fix 41 [.d (di .i64 a1)], .frame fr483 [], .fix 50 [.d (di .i64 (0 : Int)), .d (di .i64 (3 : Int))], .fix 50 [.d (di .i64 (1 : Int)), .d (di .i64 (3 : Int))], .dead, .fix 50 [.d (di .i64 (1 : Int)), .d (di .i64 (3 : Int))], .frame fr495 [], .fix 50 [.d (di .i64 (0 : Int)), .d (di .i64 (3 : Int))]]) [(17, (fun _ => true))] mixed (by kernel_rfl) (fun L L' h => by simp only [h 17 (by decide)]) rfl ?_
          refine AS.op [2] [] [17] [] rfl rfl rfl (by kernel_rfl) (by kernel_rfl) rfl rfl (fun _ _ _ h => AOp.move rfl rfl (ltb rfl) rfl h) (by kernel_rfl) ?_
          refine AS.op [3] [] [17] [] rfl rfl rfl (by kernel_rfl) (by kernel_rfl) rfl rfl (fun _ _ _ h => AOp.fieldAddr rfl rfl (ltb rfl) rfl fo50_0 h) (by kernel_rfl) ?_
          refine AS.op [7] [] [17] [] rfl rfl rfl (by kernel_rfl) (by kernel_rfl) rfl rfl (fun _ _ _ h => AOp.load1 rfl rfl (ltb rfl) rfl agg3 rfl rfl h) (by kernel_rfl) ?_
          refine AS.op [2] [] [] [17] rfl rfl rfl (by kernel_rfl) (by kernel_rfl) rfl rfl (fun _ _ _ h => AOp.move rfl rfl (ltb rfl) rfl h) (by kernel_rfl) ?_
          refine AS.op [3] [] [] [17] rfl rfl rfl (by kernel_rfl) (by kernel_rfl) rfl rfl (fun _ _ _ h => AOp.fieldAddr rfl rfl (ltb rfl) rfl fo50_1 h) (by kernel_rfl) ?_
          refine AS.op [10] [] [] [17] rfl rfl rfl (by kernel_rfl) (by kernel_rfl) rfl rfl (fun _ _ _ h => AOp.load1 rfl rfl (ltb rfl) rfl agg3 rfl rfl h) (by kernel_rfl) ?_
          refine AS.op [2] [] [17] [] rfl rfl rfl (by kernel_rfl) (by kernel_rfl) rfl rfl (fun _ _ _ h => AOp.move rfl rfl (ltb rfl) rfl h) (by kernel_rfl) ?_
          refine AS.op [3] [] [17] [] rfl rfl rfl (by kernel_rfl) (by kernel_rfl) rfl rfl (fun _ _ _ h => AOp.fieldAddr rfl rfl (ltb rfl) rfl fo50_1 h) (by kernel_rfl) ?_
          refine AS.op [13] [] [17] [] rfl rfl rfl (by kernel_rfl) (by kernel_rfl) rfl rfl (fun _ _ _ h => AOp.load1 rfl rfl (ltb rfl) rfl agg3 rfl rfl h) (by kernel_rfl) ?_
          refine AS.op [12, 14] [] [17] [] rfl rfl rfl (by kernel_rfl) (by kernel_rfl) rfl rfl (fun _ _ _ h => AOp.indexSl rfl rfl (ltb rfl) rfl rfl el25 q496.1 q496.2 h) (by kernel_rfl) ?_
          refine AS.op [15] [] [17] [] rfl rfl rfl (by kernel_rfl) (by kernel_rfl) rfl rfl (fun _ _ _ h => AOp.load1 rfl rfl (ltb rfl) rfl agg3 rfl (atO q498.2) h) (by kernel_rfl) ?_
          refine AS.op [2] [] [17] [] rfl rfl rfl (by kernel_rfl) (by kernel_rfl) rfl rfl (fun _ _ _ h => AOp.move rfl rfl (ltb rfl) rfl h) (by kernel_rfl) ?_
          refine AS.op [3] [] [17] [] rfl rfl rfl (by kernel_rfl) (by kernel_rfl) rfl rfl (fun _ _ _ h => AOp.fieldAddr rfl rfl (ltb rfl) rfl fo50_0 h) (by kernel_rfl) ?_
          refine AS.op [18] [] [17] [] rfl rfl rfl (by kernel_rfl) (by kernel_rfl) rfl rfl (fun _ _ _ h => AOp.load1 rfl rfl (ltb rfl) rfl agg3 rfl rfl h) (by kernel_rfl) ?_
          refine AS.op [17, 19] [] [17] [] rfl rfl rfl (by kernel_rfl) (by kernel_rfl) rfl rfl (fun _ _ _ h => AOp.indexSl rfl rfl (ltb rfl) rfl rfl el25 q499.1 q499.2 h) (by kernel_rfl) ?_
          refine AS.op [20] [] [17] [] rfl rfl rfl (by kernel_rfl) (by kernel_rfl) rfl rfl (fun _ _ _ h => AOp.load1 rfl rfl (ltb rfl) rfl agg3 rfl (atO q501.2) h) (by kernel_rfl) ?_
          refine AS.op [6, 8] [] [17] [] rfl rfl rfl (by kernel_rfl) (by kernel_rfl) rfl rfl (fun _ _ _ h => AOp.indexSl rfl rfl (ltb rfl) rfl rfl el25 q502.1 q502.2 h) (by kernel_rfl) ?_
          refine AS.mid0 [16, 22] [] [17] [] rfl rfl rfl rfl (by kernel_rfl) (by kernel_rfl) rfl rfl (fun _ _ _ h => AOp.storeL (f := fun z => SV.d (keS0 z)) (l := ((g431.2.2.set ((1 : Int)).toNat x486).set ((3 : Int)).toNat x489)) (i := ((0 : Int)).toNat) (v := x497) rfl rfl rfl rfl size3 rfl rfl rfl q503 (AO.dropT h)) (by kernel_rfl) rfl ?_
          refine AS.done ?_
          refine AO.objs (obs' := [.fix 25 [.d (.v (.slice none 0 0))], .fix 4 [.d (dbool false)], .dead, .fix 41 [.d (di .i64 a1)], .fix 41 [.d (di .i64 a1)], .fix 41 [.d (di .i64 a1)], .frame fr425 [(6, .ptr 0 0), (7, .ptr 1 0)], .fix 41 [.d (di .i64 a1)], .fix 3 (List.map sS0 (((g431.2.2.set ((1 : Int)).toNat x486).set ((3 : Int)).toNat x489).set ((0 : Int)).toNat x497)), .frame fr437 [(1, .sl 8 1 0 (((4 : Int)).toNat) (((4 : Int)).toNat)), (2, .d (di .i64 g431.1)), (3, .ptr 7 0), (7, .d (di .i64 (4 : Int))), (8, .d (di .i64 g431.2.1)), (9, .d (di .i64 (m4 g431.1)))], .fix 41 [.d (di .i64 a1)], .frame fr483 [], .fix 50 [.d (di .i64 (0 : Int)), .d (di .i64 (3 : Int))], .fix 50 [.d (di .i64 (1 : Int)), .d (di .i64 (3 : Int))], .dead, .fix 50 [.d (di .i64 (1 : Int)), .d (di .i64 (3 : Int))], .frame fr495 [], .fix 50 [.d (di .i64 (0 : Int)), .d (di .i64 (3 : Int))]]) rfl ?_
          obtain ⟨q504, h1⟩ := need_elim h1
          refine AO.op rfl (AOp.indexSl rfl rfl (ltb rfl) rfl rfl el25 q504.1 q504.2 ?_)
          obtain ⟨q505, h1⟩ := need_elim h1
          refine AO.op rfl (AOp.storeL (f := fun z => SV.d (keS0 z)) (l := (((g431.2.2.set ((1 : Int)).toNat x486).set ((3 : Int)).toNat x489).set ((0 : Int)).toNat x497)) (i := ((3 : Int)).toNat) (v := x500) rfl rfl rfl rfl size3 rfl rfl rfl q505 ?_)
          refine AO.nil ?_
          refine inlend (ob' := [.fix 25 [.d (.v (.slice none 0 0))], .fix 4 [.d (dbool false)], .dead, .fix 41 [.d (di .i64 a1)], .fix 41 [.d (di .i64 a1)], .fix 41 [.d (di .i64 a1)], .frame fr425 [(6, .ptr 0 0), (7, .ptr 1 0)], .fix 41 [.d (di .i64 a1)], .fix 3 (List.map sS0 ((((g431.2.2.set ((1 : Int)).toNat x486).set ((3 : Int)).toNat x489).set ((0 : Int)).toNat x497).set ((3 : Int)).toNat x500)), .frame fr437 [(1, .sl 8 1 0 (((4 : Int)).toNat) (((4 : Int)).toNat)), (2, .d (di .i64 g431.1)), (3, .ptr 7 0), (7, .d (di .i64 (4 : Int))), (8, .d (di .i64 g431.2.1)), (9, .d (di .i64 (m4 g431.1)))], .fix 41 [.d (di .i64 a1)], .frame fr483 [], .fix 50 [.d (di .i64 (0 : Int)), .d (di .i64 (3 : Int))], .fix 50 [.d (di .i64 (1 : Int)), .d (di .i64 (3 : Int))], .dead, .fix 50 [.d (di .i64 (1 : Int)), .d (di .i64 (3 : Int))], .dead, .fix 50 [.d (di .i64 (0 : Int)), .d (di .i64 (3 : Int))]]) (e' := []) (r := .tu []) rfl rfl rfl ?_
          change AO _ _ _ _ _
          refine AO.nil ?_
          refine inlend (ob' := [.fix 25 [.d (.v (.slice none 0 0))], .fix 4 [.d (dbool false)], .dead, .fix 41 [.d (di .i64 a1)], .fix 41 [.d (di .i64 a1)], .fix 41 [.d (di .i64 a1)], .frame fr425 [(6, .ptr 0 0), (7, .ptr 1 0)], .fix 41 [.d (di .i64 a1)], .fix 3 (List.map sS0 ((((g431.2.2.set ((1 : Int)).toNat x486).set ((3 : Int)).toNat x489).set ((0 : Int)).toNat x497).set ((3 : Int)).toNat x500)), .frame fr437 [(1, .sl 8 1 0 (((4 : Int)).toNat) (((4 : Int)).toNat)), (2, .d (di .i64 g431.1)), (3, .ptr 7 0), (7, .d (di .i64 (4 : Int))), (8, .d (di .i64 g431.2.1)), (9, .d (di .i64 (m4 g431.1)))], .fix 41 [.d (di .i64 a1)], .dead, .fix 50 [.d (di .i64 (0 : Int)), .d (di .i64 (3 : Int))], .fix 50 [.d (di .i64 (1 : Int)), .d (di .i64 (3 : Int))], .dead, .fix 50 [.d (di .i64 (1 : Int)), .d (di .i64 (3 : Int))], .dead, .fix 50 [.d (di .i64 (0 : Int)), .d (di .i64 (3 : Int))]]) (e' := []) (r := .tu []) rfl rfl rfl ?_
          change AO _ _ _ _ _
          refine AO.nil ?_
          refine inlend (ob' := [.fix 25 [.d (.v (.slice none 0 0))], .fix 4 [.d (dbool false)], .dead, .fix 41 [.d (di .i64 a1)], .fix 41 [.d (di .i64 a1)], .fix 41 [.d (di .i64 a1)], .frame fr425 [(6, .ptr 0 0), (7, .ptr 1 0)], .fix 41 [.d (di .i64 a1)], .fix 3 (List.map sS0 ((((g431.2.2.set ((1 : Int)).toNat x486).set ((3 : Int)).toNat x489).set ((0 : Int)).toNat x497).set ((3 : Int)).toNat x500)), .dead, .fix 41 [.d (di .i64 a1)], .dead, .fix 50 [.d (di .i64 (0 : Int)), .d (di .i64 (3 : Int))], .fix 50 [.d (di .i64 (1 : Int)), .d (di .i64 (3 : Int))], .dead, .fix 50 [.d (di .i64 (1 : Int)), .d (di .i64 (3 : Int))], .dead, .fix 50 [.d (di .i64 (0 : Int)), .d (di .i64 (3 : Int))]]) (e' := [(1, .sl 8 1 0 (((4 : Int)).toNat) (((4 : Int)).toNat)), (2, .d (di .i64 g431.1)), (3, .ptr 7 0), (7, .d (di .i64 (4 : Int))), (8, .d (di .i64 g431.2.1)), (9, .d (di .i64 (m4 g431.1)))]) (r := .tu []) rfl rfl rfl ?_
          change AO _ _ _ _ _
          refine AO.nil ?_
          change AC _ _ _ _
          refine AC.seq ?_
          refine AC.seq ?_
          refine AC.region ?_
          refine AO.op rfl (AOp.move rfl rfl (ltb rfl) rfl ?_)
          refine AO.op rfl (AOp.assign rfl rfl (ltb rfl) rfl ?_)
          refine AO.op rfl (AOp.assign rfl rfl (ltb rfl) rfl ?_)
          refine AO.nil ?_
          change AC _ _ _ _
          obtain ⟨o506, l507, h1⟩ := bind_elim h1
          refine AC.joinE (V := (List Int)) [1, 2, 3, 7, 8] [] 18 (fun g508 => []) (fun g508 => [.fix 25 [.d (.v (.slice none 0 0))], .fix 4 [.d (dbool false)], .dead, .fix 41 [.d (di .i64 a1)], .fix 41 [.d (di .i64 a1)], .fix 41 [.d (di .i64 a1)], .frame fr425 [(6, .ptr 0 0), (7, .ptr 1 0)], .fix 41 [.d (di .i64 a1)], .fix 3 (List.map sS0 g508), .dead, .fix 41 [.d (di .i64 a1)], .dead, .fix 50 [.d (di .i64 (0 : Int)), .d (di .i64 (3 : Int))], .fix 50 [.d (di .i64 (1 : Int)), .d (di .i64 (3 : Int))], .dead, .fix 50 [.d (di .i64 (1 : Int)), .d (di .i64 (3 : Int))], .dead, .fix 50 [.d (di .i64 (0 : Int)), .d (di .i64 (3 : Int))]]) (fun g508 => (p_HCoord_k13 g431 (iter (p_HCoord_l9 a1 F) n433)) g508 = some o427) rfl ?_ ?_
          · refine AC.block ?_
            refine AC.loopP (V := (Int × Int × (List Int))) (p_HCoord_l14 g431) o506 [1, 2, 3, 7, 8] [10, 11] 18 (fun g511 => [(10, .d (di .i64 g511.1)), (11, .d (di .i64 g511.2.1))]) (fun g511 => [.fix 25 [.d (.v (.slice none 0 0))], .fix 4 [.d (dbool false)], .dead, .fix 41 [.d (di .i64 a1)], .fix 41 [.d (di .i64 a1)], .fix 41 [.d (di .i64 a1)], .frame fr425 [(6, .ptr 0 0), (7, .ptr 1 0)], .fix 41 [.d (di .i64 a1)], .fix 3 (List.map sS0 g511.2.2), .dead, .fix 41 [.d (di .i64 a1)], .dead, .fix 50 [.d (di .i64 (0 : Int)), .d (di .i64 (3 : Int))], .fix 50 [.d (di .i64 (1 : Int)), .d (di .i64 (3 : Int))], .dead, .fix 50 [.d (di .i64 (1 : Int)), .d (di .i64 (3 : Int))], .dead, .fix 50 [.d (di .i64 (0 : Int)), .d (di .i64 (3 : Int))]]) F ((0 : Int), (m4 g431.1), ((((g431.2.2.set ((1 : Int)).toNat x486).set ((3 : Int)).toNat x489).set ((0 : Int)).toNat x497).set ((3 : Int)).toNat x500)) l507 rfl rfl (LeL.refl _) rfl (okU_mk rfl (okU_cons rfl (okU_cons rfl (okU_cons rfl (okU_cons rfl (okU_cons rfl (okU_cons rfl (okU_cons rfl (okU_cons rfl (okU_cons (okU_fixl (fun _ => rfl)) (okU_cons rfl (okU_cons rfl (okU_cons rfl (okU_cons rfl (okU_cons rfl (okU_cons rfl (okU_cons rfl (okU_cons rfl (okU_cons rfl okU_nil))))))))))))))))))) ?_
            intro n513 g511 h2
            unfold p_HCoord_l14 at h2
            refine AC.seq ?_
            refine AC.seq ?_
            refine AC.region ?_
            refine AO.op rfl (AOp.move rfl rfl (ltb rfl) rfl ?_)
            refine AO.op rfl (AOp.move rfl rfl (ltb rfl) rfl ?_)
            refine AO.op rfl (AOp.ilss rfl rfl (ltb rfl) rfl rfl ?_)
            refine AO.nil ?_
            change AC _ _ _ _
            refine AC.cond rfl (fun q514 => ?_) (fun q514 => ?_)
            · replace h2 := cT h2 q514
              refine AC.skip ?_
              change AC _ _ _ _
              refine AC.seq ?_
              refine AC.block ?_
              refine AC.seq ?_
              refine AC.draw 13 mixed (by kernel_rfl) ?_
              refine AD.op [1] rfl (by kernel_rfl) rfl rfl (fun _ _ h => AOp.move rfl rfl (ltb rfl) rfl h) ?_
              refine AD.op [10] rfl (by kernel_rfl) rfl rfl (fun _ _ h => AOp.move rfl rfl (ltb rfl) rfl h) ?_
              obtain ⟨q515, h2⟩ := need_elim h2
              refine AD.op [42, 43] rfl (by kernel_rfl) rfl rfl (fun _ _ h => AOp.indexSl rfl rfl (ltb rfl) rfl rfl el25 q515.1 q515.2 h) ?_
              obtain ⟨x516, q517, h2⟩ := idx_elim h2
              refine AD.op [44] rfl (by kernel_rfl) rfl rfl (fun _ _ h => AOp.load1 rfl rfl (ltb rfl) rfl agg3 rfl (atO q517.2) h) ?_
              refine AD.op [11] rfl (by kernel_rfl) rfl rfl (fun _ _ h => AOp.move rfl rfl (ltb rfl) rfl h) ?_
              refine AD.op [11] rfl (by kernel_rfl) rfl rfl (fun _ _ h => AOp.move rfl rfl (ltb rfl) rfl h) ?_
              obtain ⟨q518, h2⟩ := need_elim h2
              refine AD.op [47] rfl (by kernel_rfl) rfl rfl (fun _ _ h => AOp.ishr (n := 1) rfl rfl (ltb rfl) rfl rfl (by decide) q518 rfl h) ?_
              refine AD.op [46, 48] rfl (by kernel_rfl) rfl rfl (fun _ _ h => AOp.ibits (by simp) rfl rfl (ltb rfl) rfl rfl rfl h) ?_
              refine AD.op [49] rfl (by kernel_rfl) rfl rfl (fun _ _ h => AOp.ibits (by simp) rfl rfl (ltb rfl) rfl rfl rfl h) ?_
              refine AD.op [8] rfl (by kernel_rfl) rfl rfl (fun _ _ h => AOp.move rfl rfl (ltb rfl) rfl h) ?_
              obtain ⟨q519, h2⟩ := need_elim h2
              refine AD.op [50, 51] rfl (by kernel_rfl) rfl rfl (fun _ _ h => AOp.ishl' rfl rfl (ltb rfl) rfl rfl q519 h) ?_
              obtain ⟨q520, h2⟩ := need_elim h2
              refine AD.op [45, 52] rfl (by kernel_rfl) rfl rfl (fun _ _ h => AOp.iadd rfl rfl (ltb rfl) rfl rfl rfl q520.1 q520.2 h) ?_
              obtain ⟨q521, h2⟩ := need_elim h2
              refine AD.op [42, 43] rfl (by kernel_rfl) rfl rfl (fun _ _ h => AOp.indexSl rfl rfl (ltb rfl) rfl rfl el25 q521.1 q521.2 h) ?_
              refine AD.done ?_
              obtain ⟨q522, h2⟩ := need_elim h2
              refine AO.op rfl (AOp.storeL (f := fun z => SV.d (keS0 z)) (l := g511.2.2) (i := (g511.1).toNat) (v := (x516 + (IntKind.i64.wrap ((bits .and .i64 (bits .xor .i64 g511.2.1 (g511.2.1 / 2 ^ 1)) (1 : Int)) * 2 ^ (g431.2.1).toNat)))) rfl rfl rfl rfl size3 rfl rfl rfl q522 ?_)
              refine AO.nil ?_
              change AC _ _ _ _
              refine AC.region ?_
              refine AO.op rfl (AOp.move rfl rfl (ltb rfl) rfl ?_)
              obtain ⟨q523, h2⟩ := need_elim h2
              refine AO.op rfl (AOp.ishr (n := 1) rfl rfl (ltb rfl) rfl rfl (by decide) q523 rfl ?_)
              refine AO.op rfl (AOp.assign rfl rfl (ltb rfl) rfl ?_)
              refine AO.nil ?_
              change AC _ _ _ _
              refine AC.region ?_
              refine AO.op rfl (AOp.move rfl rfl (ltb rfl) rfl ?_)
              obtain ⟨q524, h2⟩ := need_elim h2
              refine AO.op rfl (AOp.iadd rfl rfl (ltb rfl) rfl rfl rfl q524.1 q524.2 ?_)
              refine AO.op rfl (AOp.assign rfl rfl (ltb rfl) rfl ?_)
              refine AO.nil ?_
              exact ⟨((g511.1 + (1 : Int)), (g511.2.1 / 2 ^ 1), (g511.2.2.set (g511.1).toNat (x516 + (IntKind.i64.wrap ((bits .and .i64 (bits .xor .i64 g511.2.1 (g511.2.1 / 2 ^ 1)) (1 : Int)) * 2 ^ (g431.2.1).toNat))))), _, rfl, (LeL.refl _), rfl, (okU_mk rfl (okU_cons rfl (okU_cons rfl (okU_cons rfl (okU_cons rfl (okU_cons rfl (okU_cons rfl (okU_cons rfl (okU_cons rfl (okU_cons (okU_fixl (fun _ => rfl)) (okU_cons rfl (okU_cons rfl (okU_cons rfl (okU_cons rfl (okU_cons rfl (okU_cons rfl (okU_cons rfl (okU_cons rfl (okU_cons rfl okU_nil))))))))))))))))))), h2⟩
            replace h2 := cF h2 q514
            refine AC.exit ?_
            obtain rfl := Option.some.inj h2
            exact ⟨g511.2.2, _, rfl, (LeL.refl _), rfl, (okU_mk rfl (okU_cons rfl (okU_cons rfl (okU_cons rfl (okU_cons rfl (okU_cons rfl (okU_cons rfl (okU_cons rfl (okU_cons rfl (okU_cons (okU_fixl (fun _ => rfl)) (okU_cons rfl (okU_cons rfl (okU_cons rfl (okU_cons rfl (okU_cons rfl (okU_cons rfl (okU_cons rfl (okU_cons rfl (okU_cons rfl okU_nil))))))))))))))))))), aftL h1⟩
          intro g508 h1
          unfold p_HCoord_k13 at h1
          change AC _ _ _ _
          refine AC.region ?_
          refine AO.op rfl (AOp.move rfl rfl (ltb rfl) rfl ?_)
          refine AO.op rfl (AOp.move rfl rfl (ltb rfl) rfl ?_)
          obtain ⟨q509, h1⟩ := need_elim h1
          refine AO.op rfl (AOp.ishr' rfl rfl (ltb rfl) rfl rfl q509.1 q509.2 ?_)
          refine AO.op rfl (AOp.assign rfl rfl (ltb rfl) rfl ?_)
          refine AO.nil ?_
          change AC _ _ _ _
          refine AC.region ?_
          refine AO.op rfl (AOp.move rfl rfl (ltb rfl) rfl ?_)
          obtain ⟨q510, h1⟩ := need_elim h1
          refine AO.op rfl (AOp.iadd rfl rfl (ltb rfl) rfl rfl rfl q510.1 q510.2 ?_)
          refine AO.op rfl (AOp.assign rfl rfl (ltb rfl) rfl ?_)
          refine AO.nil ?_
          exact ⟨((g431.1 / 2 ^ ((4 : Int)).toNat), (g431.2.1 + (1 : Int)), g508), _, rfl, (LeL.refl _), rfl, (okU_mk rfl (okU_cons rfl (okU_cons rfl (okU_cons rfl (okU_cons rfl (okU_cons rfl (okU_cons rfl (okU_cons rfl (okU_cons rfl (okU_cons (okU_fixl (fun _ => rfl)) okU_nil)))))))))), h1⟩
        replace h1 := cF h1 q482
        refine AC.joinP (V := Bool) [1, 2, 3, 10] [28] 11 (fun g525 => [(28, .d (dbool g525))]) (fun g525 => [.fix 25 [.d (.v (.slice none 0 0))], .fix 4 [.d (dbool false)], .dead, .fix 41 [.d (di .i64 a1)], .fix 41 [.d (di .i64 a1)], .fix 41 [.d (di .i64 a1)], .frame fr425 [(6, .ptr 0 0), (7, .ptr 1 0)], .fix 41 [.d (di .i64 a1)], .fix 3 (List.map sS0 g431.2.2), .frame fr437 [(1, .sl 8 1 0 (((4 : Int)).toNat) (((4 : Int)).toNat)), (2, .d (di .i64 g431.1)), (3, .ptr 7 0), (7, .d (di .i64 (4 : Int))), (8, .d (di .i64 g431.2.1)), (9, .d (di .i64 (m4 g431.1)))], .fix 41 [.d (di .i64 a1)]]) (fun g525 => (p_HCoord_k15 F g431 (iter (p_HCoord_l9 a1 F) n433)) g525 = some o427) rfl ?_ ?_
        · refine AC.seq ?_
          refine AC.region ?_
          refine AO.op rfl (AOp.ieql rfl rfl (ltb rfl) rfl rfl ?_)
          refine AO.op rfl (AOp.assign rfl rfl (ltb rfl) rfl ?_)
          refine AO.nil ?_
          change AC _ _ _ _
          refine AC.cond rfl (fun q888 => ?_) (fun q888 => ?_)
          · replace h1 := cT h1 q888
            refine AC.skip ?_
            exact ⟨(decide ((m4 g431.1) = (3 : Int))), _, rfl, (LeL.refl _), rfl, (okU_mk rfl (okU_cons rfl (okU_cons rfl (okU_cons rfl (okU_cons rfl (okU_cons rfl (okU_cons rfl (okU_cons rfl (okU_cons rfl (okU_cons (okU_fixl (fun _ => rfl)) (okU_cons rfl (okU_cons rfl okU_nil)))))))))))), h1⟩
          replace h1 := cF h1 q888
          refine AC.region ?_
          refine AO.op rfl (AOp.ieql rfl rfl (ltb rfl) rfl rfl ?_)
          refine AO.op rfl (AOp.assign rfl rfl (ltb rfl) rfl ?_)
          refine AO.nil ?_
          exact ⟨(decide ((m4 g431.1) = (4 : Int))), _, rfl, (LeL.refl _), rfl, (okU_mk rfl (okU_cons rfl (okU_cons rfl (okU_cons rfl (okU_cons rfl (okU_cons rfl (okU_cons rfl (okU_cons rfl (okU_cons rfl (okU_cons (okU_fixl (fun _ => rfl)) (okU_cons rfl (okU_cons rfl okU_nil)))))))))))), h1⟩
        intro g525 h1
        unfold p_HCoord_k15 at h1
        refine AC.cond rfl (fun q526 => ?_) (fun q526 => ?_)
        · replace h1 := cT h1 q526
          refine AC.region ?_
          refine AO.op rfl (AOp.move rfl rfl (ltb rfl) rfl ?_)
          refine AO.op rfl (AOp.move rfl rfl (ltb rfl) rfl ?_)
          refine AO.op rfl (AOp.move rfl rfl (ltb rfl) rfl ?_)
          refine AO.op rfl (AOp.build rfl rfl (ltb rfl) zero52 rfl places52 rfl rfl ?_)
          refine AO.op rfl (AOp.build rfl rfl (ltb rfl) zero50 rfl places50 rfl rfl ?_)
          refine AO.op rfl (AOp.inl [] (by kernel_rfl) Tryd.func31 rfl Tryd.ntmps31 rfl rfl (ltb rfl) rfl (leb rfl) rfl ?_)
          intro fr527
          refine AC.seq ?_
          refine AC.region ?_
          refine AO.op rfl (AOp.box rfl rfl (ltb rfl) rfl rfl ?_)
          refine AO.op rfl (AOp.box rfl rfl (ltb rfl) rfl rfl ?_)
          refine AO.nil ?_
          change AC _ _ _ _
          refine AC.seq ?_
          refine AC.region ?_
          refine AO.op rfl (AOp.move rfl rfl (ltb rfl) rfl ?_)
          refine AO.nil ?_
          change AC _ _ _ _
          refine AC.condT rfl rfl ?_
          refine AC.seq ?_
          refine AC.region ?_
          refine AO.op rfl (AOp.loadN rfl rfl (ltb rfl) rfl agg50 size50 rfl (leb rfl) rfl ?_)
          refine AO.op rfl (AOp.makeIfc rfl rfl (ltb rfl) rfl conc50 ?_)
          refine AO.op rfl (AOp.move rfl rfl (ltb rfl) rfl ?_)
          refine AO.op rfl (AOp.move rfl rfl (ltb rfl) rfl ?_)
          refine AO.op rfl (AOp.inlE [1, 2, 8] (EntersS.meth (by kernel_rfl) rfl rfl rfl meth50_pub_orthodrome_pub_gonum_spatial_curve_do rfl rfl) Tryd.func26 rfl Tryd.ntmps26 rfl (ltb rfl) (leb rfl) rfl ?_)
          intro fr528
          refine AC.seq ?_
          refine AC.region ?_
          refine AO.op rfl (AOp.box rfl rfl (ltb rfl) rfl rfl ?_)
          refine AO.nil ?_
          change AC _ _ _ _
          obtain ⟨q529, h1⟩ := need_elim h1
          obtain ⟨x530, q531, h1⟩ := idx_elim h1
          obtain ⟨q532, h1⟩ := need_elim h1
          obtain ⟨x533, q534, h1⟩ := idx_elim h1
          obtain ⟨q535, h1⟩ := need_elim h1
          obtain ⟨q536, h1⟩ := need_elim h1
          refine AC.drawS [0, 1, 2, 3, 4, 5, 6, 7, 8, 9, 10, 11, 12, 13, 14, 15, 16, 17] [17] [18, 19] (fun L => [.fix 25 [.d (.v (.slice none 0 0))], .fix 4 [.d (dbool false)], .dead, .fix 41 [.d (di .i64 a1)], .fix 41 [.d (di .i64 a1)], .fix 41 [.d (di .i64 a1)], .frame fr425 [(6, .ptr 0 0), (7, .ptr 1 0)], .fix 41 [.d (di .i64 a1)], bif L 17 then .fix 3 (List.map sS0 (g431.2.2.set ((2 : Int)).toNat x530)) else .fix 3 (List.map sS0 g431.2.2), .frame fr437 [(1, .sl 8 1 0 (((4 : Int)).toNat) (((4 : Int)).toNat)), (2, .d (di .i64 g431.1)), (3, .ptr 7 0), (7, .d (di .i64 (4 : Int))), (8, .d (di .i64 g431.2.1)), (9, .d (di .i64 (m4 g431.1)))], .fix 41 [.d (di .i64 a1)], .frame fr527 [], .fix 52 [.d (di .i64 (0 : Int)), .d (di .i64 (1 : Int))], .fix 50 [.d (di .i64 (2 : Int)), .d (di .i64 (3 : Int))], .frame fr528 [(1, .d (di .i64 g431.2.1)), (2, .sl 8 1 0 (((4 : Int)).toNat) (((4 : Int)).toNat)), (8, .ptr 12 0)], .fix 50 [.d (di .i64 (2 : Int)), .d (di .i64 (3 : Int))]]) [(17, (fun _ => true))] mixed (by kernel_rfl) (fun L L' h => by simp only [h 17 (by decide)]) rfl ?_
          refine AS.op [2] [] [17] [] rfl rfl rfl (by kernel_rfl) (by kernel_rfl) rfl rfl (fun _ _ _ h => AOp.move rfl rfl (ltb rfl) rfl h) (by kernel_rfl) ?_
          refine AS.op [3] [] [17] [] rfl rfl rfl (by kernel_rfl) (by kernel_rfl) rfl rfl (fun _ _ _ h => AOp.fieldAddr rfl rfl (ltb rfl) rfl fo50_0 h) (by kernel_rfl) ?_
          refine AS.op [7] [] [17] [] rfl rfl rfl (by kernel_rfl) (by kernel_rfl) rfl rfl (fun _ _ _ h => AOp.load1 rfl rfl (ltb rfl) rfl agg3 rfl rfl h) (by kernel_rfl) ?_
          refine AS.op [2] [] [] [17] rfl rfl rfl (by kernel_rfl) (by kernel_rfl) rfl rfl (fun _ _ _ h => AOp.move rfl rfl (ltb rfl) rfl h) (by kernel_rfl) ?_
          refine AS.op [3] [] [] [17] rfl rfl rfl (by kernel_rfl) (by kernel_rfl) rfl rfl (fun _ _ _ h => AOp.fieldAddr rfl rfl (ltb rfl) rfl fo50_1 h) (by kernel_rfl) ?_
          refine AS.op [10] [] [] [17] rfl rfl rfl (by kernel_rfl) (by kernel_rfl) rfl rfl (fun _ _ _ h => AOp.load1 rfl rfl (ltb rfl) rfl agg3 rfl rfl h) (by kernel_rfl) ?_
          refine AS.op [2] [] [17] [] rfl rfl rfl (by kernel_rfl) (by kernel_rfl) rfl rfl (fun _ _ _ h => AOp.move rfl rfl (ltb rfl) rfl h) (by kernel_rfl) ?_
          refine AS.op [3] [] [17] [] rfl rfl rfl (by kernel_rfl) (by kernel_rfl) rfl rfl (fun _ _ _ h => AOp.fieldAddr rfl rfl (ltb rfl) rfl fo50_1 h) (by kernel_rfl) ?_
          refine AS.op [13] [] [17] [] rfl rfl rfl (by kernel_rfl) (by kernel_rfl) rfl rfl (fun _ _ _ h => AOp.load1 rfl rfl (ltb rfl) rfl agg3 rfl rfl h) (by kernel_rfl) ?_
          refine AS.op [12, 14] [] [17] [] rfl rfl rfl (by kernel_rfl) (by kernel_rfl) rfl rfl (fun _ _ _ h => AOp.indexSl rfl rfl (ltb rfl) rfl rfl el25 q529.1 q529.2 h) (by kernel_rfl) ?_
          refine AS.op [15] [] [17] [] rfl rfl rfl (by kernel_rfl) (by kernel_rfl) rfl rfl (fun _ _ _ h => AOp.load1 rfl rfl (ltb rfl) rfl agg3 rfl (atO q531.2) h) (by kernel_rfl) ?_
          refine AS.op [2] [] [17] [] rfl rfl rfl (by kernel_rfl) (by kernel_rfl) rfl rfl (fun _ _ _ h => AOp.move rfl rfl (ltb rfl) rfl h) (by kernel_rfl) ?_
          refine AS.op [3] [] [17] [] rfl rfl rfl (by kernel_rfl) (by kernel_rfl) rfl rfl (fun _ _ _ h => AOp.fieldAddr rfl rfl (ltb rfl) rfl fo50_0 h) (by kernel_rfl) ?_
          refine AS.op [18] [] [17] [] rfl rfl rfl (by kernel_rfl) (by kernel_rfl) rfl rfl (fun _ _ _ h => AOp.load1 rfl rfl (ltb rfl) rfl agg3 rfl rfl h) (by kernel_rfl) ?_
          refine AS.op [17, 19] [] [17] [] rfl rfl rfl (by kernel_rfl) (by kernel_rfl) rfl rfl (fun _ _ _ h => AOp.indexSl rfl rfl (ltb rfl) rfl rfl el25 q532.1 q532.2 h) (by kernel_rfl) ?_
          refine AS.op [20] [] [17] [] rfl rfl rfl (by kernel_rfl) (by kernel_rfl) rfl rfl (fun _ _ _ h => AOp.load1 rfl rfl (ltb rfl) rfl agg3 rfl (atO q534.2) h) (by kernel_rfl) ?_
          refine AS.op [6, 8] [] [17] [] rfl rfl rfl (by kernel_rfl) (by kernel_rfl) rfl rfl (fun _ _ _ h => AOp.indexSl rfl rfl (ltb rfl) rfl rfl el25 q535.1 q535.2 h) (by kernel_rfl) ?_
          refine AS.mid0 [16, 22] [] [17] [] rfl rfl rfl rfl (by kernel_rfl) (by kernel_rfl) rfl rfl (fun _ _ _ h => AOp.storeL (f := fun z => SV.d (keS0 z)) (l := g431.2.2) (i := ((2 : Int)).toNat) (v := x530) rfl rfl rfl rfl size3 rfl rfl rfl q536 (AO.dropT h)) (by kernel_rfl) rfl ?_
          refine AS.done ?_
          refine AO.objs (obs' := [.fix 25 [.d (.v (.slice none 0 0))], .fix 4 [.d (dbool false)], .dead, .fix 41 [.d (di .i64 a1)], .fix 41 [.d (di .i64 a1)], .fix 41 [.d (di .i64 a1)], .frame fr425 [(6, .ptr 0 0), (7, .ptr 1 0)], .fix 41 [.d (di .i64 a1)], .fix 3 (List.map sS0 (g431.2.2.set ((2 : Int)).toNat x530)), .frame fr437 [(1, .sl 8 1 0 (((4 : Int)).toNat) (((4 : Int)).toNat)), (2, .d (di .i64 g431.1)), (3, .ptr 7 0), (7, .d (di .i64 (4 : Int))), (8, .d (di .i64 g431.2.1)), (9, .d (di .i64 (m4 g431.1)))], .fix 41 [.d (di .i64 a1)], .frame fr527 [], .fix 52 [.d (di .i64 (0 : Int)), .d (di .i64 (1 : Int))], .fix 50 [.d (di .i64 (2 : Int)), .d (di .i64 (3 : Int))], .frame fr528 [(1, .d (di .i64 g431.2.1)), (2, .sl 8 1 0 (((4 : Int)).toNat) (((4 : Int)).toNat)), (8, .ptr 12 0)], .fix 50 [.d (di .i64 (2 : Int)), .d (di .i64 (3 : Int))]]) rfl ?_
          obtain ⟨q537, h1⟩ := need_elim h1
          refine AO.op rfl (AOp.indexSl rfl rfl (ltb rfl) rfl rfl el25 q537.1 q537.2 ?_)
          obtain ⟨q538, h1⟩ := need_elim h1
          refine AO.op rfl (AOp.storeL (f := fun z => SV.d (keS0 z)) (l := (g431.2.2.set ((2 : Int)).toNat x530)) (i := ((3 : Int)).toNat) (v := x533) rfl rfl rfl rfl size3 rfl rfl rfl q538 ?_)
          refine AO.nil ?_
          refine inlend (ob' := [.fix 25 [.d (.v (.slice none 0 0))], .fix 4 [.d (dbool false)], .dead, .fix 41 [.d (di .i64 a1)], .fix 41 [.d (di .i64 a1)], .fix 41 [.d (di .i64 a1)], .frame fr425 [(6, .ptr 0 0), (7, .ptr 1 0)], .fix 41 [.d (di .i64 a1)], .fix 3 (List.map sS0 ((g431.2.2.set ((2 : Int)).toNat x530).set ((3 : Int)).toNat x533)), .frame fr437 [(1, .sl 8 1 0 (((4 : Int)).toNat) (((4 : Int)).toNat)), (2, .d (di .i64 g431.1)), (3, .ptr 7 0), (7, .d (di .i64 (4 : Int))), (8, .d (di .i64 g431.2.1)), (9, .d (di .i64 (m4 g431.1)))], .fix 41 [.d (di .i64 a1)], .frame fr527 [], .fix 52 [.d (di .i64 (0 : Int)), .d (di .i64 (1 : Int))], .fix 50 [.d (di .i64 (2 : Int)), .d (di .i64 (3 : Int))], .dead, .fix 50 [.d (di .i64 (2 : Int)), .d (di .i64 (3 : Int))]]) (e' := [(1, .d (di .i64 g431.2.1)), (2, .sl 8 1 0 (((4 : Int)).toNat) (((4 : Int)).toNat)), (8, .ptr 12 0)]) (r := .tu []) rfl rfl rfl ?_
          change AO _ _ _ _ _
          refine AO.nil ?_
          change AC _ _ _ _
          refine AC.region ?_
          refine AO.op rfl (AOp.loadN rfl rfl (ltb rfl) rfl agg52 size52 rfl (leb rfl) rfl ?_)
          refine AO.op rfl (AOp.makeIfc rfl rfl (ltb rfl) rfl conc52 ?_)
          refine AO.op rfl (AOp.move rfl rfl (ltb rfl) rfl ?_)
          refine AO.op rfl (AOp.move rfl rfl (ltb rfl) rfl ?_)
          refine AO.op rfl (AOp.inlE [] (EntersS.meth (by kernel_rfl) rfl rfl rfl meth52_pub_orthodrome_pub_gonum_spatial_curve_do rfl rfl) Tryd.func27 rfl Tryd.ntmps27 rfl (ltb rfl) (leb rfl) rfl ?_)
          intro fr539
          refine AC.seq ?_
          refine AC.region ?_
          refine AO.op rfl (AOp.box rfl rfl (ltb rfl) rfl rfl ?_)
          refine AO.nil ?_
          change AC _ _ _ _
          obtain ⟨q540, h1⟩ := need_elim h1
          obtain ⟨x541, q542, h1⟩ := idx_elim h1
          obtain ⟨q543, h1⟩ := need_elim h1
          obtain ⟨q544, h1⟩ := need_elim h1
          obtain ⟨q545, h1⟩ := need_elim h1
          obtain ⟨x546, q547, h1⟩ := idx_elim h1
          obtain ⟨q548, h1⟩ := need_elim h1
          obtain ⟨q549, h1⟩ := need_elim h1
          obtain ⟨q550, h1⟩ := need_elim h1
          obtain ⟨q551, h1⟩ := need_elim h1
          refine AC.drawS [0, 1, 2, 3, 4, 5, 6, 7, 8, 9, 10, 11, 12, 13, 14, 15, 16, 17, 18, 19, 20, 21, 22, 23, 24, 25] [25] [26, 27] (fun L => [.fix 25 [.d (.v (.slice none 0 0))], .fix 4 [.d (dbool false)], .dead, .fix 41 [.d (di .i64 a1)], .fix 41 [.d (di .i64 a1)], .fix 41 [.d (di .i64 a1)], .frame fr425 [(6, .ptr 0 0), (7, .ptr 1 0)], .fix 41 [.d (di .i64 a1)], bif L 25 then .fix 3 (List.map sS0 (((g431.2.2.set ((2 : Int)).toNat x530).set ((3 : Int)).toNat x533).set ((0 : Int)).toNat (bits .xor .i64 x541 (m1 g431.2.1)))) else .fix 3 (List.map sS0 ((g431.2.2.set ((2 : Int)).toNat x530).set ((3 : Int)).toNat x533)), .frame fr437 [(1, .sl 8 1 0 (((4 : Int)).toNat) (((4 : Int)).toNat)), (2, .d (di .i64 g431.1)), (3, .ptr 7 0), (7, .d (di .i64 (4 : Int))), (8, .d (di .i64 g431.2.1)), (9, .d (di .i64 (m4 g431.1)))], .fix 41 [.d (di .i64 a1)], .frame fr527 [], .fix 52 [.d (di .i64 (0 : Int)), .d (di .i64 (1 : Int))], .fix 50 [.d (di .i64 (2 : Int)), .d (di .i64 (3 : Int))], .dead, .fix 50 [.d (di .i64 (2 : Int)), .d (di .i64 (3 : Int))], .frame fr539 [], .fix 52 [.d (di .i64 (0 : Int)), .d (di .i64 (1 : Int))]]) [(25, (fun _ => true))] mixed (by kernel_rfl) (fun L L' h => by simp only [h 25 (by decide)]) rfl ?_
          refine AS.op [2] [] [25] [] rfl rfl rfl (by kernel_rfl) (by kernel_rfl) rfl rfl (fun _ _ _ h => AOp.move rfl rfl (ltb rfl) rfl h) (by kernel_rfl) ?_
          refine AS.op [3] [] [25] [] rfl rfl rfl (by kernel_rfl) (by kernel_rfl) rfl rfl (fun _ _ _ h => AOp.fieldAddr rfl rfl (ltb rfl) rfl fo52_0 h) (by kernel_rfl) ?_
          refine AS.op [7] [] [25] [] rfl rfl rfl (by kernel_rfl) (by kernel_rfl) rfl rfl (fun _ _ _ h => AOp.load1 rfl rfl (ltb rfl) rfl agg3 rfl rfl h) (by kernel_rfl) ?_
          refine AS.op [2] [] [] [25] rfl rfl rfl (by kernel_rfl) (by kernel_rfl) rfl rfl (fun _ _ _ h => AOp.move rfl rfl (ltb rfl) rfl h) (by kernel_rfl) ?_
          refine AS.op [3] [] [] [25] rfl rfl rfl (by kernel_rfl) (by kernel_rfl) rfl rfl (fun _ _ _ h => AOp.fieldAddr rfl rfl (ltb rfl) rfl fo52_1 h) (by kernel_rfl) ?_
          refine AS.op [10] [] [] [25] rfl rfl rfl (by kernel_rfl) (by kernel_rfl) rfl rfl (fun _ _ _ h => AOp.load1 rfl rfl (ltb rfl) rfl agg3 rfl rfl h) (by kernel_rfl) ?_
          refine AS.op [2] [] [25] [] rfl rfl rfl (by kernel_rfl) (by kernel_rfl) rfl rfl (fun _ _ _ h => AOp.move rfl rfl (ltb rfl) rfl h) (by kernel_rfl) ?_
          refine AS.op [3] [] [25] [] rfl rfl rfl (by kernel_rfl) (by kernel_rfl) rfl rfl (fun _ _ _ h => AOp.fieldAddr rfl rfl (ltb rfl) rfl fo52_1 h) (by kernel_rfl) ?_
          refine AS.op [13] [] [25] [] rfl rfl rfl (by kernel_rfl) (by kernel_rfl) rfl rfl (fun _ _ _ h => AOp.load1 rfl rfl (ltb rfl) rfl agg3 rfl rfl h) (by kernel_rfl) ?_
          refine AS.op [12, 14] [] [25] [] rfl rfl rfl (by kernel_rfl) (by kernel_rfl) rfl rfl (fun _ _ _ h => AOp.indexSl rfl rfl (ltb rfl) rfl rfl el25 q540.1 q540.2 h) (by kernel_rfl) ?_
          refine AS.op [15] [] [25] [] rfl rfl rfl (by kernel_rfl) (by kernel_rfl) rfl rfl (fun _ _ _ h => AOp.load1 rfl rfl (ltb rfl) rfl agg3 rfl (atO q542.2) h) (by kernel_rfl) ?_
          refine AS.op [1] [] [25] [] rfl rfl rfl (by kernel_rfl) (by kernel_rfl) rfl rfl (fun _ _ _ h => AOp.move rfl rfl (ltb rfl) rfl h) (by kernel_rfl) ?_
          refine AS.op [17] [] [25] [] rfl rfl rfl (by kernel_rfl) (by kernel_rfl) rfl rfl (fun _ _ _ h => AOp.ishl' rfl rfl (ltb rfl) rfl rfl q543 h) (by kernel_rfl) ?_
          refine AS.op [18] [] [25] [] rfl rfl rfl (by kernel_rfl) (by kernel_rfl) rfl rfl (fun _ _ _ h => AOp.isub rfl rfl (ltb rfl) rfl rfl rfl q544.1 q544.2 h) (by kernel_rfl) ?_
          refine AS.op [16, 19] [] [25] [] rfl rfl rfl (by kernel_rfl) (by kernel_rfl) rfl rfl (fun _ _ _ h => AOp.ibits (by simp) rfl rfl (ltb rfl) rfl rfl rfl h) (by kernel_rfl) ?_
          refine AS.op [2] [] [25] [] rfl rfl rfl (by kernel_rfl) (by kernel_rfl) rfl rfl (fun _ _ _ h => AOp.move rfl rfl (ltb rfl) rfl h) (by kernel_rfl) ?_
          refine AS.op [3] [] [25] [] rfl rfl rfl (by kernel_rfl) (by kernel_rfl) rfl rfl (fun _ _ _ h => AOp.fieldAddr rfl rfl (ltb rfl) rfl fo52_0 h) (by kernel_rfl) ?_
          refine AS.op [22] [] [25] [] rfl rfl rfl (by kernel_rfl) (by kernel_rfl) rfl rfl (fun _ _ _ h => AOp.load1 rfl rfl (ltb rfl) rfl agg3 rfl rfl h) (by kernel_rfl) ?_
          refine AS.op [21, 23] [] [25] [] rfl rfl rfl (by kernel_rfl) (by kernel_rfl) rfl rfl (fun _ _ _ h => AOp.indexSl rfl rfl (ltb rfl) rfl rfl el25 q545.1 q545.2 h) (by kernel_rfl) ?_
          refine AS.op [24] [] [25] [] rfl rfl rfl (by kernel_rfl) (by kernel_rfl) rfl rfl (fun _ _ _ h => AOp.load1 rfl rfl (ltb rfl) rfl agg3 rfl (atO q547.2) h) (by kernel_rfl) ?_
          refine AS.op [1] [] [] [25] rfl rfl rfl (by kernel_rfl) (by kernel_rfl) rfl rfl (fun _ _ _ h => AOp.move rfl rfl (ltb rfl) rfl h) (by kernel_rfl) ?_
          refine AS.op [26] [] [] [25] rfl rfl rfl (by kernel_rfl) (by kernel_rfl) rfl rfl (fun _ _ _ h => AOp.ishl' rfl rfl (ltb rfl) rfl rfl q548 h) (by kernel_rfl) ?_
          refine AS.op [27] [] [] [25] rfl rfl rfl (by kernel_rfl) (by kernel_rfl) rfl rfl (fun _ _ _ h => AOp.isub rfl rfl (ltb rfl) rfl rfl rfl q549.1 q549.2 h) (by kernel_rfl) ?_
          refine AS.op [25, 28] [] [] [25] rfl rfl rfl (by kernel_rfl) (by kernel_rfl) rfl rfl (fun _ _ _ h => AOp.ibits (by simp) rfl rfl (ltb rfl) rfl rfl rfl h) (by kernel_rfl) ?_
          refine AS.op [6, 8] [] [25] [] rfl rfl rfl (by kernel_rfl) (by kernel_rfl) rfl rfl (fun _ _ _ h => AOp.indexSl rfl rfl (ltb rfl) rfl rfl el25 q550.1 q550.2 h) (by kernel_rfl) ?_
          refine AS.mid0 [20, 30] [] [25] [] rfl rfl rfl rfl (by kernel_rfl) (by kernel_rfl) rfl rfl (fun _ _ _ h => AOp.storeL (f := fun z => SV.d (keS0 z)) (l := ((g431.2.2.set ((2 : Int)).toNat x530).set ((3 : Int)).toNat x533)) (i := ((0 : Int)).toNat) (v := (bits .xor .i64 x541 (m1 g431.2.1))) rfl rfl rfl rfl size3 rfl rfl rfl q551 (AO.dropT h)) (by kernel_rfl) rfl ?_
          refine AS.done ?_
          refine AO.objs (obs' := [.fix 25 [.d (.v (.slice none 0 0))], .fix 4 [.d (dbool false)], .dead, .fix 41 [.d (di .i64 a1)], .fix 41 [.d (di .i64 a1)], .fix 41 [.d (di .i64 a1)], .frame fr425 [(6, .ptr 0 0), (7, .ptr 1 0)], .fix 41 [.d (di .i64 a1)], .fix 3 (List.map sS0 (((g431.2.2.set ((2 : Int)).toNat x530).set ((3 : Int)).toNat x533).set ((0 : Int)).toNat (bits .xor .i64 x541 (m1 g431.2.1)))), .frame fr437 [(1, .sl 8 1 0 (((4 : Int)).toNat) (((4 : Int)).toNat)), (2, .d (di .i64 g431.1)), (3, .ptr 7 0), (7, .d (di .i64 (4 : Int))), (8, .d (di .i64 g431.2.1)), (9, .d (di .i64 (m4 g431.1)))], .fix 41 [.d (di .i64 a1)], .frame fr527 [], .fix 52 [.d (di .i64 (0 : Int)), .d (di .i64 (1 : Int))], .fix 50 [.d (di .i64 (2 : Int)), .d (di .i64 (3 : Int))], .dead, .fix 50 [.d (di .i64 (2 : Int)), .d (di .i64 (3 : Int))], .frame fr539 [], .fix 52 [.d (di .i64 (0 : Int)), .d (di .i64 (1 : Int))]]) rfl ?_
          obtain ⟨q552, h1⟩ := need_elim h1
          refine AO.op rfl (AOp.indexSl rfl rfl (ltb rfl) rfl rfl el25 q552.1 q552.2 ?_)
          obtain ⟨q553, h1⟩ := need_elim h1
          refine AO.op rfl (AOp.storeL (f := fun z => SV.d (keS0 z)) (l := (((g431.2.2.set ((2 : Int)).toNat x530).set ((3 : Int)).toNat x533).set ((0 : Int)).toNat (bits .xor .i64 x541 (m1 g431.2.1)))) (i := ((1 : Int)).toNat) (v := (bits .xor .i64 x546 (m1 g431.2.1))) rfl rfl rfl rfl size3 rfl rfl rfl q553 ?_)
          refine AO.nil ?_
          refine inlend (ob' := [.fix 25 [.d (.v (.slice none 0 0))], .fix 4 [.d (dbool false)], .dead, .fix 41 [.d (di .i64 a1)], .fix 41 [.d (di .i64 a1)], .fix 41 [.d (di .i64 a1)], .frame fr425 [(6, .ptr 0 0), (7, .ptr 1 0)], .fix 41 [.d (di .i64 a1)], .fix 3 (List.map sS0 ((((g431.2.2.set ((2 : Int)).toNat x530).set ((3 : Int)).toNat x533).set ((0 : Int)).toNat (bits .xor .i64 x541 (m1 g431.2.1))).set ((1 : Int)).toNat (bits .xor .i64 x546 (m1 g431.2.1)))), .frame fr437 [(1, .sl 8 1 0 (((4 : Int)).toNat) (((4 : Int)).toNat)), (2, .d (di .i64 g431.1)), (3, .ptr 7 0), (7, .d (di .i64 (4 : Int))), (8, .d (di .i64 g431.2.1)), (9, .d (di .i64 (m4 g431.1)))], .fix 41 [.d (di .i64 a1)], .frame fr527 [], .fix 52 [.d (di .i64 (0 : Int)), .d (di .i64 (1 : Int))], .fix 50 [.d (di .i64 (2 : Int)), .d (di .i64 (3 : Int))], .dead, .fix 50 [.d (di .i64 (2 : Int)), .d (di .i64 (3 : Int))], .dead, .fix 52 [.d (di .i64 (0 : Int)), .d (di .i64 (1 : Int))]]) (e' := []) (r := .tu []) rfl rfl rfl ?_
          change AO _ _ _ _ _
          refine AO.nil ?_
          refine inlend (ob' := [.fix 25 [.d (.v (.slice none 0 0))], .fix 4 [.d (dbool false)], .dead, .fix 41 [.d (di .i64 a1)], .fix 41 [.d (di .i64 a1)], .fix 41 [.d (di .i64 a1)], .frame fr425 [(6, .ptr 0 0), (7, .ptr 1 0)], .fix 41 [.d (di .i64 a1)], .fix 3 (List.map sS0 ((((g431.2.2.set ((2 : Int)).toNat x530).set ((3 : Int)).toNat x533).set ((0 : Int)).toNat (bits .xor .i64 x541 (m1 g431.2.1))).set ((1 : Int)).toNat (bits .xor .i64 x546 (m1 g431.2.1)))), .frame fr437 [(1, .sl 8 1 0 (((4 : Int)).toNat) (((4 : Int)).toNat)), (2, .d (di .i64 g431.1)), (3, .ptr 7 0), (7, .d (di .i64 (4 : Int))), (8, .d (di .i64 g431.2.1)), (9, .d (di .i64 (m4 g431.1)))], .fix 41 [.d (di .i64 a1)], .dead, .fix 52 [.d (di .i64 (0 : Int)), .d (di .i64 (1 : Int))], .fix 50 [.d (di .i64 (2 : Int)), .d (di .i64 (3 : Int))], .dead, .fix 50 [.d (di .i64 (2 : Int)), .d (di .i64 (3 : Int))], .dead, .fix 52 [.d (di .i64 (0 : Int)), .d (di .i64 (1 : Int))]]) (e' := []) (r := .tu []) rfl rfl rfl ?_
          change AO _ _ _ _ _
          refine AO.nil ?_
          refine inlend (ob' := [.fix 25 [.d (.v (.slice none 0 0))], .fix 4 [.d (dbool false)], .dead, .fix 41 [.d (di .i64 a1)], .fix 41 [.d (di .i64 a1)], .fix 41 [.d (di .i64 a1)], .frame fr425 [(6, .ptr 0 0), (7, .ptr 1 0)], .fix 41 [.d (di .i64 a1)], .fix 3 (List.map sS0 ((((g431.2.2.set ((2 : Int)).toNat x530).set ((3 : Int)).toNat x533).set ((0 : Int)).toNat (bits .xor .i64 x541 (m1 g431.2.1))).set ((1 : Int)).toNat (bits .xor .i64 x546 (m1 g431.2.1)))), .dead, .fix 41 [.d (di .i64 a1)], .dead, .fix 52 [.d (di .i64 (0 : Int)), .d (di .i64 (1 : Int))], .fix 50 [.d (di .i64 (2 : Int)), .d (di .i64 (3 : Int))], .dead, .fix 50 [.d (di .i64 (2 : Int)), .d (di .i64 (3 : Int))], .dead, .fix 52 [.d (di .i64 (0 : Int)), .d (di .i64 (1 : Int))]]) (e' := [(1, .sl 8 1 0 (((4 : Int)).toNat) (((4 : Int)).toNat)), (2, .d (di .i64 g431.1)), (3, .ptr 7 0), (7, .d (di .i64 (4 : Int))), (8, .d (di .i64 g431.2.1)), (9, .d (di .i64 (m4 g431.1)))]) (r := .tu []) rfl rfl rfl ?_
          change AO _ _ _ _ _
          refine AO.nil ?_
          change AC _ _ _ _
          refine AC.seq ?_
          refine AC.seq ?_
          refine AC.region ?_
          refine AO.op rfl (AOp.move rfl rfl (ltb rfl) rfl ?_)
          refine AO.op rfl (AOp.assign rfl rfl (ltb rfl) rfl ?_)
          refine AO.op rfl (AOp.assign rfl rfl (ltb rfl) rfl ?_)
          refine AO.nil ?_
          change AC _ _ _ _
          obtain ⟨o554, l555, h1⟩ := bind_elim h1
          refine AC.joinE (V := (List Int)) [1, 2, 3, 7, 8] [] 18 (fun g556 => []) (fun g556 => [.fix 25 [.d (.v (.slice none 0 0))], .fix 4 [.d (dbool false)], .dead, .fix 41 [.d (di .i64 a1)], .fix 41 [.d (di .i64 a1)], .fix 41 [.d (di .i64 a1)], .frame fr425 [(6, .ptr 0 0), (7, .ptr 1 0)], .fix 41 [.d (di .i64 a1)], .fix 3 (List.map sS0 g556), .dead, .fix 41 [.d (di .i64 a1)], .dead, .fix 52 [.d (di .i64 (0 : Int)), .d (di .i64 (1 : Int))], .fix 50 [.d (di .i64 (2 : Int)), .d (di .i64 (3 : Int))], .dead, .fix 50 [.d (di .i64 (2 : Int)), .d (di .i64 (3 : Int))], .dead, .fix 52 [.d (di .i64 (0 : Int)), .d (di .i64 (1 : Int))]]) (fun g556 => (p_HCoord_k16 g431 (iter (p_HCoord_l9 a1 F) n433)) g556 = some o427) rfl ?_ ?_
          · refine AC.block ?_
            refine AC.loopP (V := (Int × Int × (List Int))) (p_HCoord_l17 g431) o554 [1, 2, 3, 7, 8] [10, 11] 18 (fun g559 => [(10, .d (di .i64 g559.1)), (11, .d (di .i64 g559.2.1))]) (fun g559 => [.fix 25 [.d (.v (.slice none 0 0))], .fix 4 [.d (dbool false)], .dead, .fix 41 [.d (di .i64 a1)], .fix 41 [.d (di .i64 a1)], .fix 41 [.d (di .i64 a1)], .frame fr425 [(6, .ptr 0 0), (7, .ptr 1 0)], .fix 41 [.d (di .i64 a1)], .fix 3 (List.map sS0 g559.2.2), .dead, .fix 41 [.d (di .i64 a1)], .dead, .fix 52 [.d (di .i64 (0 : Int)), .d (di .i64 (1 : Int))], .fix 50 [.d (di .i64 (2 : Int)), .d (di .i64 (3 : Int))], .dead, .fix 50 [.d (di .i64 (2 : Int)), .d (di .i64 (3 : Int))], .dead, .fix 52 [.d (di .i64 (0 : Int)), .d (di .i64 (1 : Int))]]) F ((0 : Int), (m4 g431.1), ((((g431.2.2.set ((2 : Int)).toNat x530).set ((3 : Int)).toNat x533).set ((0 : Int)).toNat (bits .xor .i64 x541 (m1 g431.2.1))).set ((1 : Int)).toNat (bits .xor .i64 x546 (m1 g431.2.1)))) l555 rfl rfl (LeL.refl _) rfl (okU_mk rfl (okU_cons rfl (okU_cons rfl (okU_cons rfl (okU_cons rfl (okU_cons rfl (okU_cons rfl (okU_cons rfl (okU_cons rfl (okU_cons (okU_fixl (fun _ => rfl)) (okU_cons rfl (okU_cons rfl (okU_cons rfl (okU_cons rfl (okU_cons rfl (okU_cons rfl (okU_cons rfl (okU_cons rfl (okU_cons rfl okU_nil))))))))))))))))))) ?_
            intro n561 g559 h2
            unfold p_HCoord_l17 at h2
            refine AC.seq ?_
            refine AC.seq ?_
            refine AC.region ?_
            refine AO.op rfl (AOp.move rfl rfl (ltb rfl) rfl ?_)
            refine AO.op rfl (AOp.move rfl rfl (ltb rfl) rfl ?_)
            refine AO.op rfl (AOp.ilss rfl rfl (ltb rfl) rfl rfl ?_)
            refine AO.nil ?_
            change AC _ _ _ _
            refine AC.cond rfl (fun q562 => ?_) (fun q562 => ?_)
            · replace h2 := cT h2 q562
              refine AC.skip ?_
              change AC _ _ _ _
              refine AC.seq ?_
              refine AC.block ?_
              refine AC.seq ?_
              refine AC.draw 13 mixed (by kernel_rfl) ?_
              refine AD.op [1] rfl (by kernel_rfl) rfl rfl (fun _ _ h => AOp.move rfl rfl (ltb rfl) rfl h) ?_
              refine AD.op [10] rfl (by kernel_rfl) rfl rfl (fun _ _ h => AOp.move rfl rfl (ltb rfl) rfl h) ?_
              obtain ⟨q563, h2⟩ := need_elim h2
              refine AD.op [42, 43] rfl (by kernel_rfl) rfl rfl (fun _ _ h => AOp.indexSl rfl rfl (ltb rfl) rfl rfl el25 q563.1 q563.2 h) ?_
              obtain ⟨x564, q565, h2⟩ := idx_elim h2
              refine AD.op [44] rfl (by kernel_rfl) rfl rfl (fun _ _ h => AOp.load1 rfl rfl (ltb rfl) rfl agg3 rfl (atO q565.2) h) ?_
              refine AD.op [11] rfl (by kernel_rfl) rfl rfl (fun _ _ h => AOp.move rfl rfl (ltb rfl) rfl h) ?_
              refine AD.op [11] rfl (by kernel_rfl) rfl rfl (fun _ _ h => AOp.move rfl rfl (ltb rfl) rfl h) ?_
              obtain ⟨q566, h2⟩ := need_elim h2
              refine AD.op [47] rfl (by kernel_rfl) rfl rfl (fun _ _ h => AOp.ishr (n := 1) rfl rfl (ltb rfl) rfl rfl (by decide) q566 rfl h) ?_
              refine AD.op [46, 48] rfl (by kernel_rfl) rfl rfl (fun _ _ h => AOp.ibits (by simp) rfl rfl (ltb rfl) rfl rfl rfl h) ?_
              refine AD.op [49] rfl (by kernel_rfl) rfl rfl (fun _ _ h => AOp.ibits (by simp) rfl rfl (ltb rfl) rfl rfl rfl h) ?_
              refine AD.op [8] rfl (by kernel_rfl) rfl rfl (fun _ _ h => AOp.move rfl rfl (ltb rfl) rfl h) ?_
              obtain ⟨q567, h2⟩ := need_elim h2
              refine AD.op [50, 51] rfl (by kernel_rfl) rfl rfl (fun _ _ h => AOp.ishl' rfl rfl (ltb rfl) rfl rfl q567 h) ?_
              obtain ⟨q568, h2⟩ := need_elim h2
              refine AD.op [45, 52] rfl (by kernel_rfl) rfl rfl (fun _ _ h => AOp.iadd rfl rfl (ltb rfl) rfl rfl rfl q568.1 q568.2 h) ?_
              obtain ⟨q569, h2⟩ := need_elim h2
              refine AD.op [42, 43] rfl (by kernel_rfl) rfl rfl (fun _ _ h => AOp.indexSl rfl rfl (ltb rfl) rfl rfl el25 q569.1 q569.2 h) ?_
              refine AD.done ?_
              obtain ⟨q570, h2⟩ := need_elim h2
              refine AO.op rfl (AOp.storeL (f := fun z => SV.d (keS0 z)) (l := g559.2.2) (i := (g559.1).toNat) (v := (x564 + (IntKind.i64.wrap ((bits .and .i64 (bits .xor .i64 g559.2.1 (g559.2.1 / 2 ^ 1)) (1 : Int)) * 2 ^ (g431.2.1).toNat)))) rfl rfl rfl rfl size3 rfl rfl rfl q570 ?_)
              refine AO.nil ?_
              change AC _ _ _ _
              refine AC.region ?_
              refine AO.op rfl (AOp.move rfl rfl (ltb rfl) rfl ?_)
              obtain ⟨q571, h2⟩ := need_elim h2
              refine AO.op rfl (AOp.ishr (n := 1) rfl rfl (ltb rfl) rfl rfl (by decide) q571 rfl ?_)
              refine AO.op rfl (AOp.assign rfl rfl (ltb rfl) rfl ?_)
              refine AO.nil ?_
              change AC _ _ _ _
              refine AC.region ?_
              refine AO.op rfl (AOp.move rfl rfl (ltb rfl) rfl ?_)
              obtain ⟨q572, h2⟩ := need_elim h2
              refine AO.op rfl (AOp.iadd rfl rfl (ltb rfl) rfl rfl rfl q572.1 q572.2 ?_)
              refine AO.op rfl (AOp.assign rfl rfl (ltb rfl) rfl ?_)
              refine AO.nil ?_
              exact ⟨((g559.1 + (1 : Int)), (g559.2.1 / 2 ^ 1), (g559.2.2.set (g559.1).toNat (x564 + (IntKind.i64.wrap ((bits .and .i64 (bits .xor .i64 g559.2.1 (g559.2.1 / 2 ^ 1)) (1 : Int)) * 2 ^ (g431.2.1).toNat))))), _, rfl, (LeL.refl _), rfl, (okU_mk rfl (okU_cons rfl (okU_cons rfl (okU_cons rfl (okU_cons rfl (okU_cons rfl (okU_cons rfl (okU_cons rfl (okU_cons rfl (okU_cons (okU_fixl (fun _ => rfl)) (okU_cons rfl (okU_cons rfl (okU_cons rfl (okU_cons rfl (okU_cons rfl (okU_cons rfl (okU_cons rfl (okU_cons rfl (okU_cons rfl okU_nil))))))))))))))))))), h2⟩
            replace h2 := cF h2 q562
            refine AC.exit ?_
            obtain rfl := Option.some.inj h2
            exact ⟨g559.2.2, _, rfl, (LeL.refl _), rfl, (okU_mk rfl (okU_cons rfl (okU_cons rfl (okU_cons rfl (okU_cons rfl (okU_cons rfl (okU_cons rfl (okU_cons rfl (okU_cons rfl (okU_cons (okU_fixl (fun _ => rfl)) (okU_cons rfl (okU_cons rfl (okU_cons rfl (okU_cons rfl (okU_cons rfl (okU_cons rfl (okU_cons rfl (okU_cons rfl (okU_cons rfl okU_nil))))))))))))))))))), aftL h1⟩
          intro g556 h1
          unfold p_HCoord_k16 at h1
          change AC _ _ _ _
          refine AC.region ?_
          refine AO.op rfl (AOp.move rfl rfl (ltb rfl) rfl ?_)
          refine AO.op rfl (AOp.move rfl rfl (ltb rfl) rfl ?_)
          obtain ⟨q557, h1⟩ := need_elim h1
          refine AO.op rfl (AOp.ishr' rfl rfl (ltb rfl) rfl rfl q557.1 q557.2 ?_)
          refine AO.op rfl (AOp.assign rfl rfl (ltb rfl) rfl ?_)
          refine AO.nil ?_
          change AC _ _ _ _
          refine AC.region ?_
          refine AO.op rfl (AOp.move rfl rfl (ltb rfl) rfl ?_)
          obtain ⟨q558, h1⟩ := need_elim h1
          refine AO.op rfl (AOp.iadd rfl rfl (ltb rfl) rfl rfl rfl q558.1 q558.2 ?_)
          refine AO.op rfl (AOp.assign rfl rfl (ltb rfl) rfl ?_)
          refine AO.nil ?_
          exact ⟨((g431.1 / 2 ^ ((4 : Int)).toNat), (g431.2.1 + (1 : Int)), g556), _, rfl, (LeL.refl _), rfl, (okU_mk rfl (okU_cons rfl (okU_cons rfl (okU_cons rfl (okU_cons rfl (okU_cons rfl (okU_cons rfl (okU_cons rfl (okU_cons rfl (okU_cons (okU_fixl (fun _ => rfl)) okU_nil)))))))))), h1⟩
        replace h1 := cF h1 q526
        refine AC.joinP (V := Bool) [1, 2, 3, 10] [37] 11 (fun g573 => [(37, .d (dbool g573))]) (fun g573 => [.fix 25 [.d (.v (.slice none 0 0))], .fix 4 [.d (dbool false)], .dead, .fix 41 [.d (di .i64 a1)], .fix 41 [.d (di .i64 a1)], .fix 41 [.d (di .i64 a1)], .frame fr425 [(6, .ptr 0 0), (7, .ptr 1 0)], .fix 41 [.d (di .i64 a1)], .fix 3 (List.map sS0 g431.2.2), .frame fr437 [(1, .sl 8 1 0 (((4 : Int)).toNat) (((4 : Int)).toNat)), (2, .d (di .i64 g431.1)), (3, .ptr 7 0), (7, .d (di .i64 (4 : Int))), (8, .d (di .i64 g431.2.1)), (9, .d (di .i64 (m4 g431.1)))], .fix 41 [.d (di .i64 a1)]]) (fun g573 => (p_HCoord_k18 F g431 (iter (p_HCoord_l9 a1 F) n433)) g573 = some o427) rfl ?_ ?_
        · refine AC.seq ?_
          refine AC.region ?_
          refine AO.op rfl (AOp.ieql rfl rfl (ltb rfl) rfl rfl ?_)
          refine AO.op rfl (AOp.assign rfl rfl (ltb rfl) rfl ?_)
          refine AO.nil ?_
          change AC _ _ _ _
          refine AC.cond rfl (fun q887 => ?_) (fun q887 => ?_)
          · replace h1 := cT h1 q887
            refine AC.skip ?_
            exact ⟨(decide ((m4 g431.1) = (5 : Int))), _, rfl, (LeL.refl _), rfl, (okU_mk rfl (okU_cons rfl (okU_cons rfl (okU_cons rfl (okU_cons rfl (okU_cons rfl (okU_cons rfl (okU_cons rfl (okU_cons rfl (okU_cons (okU_fixl (fun _ => rfl)) (okU_cons rfl (okU_cons rfl okU_nil)))))))))))), h1⟩
          replace h1 := cF h1 q887
          refine AC.region ?_
          refine AO.op rfl (AOp.ieql rfl rfl (ltb rfl) rfl rfl ?_)
          refine AO.op rfl (AOp.assign rfl rfl (ltb rfl) rfl ?_)
          refine AO.nil ?_
          exact ⟨(decide ((m4 g431.1) = (6 : Int))), _, rfl, (LeL.refl _), rfl, (okU_mk rfl (okU_cons rfl (okU_cons rfl (okU_cons rfl (okU_cons rfl (okU_cons rfl (okU_cons rfl (okU_cons rfl (okU_cons rfl (okU_cons (okU_fixl (fun _ => rfl)) (okU_cons rfl (okU_cons rfl okU_nil)))))))))))), h1⟩
        intro g573 h1
        unfold p_HCoord_k18 at h1
        refine AC.cond rfl (fun q574 => ?_) (fun q574 => ?_)
        · replace h1 := cT h1 q574
          refine AC.region ?_
          refine AO.op rfl (AOp.move rfl rfl (ltb rfl) rfl ?_)
          refine AO.op rfl (AOp.move rfl rfl (ltb rfl) rfl ?_)
          refine AO.op rfl (AOp.move rfl rfl (ltb rfl) rfl ?_)
          refine AO.op rfl (AOp.build rfl rfl (ltb rfl) zero52 rfl places52 rfl rfl ?_)
          refine AO.op rfl (AOp.build rfl rfl (ltb rfl) zero50 rfl places50 rfl rfl ?_)
          refine AO.op rfl (AOp.inl [] (by kernel_rfl) Tryd.func31 rfl Tryd.ntmps31 rfl rfl (ltb rfl) rfl (leb rfl) rfl ?_)
          intro fr575
          refine AC.seq ?_
          refine AC.region ?_
          refine AO.op rfl (AOp.box rfl rfl (ltb rfl) rfl rfl ?_)
          refine AO.op rfl (AOp.box rfl rfl (ltb rfl) rfl rfl ?_)
          refine AO.nil ?_
          change AC _ _ _ _
          refine AC.seq ?_
          refine AC.region ?_
          refine AO.op rfl (AOp.move rfl rfl (ltb rfl) rfl ?_)
          refine AO.nil ?_
          change AC _ _ _ _
          refine AC.condT rfl rfl ?_
          refine AC.seq ?_
          refine AC.region ?_
          refine AO.op rfl (AOp.loadN rfl rfl (ltb rfl) rfl agg50 size50 rfl (leb rfl) rfl ?_)
          refine AO.op rfl (AOp.makeIfc rfl rfl (ltb rfl) rfl conc50 ?_)
          refine AO.op rfl (AOp.move rfl rfl (ltb rfl) rfl ?_)
          refine AO.op rfl (AOp.move rfl rfl (ltb rfl) rfl ?_)
          refine AO.op rfl (AOp.inlE [1, 2, 8] (EntersS.meth (by kernel_rfl) rfl rfl rfl meth50_pub_orthodrome_pub_gonum_spatial_curve_do rfl rfl) Tryd.func26 rfl Tryd.ntmps26 rfl (ltb rfl) (leb rfl) rfl ?_)
          intro fr576
          refine AC.seq ?_
          refine AC.region ?_
          refine AO.op rfl (AOp.box rfl rfl (ltb rfl) rfl rfl ?_)
          refine AO.nil ?_
          change AC _ _ _ _
          obtain ⟨q577, h1⟩ := need_elim h1
          obtain ⟨x578, q579, h1⟩ := idx_elim h1
          obtain ⟨q580, h1⟩ := need_elim h1
          obtain ⟨x581, q582, h1⟩ := idx_elim h1
          obtain ⟨q583, h1⟩ := need_elim h1
          obtain ⟨q584, h1⟩ := need_elim h1
          refine AC.drawS [0, 1, 2, 3, 4, 5, 6, 7, 8, 9, 10, 11, 12, 13, 14, 15, 16, 17] [17] [18, 19] (fun L => [.fix 25 [.d (.v (.slice none 0 0))], .fix 4 [.d (dbool false)], .dead, .fix 41 [.d (di .i64 a1)], .fix 41 [.d (di .i64 a1)], .fix 41 [.d (di .i64 a1)], .frame fr425 [(6, .ptr 0 0), (7, .ptr 1 0)], .fix 41 [.d (di .i64 a1)], bif L 17 then .fix 3 (List.map sS0 (g431.2.2.set ((2 : Int)).toNat x578)) else .fix 3 (List.map sS0 g431.2.2), .frame fr437 [(1, .sl 8 1 0 (((4 : Int)).toNat) (((4 : Int)).toNat)), (2, .d (di .i64 g431.1)), (3, .ptr 7 0), (7, .d (di .i64 (4 : Int))), (8, .d (di .i64 g431.2.1)), (9, .d (di .i64 (m4 g431.1)))], .fix 41 [.d (di .i64 a1)], .frame fr575 [], .fix 52 [.d (di .i64 (1 : Int)), .d (di .i64 (2 : Int))], .fix 50 [.d (di .i64 (2 : Int)), .d (di .i64 (3 : Int))], .frame fr576 [(1, .d (di .i64 g431.2.1)), (2, .sl 8 1 0 (((4 : Int)).toNat) (((4 : Int)).toNat)), (8, .ptr 12 0)], .fix 50 [.d (di .i64 (2 : Int)), .d (di .i64 (3 : Int))]]) [(17, (fun _ => true))] mixed (by kernel_rfl) (fun L L' h => by simp only [h 17 (by decide)]) rfl ?_
          refine AS.op [2] [] [17] [] rfl rfl rfl (by kernel_rfl) (by kernel_rfl) rfl rfl (fun _ _ _ h => AOp.move rfl rfl (ltb rfl) rfl h) (by kernel_rfl) ?_
          refine AS.op [3] [] [17] [] rfl rfl rfl (by kernel_rfl) (by kernel_rfl) rfl rfl (fun _ _ _ h => AOp.fieldAddr rfl rfl (ltb rfl) rfl fo50_0 h) (by kernel_rfl) ?_
          refine AS.op [7] [] [17] [] rfl rfl rfl (by kernel_rfl) (by kernel_rfl) rfl rfl (fun _ _ _ h => AOp.load1 rfl rfl (ltb rfl) rfl agg3 rfl rfl h) (by kernel_rfl) ?_
          refine AS.op [2] [] [] [17] rfl rfl rfl (by kernel_rfl) (by kernel_rfl) rfl rfl (fun _ _ _ h => AOp.move rfl rfl (ltb rfl) rfl h) (by kernel_rfl) ?_
          refine AS.op [3] [] [] [17] rfl rfl rfl (by kernel_rfl) (by kernel_rfl) rfl rfl (fun _ _ _ h => AOp.fieldAddr rfl rfl (ltb rfl) rfl fo50_1 h) (by kernel_rfl) ?_
          refine AS.op [10] [] [] [17] rfl rfl rfl (by kernel_rfl) (by kernel_rfl) rfl rfl (fun _ _ _ h => AOp.load1 rfl rfl (ltb rfl) rfl agg3 rfl rfl h) (by kernel_rfl) ?_
          refine AS.op [2] [] [17] [] rfl rfl rfl (by kernel_rfl) (by kernel_rfl) rfl rfl (fun _ _ _ h => AOp.move rfl rfl (ltb rfl) rfl h) (by kernel_rfl) ?_
          refine AS.op [3] [] [17] [] rfl rfl rfl (by kernel_rfl) (by kernel_rfl) rfl rfl (fun _ _ _ h => AOp.fieldAddr rfl rfl (ltb rfl) rfl fo50_1 h) (by kernel_rfl) ?_
          refine AS.op [13] [] [17] [] rfl rfl rfl (by kernel_rfl) (by kernel_rfl) rfl rfl (fun _ _ _ h => AOp.load1 rfl rfl (ltb rfl) rfl agg3 rfl rfl h) (by kernel_rfl) ?_
          refine AS.op [12, 14] [] [17] [] rfl rfl rfl (by kernel_rfl) (by kernel_rfl) rfl rfl (fun _ _ _ h => AOp.indexSl rfl rfl (ltb rfl) rfl rfl el25 q577.1 q577.2 h) (by kernel_rfl) ?_
          refine AS.op [15] [] [17] [] rfl rfl rfl (by kernel_rfl) (by kernel_rfl) rfl rfl (fun _ _ _ h => AOp.load1 rfl rfl (ltb rfl) rfl agg3 rfl (atO q579.2) h) (by kernel_rfl) ?_
          refine AS.op [2] [] [17] [] rfl rfl rfl (by kernel_rfl) (by kernel_rfl) rfl rfl (fun _ _ _ h => AOp.move rfl rfl (ltb rfl) rfl h) (by kernel_rfl) ?_
          refine AS.op [3] [] [17] [] rfl rfl rfl (by kernel_rfl) (by kernel_rfl) rfl rfl (fun _ _ _ h => AOp.fieldAddr rfl rfl (ltb rfl) rfl fo50_0 h) (by kernel_rfl) ?_
          refine AS.op [18] [] [17] [] rfl rfl rfl (by kernel_rfl) (by kernel_rfl) rfl rfl (fun _ _ _ h => AOp.load1 rfl rfl (ltb rfl) rfl agg3 rfl rfl h) (by kernel_rfl) ?_
          refine AS.op [17, 19] [] [17] [] rfl rfl rfl (by kernel_rfl) (by kernel_rfl) rfl rfl (fun _ _ _ h => AOp.indexSl rfl rfl (ltb rfl) rfl rfl el25 q580.1 q580.2 h) (by kernel_rfl) ?_
          refine AS.op [20] [] [17] [] rfl rfl rfl (by kernel_rfl) (by kernel_rfl) rfl rfl (fun _ _ _ h => AOp.load1 rfl rfl (ltb rfl) rfl agg3 rfl (atO q582.2) h) (by kernel_rfl) ?_
          refine AS.op [6, 8] [] [17] [] rfl rfl rfl (by kernel_rfl) (by kernel_rfl) rfl rfl (fun _ _ _ h => AOp.indexSl rfl rfl (ltb rfl) rfl rfl el25 q583.1 q583.2 h) (by kernel_rfl) ?_
          refine AS.mid0 [16, 22] [] [17] [] rfl rfl rfl rfl (by kernel_rfl) (by kernel_rfl) rfl rfl (fun _ _ _ h => AOp.storeL (f := fun z => SV.d (keS0 z)) (l := g431.2.2) (i := ((2 : Int)).toNat) (v := x578) rfl rfl rfl rfl size3 rfl rfl rfl q584 (AO.dropT h)) (by kernel_rfl) rfl ?_
          refine AS.done ?_
          refine AO.objs (obs' := [.fix 25 [.d (.v (.slice none 0 0))], .fix 4 [.d (dbool false)], .dead, .fix 41 [.d (di .i64 a1)], .fix 41 [.d (di .i64 a1)], .fix 41 [.d (di .i64 a1)], .frame fr425 [(6, .ptr 0 0), (7, .ptr 1 0)], .fix 41 [.d (di .i64 a1)], .fix 3 (List.map sS0 (g431.2.2.set ((2 : Int)).toNat x578)), .frame fr437 [(1, .sl 8 1 0 (((4 : Int)).toNat) (((4 : Int)).toNat)), (2, .d (di .i64 g431.1)), (3, .ptr 7 0), (7, .d (di .i64 (4 : Int))), (8, .d (di .i64 g431.2.1)), (9, .d (di .i64 (m4 g431.1)))], .fix 41 [.d (di .i64 a1)], .frame fr575 [], .fix 52 [.d (di .i64 (1 : Int)), .d (di .i64 (2 : Int))], .fix 50 [.d (di .i64 (2 : Int)), .d (di .i64 (3 : Int))], .frame fr576 [(1, .d (di .i64 g431.2.1)), (2, .sl 8 1 0 (((4 : Int)).toNat) (((4 : Int)).toNat)), (8, .ptr 12 0)], .fix 50 [.d (di .i64 (2 : Int)), .d (di .i64 (3 : Int))]]) rfl ?_
          obtain ⟨q585, h1⟩ := need_elim h1
          refine AO.op rfl (AOp.indexSl rfl rfl (ltb rfl) rfl rfl el25 q585.1 q585.2 ?_)
          obtain ⟨q586, h1⟩ := need_elim h1
          refine AO.op rfl (AOp.storeL (f := fun z => SV.d (keS0 z)) (l := (g431.2.2.set ((2 : Int)).toNat x578)) (i := ((3 : Int)).toNat) (v := x581) rfl rfl rfl rfl size3 rfl rfl rfl q586 ?_)
          refine AO.nil ?_
          refine inlend (ob' := [.fix 25 [.d (.v (.slice none 0 0))], .fix 4 [.d (dbool false)], .dead, .fix 41 [.d (di .i64 a1)], .fix 41 [.d (di .i64 a1)], .fix 41 [.d (di .i64 a1)], .frame fr425 [(6, .ptr 0 0), (7, .ptr 1 0)], .fix 41 [.d (di .i64 a1)], .fix 3 (List.map sS0 ((g431.2.2.set ((2 : Int)).toNat x578).set ((3 : Int)).toNat x581)), .frame fr437 [(1, .sl 8 1 0 (((4 : Int)).toNat) (((4 : Int)).toNat)), (2, .d (di .i64 g431.1)), (3, .ptr 7 0), (7, .d (di .i64 (4 : Int))), (8, .d (di .i64 g431.2.1)), (9, .d (di .i64 (m4 g431.1)))], .fix 41 [.d (di .i64 a1)], .frame fr575 [], .fix 52 [.d (di .i64 (1 : Int)), .d (di .i64 (2 : Int))], .fix 50 [.d (di .i64 (2 : Int)), .d (di .i64 (3 : Int))], .dead, .fix 50 [.d (di .i64 (2 : Int)), .d (di .i64 (3 : Int))]]) (e' := [(1, .d (di .i64 g431.2.1)), (2, .sl 8 1 0 (((4 : Int)).toNat) (((4 : Int)).toNat)), (8, .ptr 12 0)]) (r := .tu []) rfl rfl rfl ?_
          change AO _ _ _ _ _
          refine AO.nil ?_
          change AC _ _ _ _
          refine AC.region ?_
          refine AO.op rfl (AOp.loadN rfl rfl (ltb rfl) rfl agg52 size52 rfl (leb rfl) rfl ?_)
          refine AO.op rfl (AOp.makeIfc rfl rfl (ltb rfl) rfl conc52 ?_)
          refine AO.op rfl (AOp.move rfl rfl (ltb rfl) rfl ?_)
          refine AO.op rfl (AOp.move rfl rfl (ltb rfl) rfl ?_)
          refine AO.op rfl (AOp.inlE [] (EntersS.meth (by kernel_rfl) rfl rfl rfl meth52_pub_orthodrome_pub_gonum_spatial_curve_do rfl rfl) Tryd.func27 rfl Tryd.ntmps27 rfl (ltb rfl) (leb rfl) rfl ?_)
          intro fr587
          refine AC.seq ?_
          refine AC.region ?_
          refine AO.op rfl (AOp.box rfl rfl (ltb rfl) rfl rfl ?_)
          refine AO.nil ?_
          change AC _ _ _ _
          obtain ⟨q588, h1⟩ := need_elim h1
          obtain ⟨x589, q590, h1⟩ := idx_elim h1
          obtain ⟨q591, h1⟩ := need_elim h1
          obtain ⟨q592, h1⟩ := need_elim h1
          obtain ⟨q593, h1⟩ := need_elim h1
          obtain ⟨x594, q595, h1⟩ := idx_elim h1
          obtain ⟨q596, h1⟩ := need_elim h1
          obtain ⟨q597, h1⟩ := need_elim h1
          obtain ⟨q598, h1⟩ := need_elim h1
          obtain ⟨q599, h1⟩ := need_elim h1
          refine AC.drawS [0, 1, 2, 3, 4, 5, 6, 7, 8, 9, 10, 11, 12, 13, 14, 15, 16, 17, 18, 19, 20, 21, 22, 23, 24, 25] [25] [26, 27] (fun L => [.fix 25 [.d (.v (.slice none 0 0))], .fix 4 [.d (dbool false)], .dead, .fix 41 [.d (di .i64 a1)], .fix 41 [.d (di .i64 a1)], .fix 41 [.d (di .i64 a1)], .frame fr425 [(6, .ptr 0 0), (7, .ptr 1 0)], .fix 41 [.d (di .i64 a1)], bif L 25 then .fix 3 (List.map sS0 (((g431.2.2.set ((2 : Int)).toNat x578).set ((3 : Int)).toNat x581).set ((1 : Int)).toNat (bits .xor .i64 x589 (m1 g431.2.1)))) else .fix 3 (List.map sS0 ((g431.2.2.set ((2 : Int)).toNat x578).set ((3 : Int)).toNat x581)), .frame fr437 [(1, .sl 8 1 0 (((4 : Int)).toNat) (((4 : Int)).toNat)), (2, .d (di .i64 g431.1)), (3, .ptr 7 0), (7, .d (di .i64 (4 : Int))), (8, .d (di .i64 g431.2.1)), (9, .d (di .i64 (m4 g431.1)))], .fix 41 [.d (di .i64 a1)], .frame fr575 [], .fix 52 [.d (di .i64 (1 : Int)), .d (di .i64 (2 : Int))], .fix 50 [.d (di .i64 (2 : Int)), .d (di .i64 (3 : Int))], .dead, .fix 50 [.d (di .i64 (2 : Int)), .d (di .i64 (3 : Int))], .frame fr587 [], .fix 52 [.d (di .i64 (1 : Int)), .d (di .i64 (2 : Int))]]) [(25, (fun _ => true))] mixed (by kernel_rfl) (fun L L' h => by simp only [h 25 (by decide)]) rfl ?_
          refine AS.op [2] [] [25] [] rfl rfl rfl (by kernel_rfl) (by kernel_rfl) rfl rfl (fun _ _ _ h => AOp.move rfl rfl (ltb rfl) rfl h) (by kernel_rfl) ?_
          refine AS.op [3] [] [25] [] rfl rfl rfl (by kernel_rfl) (by kernel_rfl) rfl rfl (fun _ _ _ h => AOp.fieldAddr rfl rfl (ltb rfl) rfl fo52_0 h) (by kernel_rfl) ?_
          refine AS.op [7] [] [25] [] rfl rfl rfl (by kernel_rfl) (by kernel_rfl) rfl rfl (fun _ _ _ h => AOp.load1 rfl rfl (ltb rfl) rfl agg3 rfl rfl h) (by kernel_rfl) ?_
          refine AS.op [2] [] [] [25] rfl rfl rfl (by kernel_rfl) (by kernel_rfl) rfl rfl (fun _ _ _ h => AOp.move rfl rfl (ltb rfl) rfl h) (by kernel_rfl) ?_
          refine AS.op [3] [] [] [25] rfl rfl rfl (by kernel_rfl) (by kernel_rfl) rfl rfl (fun _ _ _ h => AOp.fieldAddr rfl rfl (ltb rfl) rfl fo52_1 h) (by kernel_rfl) ?_
          refine AS.op [10] [] [] [25] rfl rfl rfl (by kernel_rfl) (by kernel_rfl) rfl rfl (fun _ _ _ h => AOp.load1 rfl rfl (ltb rfl) rfl agg3 rfl rfl h) (by kernel_rfl) ?_
          refine AS.op [2] [] [25] [] rfl rfl rfl (by kernel_rfl) (by kernel_rfl) rfl rfl (fun _ _ _ h => AOp.move rfl rfl (ltb rfl) rfl h) (by kernel_rfl) ?_
          refine AS.op [3] [] [25] [] rfl rfl rfl (by kernel_rfl) (by kernel_rfl) rfl rfl (fun _ _ _ h => AOp.fieldAddr rfl rfl (ltb rfl) rfl fo52_1 h) (by kernel_rfl) ?_
          refine AS.op [13] [] [25] [] rfl rfl rfl (by kernel_rfl) (by kernel_rfl) rfl rfl (fun _ _ _ h => AOp.load1 rfl rfl (ltb rfl) rfl agg3 rfl rfl h) (by kernel_rfl) ?_
          refine AS.op [12, 14] [] [25] [] rfl rfl rfl (by kernel_rfl) (by kernel_rfl) rfl rfl (fun _ _ _ h => AOp.indexSl rfl rfl (ltb rfl) rfl rfl el25 q588.1 q588.2 h) (by kernel_rfl) ?_
          refine AS.op [15] [] [25] [] rfl rfl rfl (by kernel_rfl) (by kernel_rfl) rfl rfl (fun _ _ _ h => AOp.load1 rfl rfl (ltb rfl) rfl agg3 rfl (atO q590.2) h) (by kernel_rfl) ?_
          refine AS.op [1] [] [25] [] rfl rfl rfl (by kernel_rfl) (by kernel_rfl) rfl rfl (fun _ _ _ h => AOp.move rfl rfl (ltb rfl) rfl h) (by kernel_rfl) ?_
          refine AS.op [17] [] [25] [] rfl rfl rfl (by kernel_rfl) (by kernel_rfl) rfl rfl (fun _ _ _ h => AOp.ishl' rfl rfl (ltb rfl) rfl rfl q591 h) (by kernel_rfl) ?_
          refine AS.op [18] [] [25] [] rfl rfl rfl (by kernel_rfl) (by kernel_rfl) rfl rfl (fun _ _ _ h => AOp.isub rfl rfl (ltb rfl) rfl rfl rfl q592.1 q592.2 h) (by kernel_rfl) ?_
          refine AS.op [16, 19] [] [25] [] rfl rfl rfl (by kernel_rfl) (by kernel_rfl) rfl rfl (fun _ _ _ h => AOp.ibits (by simp) rfl rfl (ltb rfl) rfl rfl rfl h) (by kernel_rfl) ?_
          refine AS.op [2] [] [25] [] rfl rfl rfl (by kernel_rfl) (by kernel_rfl) rfl rfl (fun _ _ _ h => AOp.move rfl rfl (ltb rfl) rfl h) (by kernel_rfl) ?_
          refine AS.op [3] [] [25] [] rfl rfl rfl (by kernel_rfl) (by kernel_rfl) rfl rfl (fun _ _ _ h => AOp.fieldAddr rfl rfl (ltb rfl) rfl fo52_0 h) (by kernel_rfl) ?_
          refine AS.op [22] [] [25] [] rfl rfl rfl (by kernel_rfl) (by kernel_rfl) rfl rfl (fun _ _ _ h => AOp.load1 rfl rfl (ltb rfl) rfl agg3 rfl rfl h) (by kernel_rfl) ?_
          refine AS.op [21, 23] [] [25] [] rfl rfl rfl (by kernel_rfl) (by kernel_rfl) rfl rfl (fun _ _ _ h => AOp.indexSl rfl rfl (ltb rfl) rfl rfl el25 q593.1 q593.2 h) (by kernel_rfl) ?_
          refine AS.op [24] [] [25] [] rfl rfl rfl (by kernel_rfl) (by kernel_rfl) rfl rfl (fun _ _ _ h => AOp.load1 rfl rfl (ltb rfl) rfl agg3 rfl (atO q595.2) h) (by kernel_rfl) ?_
          refine AS.op [1] [] [] [25] rfl rfl rfl (by kernel_rfl) (by kernel_rfl) rfl rfl (fun _ _ _ h => AOp.move rfl rfl (ltb rfl) rfl h) (by kernel_rfl) ?_
          refine AS.op [26] [] [] [25] rfl rfl rfl (by kernel_rfl) (by kernel_rfl) rfl rfl (fun _ _ _ h => AOp.ishl' rfl rfl (ltb rfl) rfl rfl q596 h) (by kernel_rfl) ?_
          refine AS.op [27] [] [] [25] rfl rfl rfl (by kernel_rfl) (by kernel_rfl) rfl rfl (fun _ _ _ h => AOp.isub rfl rfl (ltb rfl) rfl rfl rfl q597.1 q597.2 h) (by kernel_rfl) ?_
          refine AS.op [25, 28] [] [] [25] rfl rfl rfl (by kernel_rfl) (by kernel_rfl) rfl rfl (fun _ _ _ h => AOp.ibits (by simp) rfl rfl (ltb rfl) rfl rfl rfl h) (by kernel_rfl) ?_
          refine AS.op [6, 8] [] [25] [] rfl rfl rfl (by kernel_rfl) (by kernel_rfl) rfl rfl (fun _ _ _ h => AOp.indexSl rfl rfl (ltb rfl) rfl rfl el25 q598.1 q598.2 h) (by kernel_rfl) ?_
          refine AS.mid0 [20, 30] [] [25] [] rfl rfl rfl rfl (by kernel_rfl) (by kernel_rfl) rfl rfl (fun _ _ _ h => AOp.storeL (f := fun z => SV.d (keS0 z)) (l := ((g431.2.2.set ((2 : Int)).toNat x578).set ((3 : Int)).toNat x581)) (i := ((1 : Int)).toNat) (v := (bits .xor .i64 x589 (m1 g431.2.1))) rfl rfl rfl rfl size3 rfl rfl rfl q599 (AO.dropT h)) (by kernel_rfl) rfl ?_
          refine AS.done ?_
          refine AO.objs (obs' := [.fix 25 [.d (.v (.slice none 0 0))], .fix 4 [.d (dbool false)], .dead, .fix 41 [.d (di .i64 a1)], .fix 41 [.d (di .i64 a1)], .fix 41 [.d (di .i64 a1)], .frame fr425 [(6, .ptr 0 0), (7, .ptr 1 0)], .fix 41 [.d (di .i64 a1)], .fix 3 (List.map sS0 (((g431.2.2.set ((2 : Int)).toNat x578).set ((3 : Int)).toNat x581).set ((1 : Int)).toNat (bits .xor .i64 x589 (m1 g431.2.1)))), .frame fr437 [(1, .sl 8 1 0 (((4 : Int)).toNat) (((4 : Int)).toNat)), (2, .d (di .i64 g431.1)), (3, .ptr 7 0), (7, .d (di .i64 (4 : Int))), (8, .d (di .i64 g431.2.1)), (9, .d (di .i64 (m4 g431.1)))], .fix 41 [.d (di .i64 a1)], .frame fr575 [], .fix 52 [.d (di .i64 (1 : Int)), .d (di .i64 (2 : Int))], .fix 50 [.d (di .i64 (2 : Int)), .d (di .i64 (3 : Int))], .dead, .fix 50 [.d (di .i64 (2 : Int)), .d (di .i64 (3 : Int))], .frame fr587 [], .fix 52 [.d (di .i64 (1 : Int)), .d (di .i64 (2 : Int))]]) rfl ?_
          obtain ⟨q600, h1⟩ := need_elim h1
          refine AO.op rfl (AOp.indexSl rfl rfl (ltb rfl) rfl rfl el25 q600.1 q600.2 ?_)
          obtain ⟨q601, h1⟩ := need_elim h1
          refine AO.op rfl (AOp.storeL (f := fun z => SV.d (keS0 z)) (l := (((g431.2.2.set ((2 : Int)).toNat x578).set ((3 : Int)).toNat x581).set ((1 : Int)).toNat (bits .xor .i64 x589 (m1 g431.2.1)))) (i := ((2 : Int)).toNat) (v := (bits .xor .i64 x594 (m1 g431.2.1))) rfl rfl rfl rfl size3 rfl rfl rfl q601 ?_)
          refine AO.nil ?_
          refine inlend (ob' := [.fix 25 [.d (.v (.slice none 0 0))], .fix 4 [.d (dbool false)], .dead, .fix 41 [.d (di .i64 a1)], .fix 41 [.d (di .i64 a1)], .fix 41 [.d (di .i64 a1)], .frame fr425 [(6, .ptr 0 0), (7, .ptr 1 0)], .fix 41 [.d (di .i64 a1)], .fix 3 (List.map sS0 ((((g431.2.2.set ((2 : Int)).toNat x578).set ((3 : Int)).toNat x581).set ((1 : Int)).toNat (bits .xor .i64 x589 (m1 g431.2.1))).set ((2 : Int)).toNat (bits .xor .i64 x594 (m1 g431.2.1)))), .frame fr437 [(1, .sl 8 1 0 (((4 : Int)).toNat) (((4 : Int)).toNat)), (2, .d (di .i64 g431.1)), (3, .ptr 7 0), (7, .d (di .i64 (4 : Int))), (8, .d (di .i64 g431.2.1)), (9, .d (di .i64 (m4 g431.1)))], .fix 41 [.d (di .i64 a1)], .frame fr575 [], .fix 52 [.d (di .i64 (1 : Int)), .d (di .i64 (2 : Int))], .fix 50 [.d (di .i64 (2 : Int)), .d (di .i64 (3 : Int))], .dead, .fix 50 [.d (di .i64 (2 : Int)), .d (di .i64 (3 : Int))], .dead, .fix 52 [.d (di .i64 (1 : Int)), .d (di .i64 (2 : Int))]]) (e' := []) (r := .tu []) rfl rfl rfl ?_
          change AO _ _ _ _ _
          refine AO.nil ?_
          refine inlend (ob' := [.fix 25 [.d (.v (.slice none 0 0))], .fix 4 [.d (dbool false)], .dead, .fix 41 [.d (di .i64 a1)], .fix 41 [.d (di .i64 a1)], .fix 41 [.d (di .i64 a1)], .frame fr425 [(6, .ptr 0 0), (7, .ptr 1 0)], .fix 41 [.d (di .i64 a1)], .fix 3 (List.map sS0 ((((g431.2.2.set ((2 : Int)).toNat x578).set ((3 : Int)).toNat x581).set ((1 : Int)).toNat (bits .xor .i64 x589 (m1 g431.2.1))).set ((2 : Int)).toNat (bits .xor .i64 x594 (m1 g431.2.1)))), .frame fr437 [(1, .sl 8 1 0 (((4 : Int)).toNat) (((4 : Int)).toNat)), (2, .d (di .i64 g431.1)), (3, .ptr 7 0), (7, .d (di .i64 (4 : Int))), (8, .d (di .i64 g431.2.1)), (9, .d (di .i64 (m4 g431.1)))], .fix 41 [.d (di .i64 a1)], .dead, .fix 52 [.d (di .i64 (1 : Int)), .d (di .i64 (2 : Int))], .fix 50 [.d (di .i64 (2 : Int)), .d (di .i64 (3 : Int))], .dead, .fix 50 [.d (di .i64 (2 : Int)), .d (di .i64 (3 : Int))], .dead, .fix 52 [.d (di .i64 (1 : Int)), .d (di .i64 (2 : Int))]]) (e' := []) (r := .tu []) rfl rfl rfl ?_
          change AO _ _ _ _ _
          refine AO.nil ?_
          refine inlend (ob' := [.fix 25 [.d (.v (.slice none 0 0))], .fix 4 [.d (dbool false)], .dead, .fix 41 [.d (di .i64 a1)], .fix 41 [.d (di .i64 a1)], .fix 41 [.d (di .i64 a1)], .frame fr425 [(6, .ptr 0 0), (7, .ptr 1 0)], .fix 41 [.d (di .i64 a1)], .fix 3 (List.map sS0 ((((g431.2.2.set ((2 : Int)).toNat x578).set ((3 : Int)).toNat x581).set ((1 : Int)).toNat (bits .xor .i64 x589 (m1 g431.2.1))).set ((2 : Int)).toNat (bits .xor .i64 x594 (m1 g431.2.1)))), .dead, .fix 41 [.d (di .i64 a1)], .dead, .fix 52 [.d (di .i64 (1 : Int)), .d (di .i64 (2 : Int))], .fix 50 [.d (di .i64 (2 : Int)), .d (di .i64 (3 : Int))], .dead, .fix 50 [.d (di .i64 (2 : Int)), .d (di .i64 (3 : Int))], .dead, .fix 52 [.d (di .i64 (1 : Int)), .d (di .i64 (2 : Int))]]) (e' := [(1, .sl 8 1 0 (((4 : Int)).toNat) (((4 : Int)).toNat)), (2, .d (di .i64 g431.1)), (3, .ptr 7 0), (7, .d (di .i64 (4 : Int))), (8, .d (di .i64 g431.2.1)), (9, .d (di .i64 (m4 g431.1)))]) (r := .tu []) rfl rfl rfl ?_
          change AO _ _ _ _ _
          refine AO.nil ?_
          change AC _ _ _ _
          refine AC.seq ?_
          refine AC.seq ?_
          refine AC.region ?_
          refine AO.op rfl (AOp.move rfl rfl (ltb rfl) rfl ?_)
          refine AO.op rfl (AOp.assign rfl rfl (ltb rfl) rfl ?_)
          refine AO.op rfl (AOp.assign rfl rfl (ltb rfl) rfl ?_)
          refine AO.nil ?_
          change AC _ _ _ _
          obtain ⟨o602, l603, h1⟩ := bind_elim h1
          refine AC.joinE (V := (List Int)) [1, 2, 3, 7, 8] [] 18 (fun g604 => []) (fun g604 => [.fix 25 [.d (.v (.slice none 0 0))], .fix 4 [.d (dbool false)], .dead, .fix 41 [.d (di .i64 a1)], .fix 41 [.d (di .i64 a1)], .fix 41 [.d (di .i64 a1)], .frame fr425 [(6, .ptr 0 0), (7, .ptr 1 0)], .fix 41 [.d (di .i64 a1)], .fix 3 (List.map sS0 g604), .dead, .fix 41 [.d (di .i64 a1)], .dead, .fix 52 [.d (di .i64 (1 : Int)), .d (di .i64 (2 : Int))], .fix 50 [.d (di .i64 (2 : Int)), .d (di .i64 (3 : Int))], .dead, .fix 50 [.d (di .i64 (2 : Int)), .d (di .i64 (3 : Int))], .dead, .fix 52 [.d (di .i64 (1 : Int)), .d (di .i64 (2 : Int))]]) (fun g604 => (p_HCoord_k19 g431 (iter (p_HCoord_l9 a1 F) n433)) g604 = some o427) rfl ?_ ?_
          · refine AC.block ?_
            refine AC.loopP (V := (Int × Int × (List Int))) (p_HCoord_l20 g431) o602 [1, 2, 3, 7, 8] [10, 11] 18 (fun g607 => [(10, .d (di .i64 g607.1)), (11, .d (di .i64 g607.2.1))]) (fun g607 => [.fix 25 [.d (.v (.slice none 0 0))], .fix 4 [.d (dbool false)], .dead, .fix 41 [.d (di .i64 a1)], .fix 41 [.d (di .i64 a1)], .fix 41 [.d (di .i64 a1)], .frame fr425 [(6, .ptr 0 0), (7, .ptr 1 0)], .fix 41 [.d (di .i64 a1)], .fix 3 (List.map sS0 g607.2.2), .dead, .fix 41 [.d (di .i64 a1)], .dead, .fix 52 [.d (di .i64 (1 : Int)), .d (di .i64 (2 : Int))], .fix 50 [.d (di .i64 (2 : Int)), .d (di .i64 (3 : Int))], .dead, .fix 50 [.d (di .i64 (2 : Int)), .d (di .i64 (3 : Int))], .dead, .fix 52 [.d (di .i64 (1 : Int)), .d (di .i64 (2 : Int))]]) F ((0 : Int), (m4 g431.1), ((((g431.2.2.set ((2 : Int)).toNat x578).set ((3 : Int)).toNat x581).set ((1 : Int)).toNat (bits .xor .i64 x589 (m1 g431.2.1))).set ((2 : Int)).toNat (bits .xor .i64 x594 (m1 g431.2.1)))) l603 rfl rfl (LeL.refl _) rfl (okU_mk rfl (okU_cons rfl (okU_cons rfl (okU_cons rfl (okU_cons rfl (okU_cons rfl (okU_cons rfl (okU_cons rfl (okU_cons rfl (okU_cons (okU_fixl (fun _ => rfl)) (okU_cons rfl (okU_cons rfl (okU_cons rfl (okU_cons rfl (okU_cons rfl (okU_cons rfl (okU_cons rfl (okU_cons rfl (okU_cons rfl okU_nil))))))))))))))))))) ?_
            intro n609 g607 h2
            unfold p_HCoord_l20 at h2
            refine AC.seq ?_
            refine AC.seq ?_
            refine AC.region ?_
            refine AO.op rfl (AOp.move rfl rfl (ltb rfl) rfl ?_)
            refine AO.op rfl (AOp.move rfl rfl (ltb rfl) rfl ?_)
            refine AO.op rfl (AOp.ilss rfl rfl (ltb rfl) rfl rfl ?_)
            refine AO.nil ?_
            change AC _ _ _ _
            refine AC.cond rfl (fun q610 => ?_) (fun q610 => ?_)
            · replace h2 := cT h2 q610
              refine AC.skip ?_
              change AC _ _ _ _
              refine AC.seq ?_
              refine AC.block ?_
              refine AC.seq ?_
              refine AC.draw 13 mixed (by kernel_rfl) ?_
              refine AD.op [1] rfl (by kernel_rfl) rfl rfl (fun _ _ h => AOp.move rfl rfl (ltb rfl) rfl h) ?_
              refine AD.op [10] rfl (by kernel_rfl) rfl rfl (fun _ _ h => AOp.move rfl rfl (ltb rfl) rfl h) ?_
              obtain ⟨q611, h2⟩ := need_elim h2
              refine AD.op [42, 43] rfl (by kernel_rfl) rfl rfl (fun _ _ h => AOp.indexSl rfl rfl (ltb rfl) rfl rfl el25 q611.1 q611.2 h) ?_
              obtain ⟨x612, q613, h2⟩ := idx_elim h2
              refine AD.op [44] rfl (by kernel_rfl) rfl rfl (fun _ _ h => AOp.load1 rfl rfl (ltb rfl) rfl agg3 rfl (atO q613.2) h) ?_
              refine AD.op [11] rfl (by kernel_rfl) rfl rfl (fun _ _ h => AOp.move rfl rfl (ltb rfl) rfl h) ?_
              refine AD.op [11] rfl (by kernel_rfl) rfl rfl (fun _ _ h => AOp.move rfl rfl (ltb rfl) rfl h) ?_
              obtain ⟨q614, h2⟩ := need_elim h2
              refine AD.op [47] rfl (by kernel_rfl) rfl rfl (fun _ _ h => AOp.ishr (n := 1) rfl rfl (ltb rfl) rfl rfl (by decide) q614 rfl h) ?_
              refine AD.op [46, 48] rfl (by kernel_rfl) rfl rfl (fun _ _ h => AOp.ibits (by simp) rfl rfl (ltb rfl) rfl rfl rfl h) ?_
              refine AD.op [49] rfl (by kernel_rfl) rfl rfl (fun _ _ h => AOp.ibits (by simp) rfl rfl (ltb rfl) rfl rfl rfl h) ?_
              refine AD.op [8] rfl (by kernel_rfl) rfl rfl (fun _ _ h => AOp.move rfl rfl (ltb rfl) rfl h) ?_
              obtain ⟨q615, h2⟩ := need_elim h2
              refine AD.op [50, 51] rfl (by kernel_rfl) rfl rfl (fun _ _ h => AOp.ishl' rfl rfl (ltb rfl) rfl rfl q615 h) ?_
              obtain ⟨q616, h2⟩ := need_elim h2
              refine AD.op [45, 52] rfl (by kernel_rfl) rfl rfl (fun _ _ h => AOp.iadd rfl rfl (ltb rfl) rfl rfl rfl q616.1 q616.2 h) ?_
              obtain ⟨q617, h2⟩ := need_elim h2
              refine AD.op [42, 43] rfl (by kernel_rfl) rfl rfl (fun _ _ h => AOp.indexSl rfl rfl (ltb rfl) rfl rfl el25 q617.1 q617.2 h) ?_
              refine AD.done ?_
              obtain ⟨q618, h2⟩ := need_elim h2
              refine AO.op rfl (AOp.storeL (f := fun z => SV.d (keS0 z)) (l := g607.2.2) (i := (g607.1).toNat) (v := (x612 + (IntKind.i64.wrap ((bits .and .i64 (bits .xor .i64 g607.2.1 (g607.2.1 / 2 ^ 1)) (1 : Int)) * 2 ^ (g431.2.1).toNat)))) rfl rfl rfl rfl size3 rfl rfl rfl q618 ?_)
              refine AO.nil ?_
              change AC _ _ _ _
              refine AC.region ?_
              refine AO.op rfl (AOp.move rfl rfl (ltb rfl) rfl ?_)
              obtain ⟨q619, h2⟩ := need_elim h2
              refine AO.op rfl (AOp.ishr (n := 1) rfl rfl (ltb rfl) rfl rfl (by decide) q619 rfl ?_)
              refine AO.op rfl (AOp.assign rfl rfl (ltb rfl) rfl ?_)
              refine AO.nil ?_
              change AC _ _ _ _
              refine AC.region ?_
              refine AO.op rfl (AOp.move rfl rfl (ltb rfl) rfl ?_)
              obtain ⟨q620, h2⟩ := need_elim h2
              refine AO.op rfl (AOp.iadd rfl rfl (ltb rfl) rfl rfl rfl q620.1 q620.2 ?_)
              refine AO.op rfl (AOp.assign rfl rfl (ltb rfl) rfl ?_)
              refine AO.nil ?_
              exact ⟨((g607.1 + (1 : Int)), (g607.2.1 / 2 ^ 1), (g607.2.2.set (g607.1).toNat (x612 + (IntKind.i64.wrap ((bits .and .i64 (bits .xor .i64 g607.2.1 (g607.2.1 / 2 ^ 1)) (1 : Int)) * 2 ^ (g431.2.1).toNat))))), _, rfl, (LeL.refl _), rfl, (okU_mk rfl (okU_cons rfl (okU_cons rfl (okU_cons rfl (okU_cons rfl (okU_cons rfl (okU_cons rfl (okU_cons rfl (okU_cons rfl (okU_cons (okU_fixl (fun _ => rfl)) (okU_cons rfl (okU_cons rfl (okU_cons rfl (okU_cons rfl (okU_cons rfl (okU_cons rfl (okU_cons rfl (okU_cons rfl (okU_cons rfl okU_nil))))))))))))))))))), h2⟩
            replace h2 := cF h2 q610
            refine AC.exit ?_
            obtain rfl := Option.some.inj h2
            exact ⟨g607.2.2, _, rfl, (LeL.refl _), rfl, (okU_mk rfl (okU_cons rfl (okU_cons rfl (okU_cons rfl (okU_cons rfl (okU_cons rfl (okU_cons rfl (okU_cons rfl (okU_cons rfl (okU_cons (okU_fixl (fun _ => rfl)) (okU_cons rfl (okU_cons rfl (okU_cons rfl (okU_cons rfl (okU_cons rfl (okU_cons rfl (okU_cons rfl (okU_cons rfl (okU_cons rfl okU_nil))))))))))))))))))), aftL h1⟩
          intro g604 h1
          unfold p_HCoord_k19 at h1
          change AC _ _ _ _
          refine AC.region ?_
          refine AO.op rfl (AOp.move rfl rfl (ltb rfl) rfl ?_)
          refine AO.op rfl (AOp.move rfl rfl (ltb rfl) rfl ?_)
          obtain ⟨q605, h1⟩ := need_elim h1
          refine AO.op rfl (AOp.ishr' rfl rfl (ltb rfl) rfl rfl q605.1 q605.2 ?_)
          refine AO.op rfl (AOp.assign rfl rfl (ltb rfl) rfl ?_)
          refine AO.nil ?_
          change AC _ _ _ _
          refine AC.region ?_
          refine AO.op rfl (AOp.move rfl rfl (ltb rfl) rfl ?_)
          obtain ⟨q606, h1⟩ := need_elim h1
          refine AO.op rfl (AOp.iadd rfl rfl (ltb rfl) rfl rfl rfl q606.1 q606.2 ?_)
          refine AO.op rfl (AOp.assign rfl rfl (ltb rfl) rfl ?_)
          refine AO.nil ?_
          exact ⟨((g431.1 / 2 ^ ((4 : Int)).toNat), (g431.2.1 + (1 : Int)), g604), _, rfl, (LeL.refl _), rfl, (okU_mk rfl (okU_cons rfl (okU_cons rfl (okU_cons rfl (okU_cons rfl (okU_cons rfl (okU_cons rfl (okU_cons rfl (okU_cons rfl (okU_cons (okU_fixl (fun _ => rfl)) okU_nil)))))))))), h1⟩
        replace h1 := cF h1 q574
        refine AC.joinP (V := Bool) [1, 2, 3, 10] [46] 11 (fun g621 => [(46, .d (dbool g621))]) (fun g621 => [.fix 25 [.d (.v (.slice none 0 0))], .fix 4 [.d (dbool false)], .dead, .fix 41 [.d (di .i64 a1)], .fix 41 [.d (di .i64 a1)], .fix 41 [.d (di .i64 a1)], .frame fr425 [(6, .ptr 0 0), (7, .ptr 1 0)], .fix 41 [.d (di .i64 a1)], .fix 3 (List.map sS0 g431.2.2), .frame fr437 [(1, .sl 8 1 0 (((4 : Int)).toNat) (((4 : Int)).toNat)), (2, .d (di .i64 g431.1)), (3, .ptr 7 0), (7, .d (di .i64 (4 : Int))), (8, .d (di .i64 g431.2.1)), (9, .d (di .i64 (m4 g431.1)))], .fix 41 [.d (di .i64 a1)]]) (fun g621 => (p_HCoord_k21 F g431 (iter (p_HCoord_l9 a1 F) n433)) g621 = some o427) rfl ?_ ?_
        · refine AC.seq ?_
          refine AC.region ?_
          refine AO.op rfl (AOp.ieql rfl rfl (ltb rfl) rfl rfl ?_)
          refine AO.op rfl (AOp.assign rfl rfl (ltb rfl) rfl ?_)
          refine AO.nil ?_
          change AC _ _ _ _
          refine AC.cond rfl (fun q886 => ?_) (fun q886 => ?_)
          · replace h1 := cT h1 q886
            refine AC.skip ?_
            exact ⟨(decide ((m4 g431.1) = (7 : Int))), _, rfl, (LeL.refl _), rfl, (okU_mk rfl (okU_cons rfl (okU_cons rfl (okU_cons rfl (okU_cons rfl (okU_cons rfl (okU_cons rfl (okU_cons rfl (okU_cons rfl (okU_cons (okU_fixl (fun _ => rfl)) (okU_cons rfl (okU_cons rfl okU_nil)))))))))))), h1⟩
          replace h1 := cF h1 q886
          refine AC.region ?_
          refine AO.op rfl (AOp.ieql rfl rfl (ltb rfl) rfl rfl ?_)
          refine AO.op rfl (AOp.assign rfl rfl (ltb rfl) rfl ?_)
          refine AO.nil ?_
          exact ⟨(decide ((m4 g431.1) = (8 : Int))), _, rfl, (LeL.refl _), rfl, (okU_mk rfl (okU_cons rfl (okU_cons rfl (okU_cons rfl (okU_cons rfl (okU_cons rfl (okU_cons rfl (okU_cons rfl (okU_cons rfl (okU_cons (okU_fixl (fun _ => rfl)) (okU_cons rfl (okU_cons rfl okU_nil)))))))))))), h1⟩
        intro g621 h1
        unfold p_HCoord_k21 at h1
        refine AC.cond rfl (fun q622 => ?_) (fun q622 => ?_)
        · replace h1 := cT h1 q622
          refine AC.region ?_
          refine AO.op rfl (AOp.build rfl rfl (ltb rfl) zero54 rfl places54 rfl rfl ?_)
          refine AO.op rfl (AOp.move rfl rfl (ltb rfl) rfl ?_)
          refine AO.op rfl (AOp.move rfl rfl (ltb rfl) rfl ?_)
          refine AO.op rfl (AOp.inl [] (by kernel_rfl) Tryd.func29 rfl Tryd.ntmps29 rfl rfl (ltb rfl) rfl (leb rfl) rfl ?_)
          intro fr623
          refine AC.seq ?_
          refine AC.region ?_
          refine AO.op rfl (AOp.box rfl rfl (ltb rfl) rfl rfl ?_)
          refine AO.nil ?_
          change AC _ _ _ _
          obtain ⟨q624, h1⟩ := need_elim h1
          obtain ⟨x625, q626, h1⟩ := idx_elim h1
          obtain ⟨q627, h1⟩ := need_elim h1
          obtain ⟨q628, h1⟩ := need_elim h1
          obtain ⟨q629, h1⟩ := need_elim h1
          obtain ⟨x630, q631, h1⟩ := idx_elim h1
          obtain ⟨q632, h1⟩ := need_elim h1
          obtain ⟨q633, h1⟩ := need_elim h1
          obtain ⟨q634, h1⟩ := need_elim h1
          obtain ⟨q635, h1⟩ := need_elim h1
          refine AC.drawS [0, 1, 2, 3, 4, 5, 6, 7, 8, 9, 10, 11, 12, 13, 14, 15, 16, 17, 18, 19, 20, 21, 22, 23, 24, 25] [25] [26, 27] (fun L => [.fix 25 [.d (.v (.slice none 0 0))], .fix 4 [.d (dbool false)], .dead, .fix 41 [.d (di .i64 a1)], .fix 41 [.d (di .i64 a1)], .fix 41 [.d (di .i64 a1)], .frame fr425 [(6, .ptr 0 0), (7, .ptr 1 0)], .fix 41 [.d (di .i64 a1)], bif L 25 then .fix 3 (List.map sS0 (g431.2.2.set ((0 : Int)).toNat (bits .xor .i64 x625 (m1 g431.2.1)))) else .fix 3 (List.map sS0 g431.2.2), .frame fr437 [(1, .sl 8 1 0 (((4 : Int)).toNat) (((4 : Int)).toNat)), (2, .d (di .i64 g431.1)), (3, .ptr 7 0), (7, .d (di .i64 (4 : Int))), (8, .d (di .i64 g431.2.1)), (9, .d (di .i64 (m4 g431.1)))], .fix 41 [.d (di .i64 a1)], .frame fr623 [], .fix 54 [.d (di .i64 (0 : Int)), .d (di .i64 (2 : Int))]]) [(25, (fun _ => true))] mixed (by kernel_rfl) (fun L L' h => by simp only [h 25 (by decide)]) rfl ?_
          refine AS.op [2] [] [25] [] rfl rfl rfl (by kernel_rfl) (by kernel_rfl) rfl rfl (fun _ _ _ h => AOp.move rfl rfl (ltb rfl) rfl h) (by kernel_rfl) ?_
          refine AS.op [3] [] [25] [] rfl rfl rfl (by kernel_rfl) (by kernel_rfl) rfl rfl (fun _ _ _ h => AOp.fieldAddr rfl rfl (ltb rfl) rfl fo54_0 h) (by kernel_rfl) ?_
          refine AS.op [7] [] [25] [] rfl rfl rfl (by kernel_rfl) (by kernel_rfl) rfl rfl (fun _ _ _ h => AOp.load1 rfl rfl (ltb rfl) rfl agg3 rfl rfl h) (by kernel_rfl) ?_
          refine AS.op [2] [] [] [25] rfl rfl rfl (by kernel_rfl) (by kernel_rfl) rfl rfl (fun _ _ _ h => AOp.move rfl rfl (ltb rfl) rfl h) (by kernel_rfl) ?_
          refine AS.op [3] [] [] [25] rfl rfl rfl (by kernel_rfl) (by kernel_rfl) rfl rfl (fun _ _ _ h => AOp.fieldAddr rfl rfl (ltb rfl) rfl fo54_1 h) (by kernel_rfl) ?_
          refine AS.op [10] [] [] [25] rfl rfl rfl (by kernel_rfl) (by kernel_rfl) rfl rfl (fun _ _ _ h => AOp.load1 rfl rfl (ltb rfl) rfl agg3 rfl rfl h) (by kernel_rfl) ?_
          refine AS.op [2] [] [25] [] rfl rfl rfl (by kernel_rfl) (by kernel_rfl) rfl rfl (fun _ _ _ h => AOp.move rfl rfl (ltb rfl) rfl h) (by kernel_rfl) ?_
          refine AS.op [3] [] [25] [] rfl rfl rfl (by kernel_rfl) (by kernel_rfl) rfl rfl (fun _ _ _ h => AOp.fieldAddr rfl rfl (ltb rfl) rfl fo54_0 h) (by kernel_rfl) ?_
          refine AS.op [13] [] [25] [] rfl rfl rfl (by kernel_rfl) (by kernel_rfl) rfl rfl (fun _ _ _ h => AOp.load1 rfl rfl (ltb rfl) rfl agg3 rfl rfl h) (by kernel_rfl) ?_
          refine AS.op [12, 14] [] [25] [] rfl rfl rfl (by kernel_rfl) (by kernel_rfl) rfl rfl (fun _ _ _ h => AOp.indexSl rfl rfl (ltb rfl) rfl rfl el25 q624.1 q624.2 h) (by kernel_rfl) ?_
          refine AS.op [15] [] [25] [] rfl rfl rfl (by kernel_rfl) (by kernel_rfl) rfl rfl (fun _ _ _ h => AOp.load1 rfl rfl (ltb rfl) rfl agg3 rfl (atO q626.2) h) (by kernel_rfl) ?_
          refine AS.op [1] [] [25] [] rfl rfl rfl (by kernel_rfl) (by kernel_rfl) rfl rfl (fun _ _ _ h => AOp.move rfl rfl (ltb rfl) rfl h) (by kernel_rfl) ?_
          refine AS.op [17] [] [25] [] rfl rfl rfl (by kernel_rfl) (by kernel_rfl) rfl rfl (fun _ _ _ h => AOp.ishl' rfl rfl (ltb rfl) rfl rfl q627 h) (by kernel_rfl) ?_
          refine AS.op [18] [] [25] [] rfl rfl rfl (by kernel_rfl) (by kernel_rfl) rfl rfl (fun _ _ _ h => AOp.isub rfl rfl (ltb rfl) rfl rfl rfl q628.1 q628.2 h) (by kernel_rfl) ?_
          refine AS.op [16, 19] [] [25] [] rfl rfl rfl (by kernel_rfl) (by kernel_rfl) rfl rfl (fun _ _ _ h => AOp.ibits (by simp) rfl rfl (ltb rfl) rfl rfl rfl h) (by kernel_rfl) ?_
          refine AS.op [2] [] [25] [] rfl rfl rfl (by kernel_rfl) (by kernel_rfl) rfl rfl (fun _ _ _ h => AOp.move rfl rfl (ltb rfl) rfl h) (by kernel_rfl) ?_
          refine AS.op [3] [] [25] [] rfl rfl rfl (by kernel_rfl) (by kernel_rfl) rfl rfl (fun _ _ _ h => AOp.fieldAddr rfl rfl (ltb rfl) rfl fo54_1 h) (by kernel_rfl) ?_
          refine AS.op [22] [] [25] [] rfl rfl rfl (by kernel_rfl) (by kernel_rfl) rfl rfl (fun _ _ _ h => AOp.load1 rfl rfl (ltb rfl) rfl agg3 rfl rfl h) (by kernel_rfl) ?_
          refine AS.op [21, 23] [] [25] [] rfl rfl rfl (by kernel_rfl) (by kernel_rfl) rfl rfl (fun _ _ _ h => AOp.indexSl rfl rfl (ltb rfl) rfl rfl el25 q629.1 q629.2 h) (by kernel_rfl) ?_
          refine AS.op [24] [] [25] [] rfl rfl rfl (by kernel_rfl) (by kernel_rfl) rfl rfl (fun _ _ _ h => AOp.load1 rfl rfl (ltb rfl) rfl agg3 rfl (atO q631.2) h) (by kernel_rfl) ?_
          refine AS.op [1] [] [] [25] rfl rfl rfl (by kernel_rfl) (by kernel_rfl) rfl rfl (fun _ _ _ h => AOp.move rfl rfl (ltb rfl) rfl h) (by kernel_rfl) ?_
          refine AS.op [26] [] [] [25] rfl rfl rfl (by kernel_rfl) (by kernel_rfl) rfl rfl (fun _ _ _ h => AOp.ishl' rfl rfl (ltb rfl) rfl rfl q632 h) (by kernel_rfl) ?_
          refine AS.op [27] [] [] [25] rfl rfl rfl (by kernel_rfl) (by kernel_rfl) rfl rfl (fun _ _ _ h => AOp.isub rfl rfl (ltb rfl) rfl rfl rfl q633.1 q633.2 h) (by kernel_rfl) ?_
          refine AS.op [25, 28] [] [] [25] rfl rfl rfl (by kernel_rfl) (by kernel_rfl) rfl rfl (fun _ _ _ h => AOp.ibits (by simp) rfl rfl (ltb rfl) rfl rfl rfl h) (by kernel_rfl) ?_
          refine AS.op [6, 8] [] [25] [] rfl rfl rfl (by kernel_rfl) (by kernel_rfl) rfl rfl (fun _ _ _ h => AOp.indexSl rfl rfl (ltb rfl) rfl rfl el25 q634.1 q634.2 h) (by kernel_rfl) ?_
          refine AS.mid0 [20, 30] [] [25] [] rfl rfl rfl rfl (by kernel_rfl) (by kernel_rfl) rfl rfl (fun _ _ _ h => AOp.storeL (f := fun z => SV.d (keS0 z)) (l := g431.2.2) (i := ((0 : Int)).toNat) (v := (bits .xor .i64 x625 (m1 g431.2.1))) rfl rfl rfl rfl size3 rfl rfl rfl q635 (AO.dropT h)) (by kernel_rfl) rfl ?_
          refine AS.done ?_
          refine AO.objs (obs' := [.fix 25 [.d (.v (.slice none 0 0))], .fix 4 [.d (dbool false)], .dead, .fix 41 [.d (di .i64 a1)], .fix 41 [.d (di .i64 a1)], .fix 41 [.d (di .i64 a1)], .frame fr425 [(6, .ptr 0 0), (7, .ptr 1 0)], .fix 41 [.d (di .i64 a1)], .fix 3 (List.map sS0 (g431.2.2.set ((0 : Int)).toNat (bits .xor .i64 x625 (m1 g431.2.1)))), .frame fr437 [(1, .sl 8 1 0 (((4 : Int)).toNat) (((4 : Int)).toNat)), (2, .d (di .i64 g431.1)), (3, .ptr 7 0), (7, .d (di .i64 (4 : Int))), (8, .d (di .i64 g431.2.1)), (9, .d (di .i64 (m4 g431.1)))], .fix 41 [.d (di .i64 a1)], .frame fr623 [], .fix 54 [.d (di .i64 (0 : Int)), .d (di .i64 (2 : Int))]]) rfl ?_
          obtain ⟨q636, h1⟩ := need_elim h1
          refine AO.op rfl (AOp.indexSl rfl rfl (ltb rfl) rfl rfl el25 q636.1 q636.2 ?_)
          obtain ⟨q637, h1⟩ := need_elim h1
          refine AO.op rfl (AOp.storeL (f := fun z => SV.d (keS0 z)) (l := (g431.2.2.set ((0 : Int)).toNat (bits .xor .i64 x625 (m1 g431.2.1)))) (i := ((2 : Int)).toNat) (v := (bits .xor .i64 x630 (m1 g431.2.1))) rfl rfl rfl rfl size3 rfl rfl rfl q637 ?_)
          refine AO.nil ?_
          refine inlend (ob' := [.fix 25 [.d (.v (.slice none 0 0))], .fix 4 [.d (dbool false)], .dead, .fix 41 [.d (di .i64 a1)], .fix 41 [.d (di .i64 a1)], .fix 41 [.d (di .i64 a1)], .frame fr425 [(6, .ptr 0 0), (7, .ptr 1 0)], .fix 41 [.d (di .i64 a1)], .fix 3 (List.map sS0 ((g431.2.2.set ((0 : Int)).toNat (bits .xor .i64 x625 (m1 g431.2.1))).set ((2 : Int)).toNat (bits .xor .i64 x630 (m1 g431.2.1)))), .frame fr437 [(1, .sl 8 1 0 (((4 : Int)).toNat) (((4 : Int)).toNat)), (2, .d (di .i64 g431.1)), (3, .ptr 7 0), (7, .d (di .i64 (4 : Int))), (8, .d (di .i64 g431.2.1)), (9, .d (di .i64 (m4 g431.1)))], .fix 41 [.d (di .i64 a1)], .dead, .fix 54 [.d (di .i64 (0 : Int)), .d (di .i64 (2 : Int))]]) (e' := []) (r := .tu []) rfl rfl rfl ?_
          change AO _ _ _ _ _
          refine AO.nil ?_
          refine inlend (ob' := [.fix 25 [.d (.v (.slice none 0 0))], .fix 4 [.d (dbool false)], .dead, .fix 41 [.d (di .i64 a1)], .fix 41 [.d (di .i64 a1)], .fix 41 [.d (di .i64 a1)], .frame fr425 [(6, .ptr 0 0), (7, .ptr 1 0)], .fix 41 [.d (di .i64 a1)], .fix 3 (List.map sS0 ((g431.2.2.set ((0 : Int)).toNat (bits .xor .i64 x625 (m1 g431.2.1))).set ((2 : Int)).toNat (bits .xor .i64 x630 (m1 g431.2.1)))), .dead, .fix 41 [.d (di .i64 a1)], .dead, .fix 54 [.d (di .i64 (0 : Int)), .d (di .i64 (2 : Int))]]) (e' := [(1, .sl 8 1 0 (((4 : Int)).toNat) (((4 : Int)).toNat)), (2, .d (di .i64 g431.1)), (3, .ptr 7 0), (7, .d (di .i64 (4 : Int))), (8, .d (di .i64 g431.2.1)), (9, .d (di .i64 (m4 g431.1)))]) (r := .tu []) rfl rfl rfl ?_
          change AO _ _ _ _ _
          refine AO.nil ?_
          change AC _ _ _ _
          refine AC.seq ?_
          refine AC.seq ?_
          refine AC.region ?_
          refine AO.op rfl (AOp.move rfl rfl (ltb rfl) rfl ?_)
          refine AO.op rfl (AOp.assign rfl rfl (ltb rfl) rfl ?_)
          refine AO.op rfl (AOp.assign rfl rfl (ltb rfl) rfl ?_)
          refine AO.nil ?_
          change AC _ _ _ _
          obtain ⟨o638, l639, h1⟩ := bind_elim h1
          refine AC.joinE (V := (List Int)) [1, 2, 3, 7, 8] [] 13 (fun g640 => []) (fun g640 => [.fix 25 [.d (.v (.slice none 0 0))], .fix 4 [.d (dbool false)], .dead, .fix 41 [.d (di .i64 a1)], .fix 41 [.d (di .i64 a1)], .fix 41 [.d (di .i64 a1)], .frame fr425 [(6, .ptr 0 0), (7, .ptr 1 0)], .fix 41 [.d (di .i64 a1)], .fix 3 (List.map sS0 g640), .dead, .fix 41 [.d (di .i64 a1)], .dead, .fix 54 [.d (di .i64 (0 : Int)), .d (di .i64 (2 : Int))]]) (fun g640 => (p_HCoord_k22 g431 (iter (p_HCoord_l9 a1 F) n433)) g640 = some o427) rfl ?_ ?_
          · refine AC.block ?_
            refine AC.loopP (V := (Int × Int × (List Int))) (p_HCoord_l23 g431) o638 [1, 2, 3, 7, 8] [10, 11] 13 (fun g643 => [(10, .d (di .i64 g643.1)), (11, .d (di .i64 g643.2.1))]) (fun g643 => [.fix 25 [.d (.v (.slice none 0 0))], .fix 4 [.d (dbool false)], .dead, .fix 41 [.d (di .i64 a1)], .fix 41 [.d (di .i64 a1)], .fix 41 [.d (di .i64 a1)], .frame fr425 [(6, .ptr 0 0), (7, .ptr 1 0)], .fix 41 [.d (di .i64 a1)], .fix 3 (List.map sS0 g643.2.2), .dead, .fix 41 [.d (di .i64 a1)], .dead, .fix 54 [.d (di .i64 (0 : Int)), .d (di .i64 (2 : Int))]]) F ((0 : Int), (m4 g431.1), ((g431.2.2.set ((0 : Int)).toNat (bits .xor .i64 x625 (m1 g431.2.1))).set ((2 : Int)).toNat (bits .xor .i64 x630 (m1 g431.2.1)))) l639 rfl rfl (LeL.refl _) rfl (okU_mk rfl (okU_cons rfl (okU_cons rfl (okU_cons rfl (okU_cons rfl (okU_cons rfl (okU_cons rfl (okU_cons rfl (okU_cons rfl (okU_cons (okU_fixl (fun _ => rfl)) (okU_cons rfl (okU_cons rfl (okU_cons rfl (okU_cons rfl okU_nil)))))))))))))) ?_
            intro n645 g643 h2
            unfold p_HCoord_l23 at h2
            refine AC.seq ?_
            refine AC.seq ?_
            refine AC.region ?_
            refine AO.op rfl (AOp.move rfl rfl (ltb rfl) rfl ?_)
            refine AO.op rfl (AOp.move rfl rfl (ltb rfl) rfl ?_)
            refine AO.op rfl (AOp.ilss rfl rfl (ltb rfl) rfl rfl ?_)
            refine AO.nil ?_
            change AC _ _ _ _
            refine AC.cond rfl (fun q646 => ?_) (fun q646 => ?_)
            · replace h2 := cT h2 q646
              refine AC.skip ?_
              change AC _ _ _ _
              refine AC.seq ?_
              refine AC.block ?_
              refine AC.seq ?_
              refine AC.draw 13 mixed (by kernel_rfl) ?_
              refine AD.op [1] rfl (by kernel_rfl) rfl rfl (fun _ _ h => AOp.move rfl rfl (ltb rfl) rfl h) ?_
              refine AD.op [10] rfl (by kernel_rfl) rfl rfl (fun _ _ h => AOp.move rfl rfl (ltb rfl) rfl h) ?_
              obtain ⟨q647, h2⟩ := need_elim h2
              refine AD.op [42, 43] rfl (by kernel_rfl) rfl rfl (fun _ _ h => AOp.indexSl rfl rfl (ltb rfl) rfl rfl el25 q647.1 q647.2 h) ?_
              obtain ⟨x648, q649, h2⟩ := idx_elim h2
              refine AD.op [44] rfl (by kernel_rfl) rfl rfl (fun _ _ h => AOp.load1 rfl rfl (ltb rfl) rfl agg3 rfl (atO q649.2) h) ?_
              refine AD.op [11] rfl (by kernel_rfl) rfl rfl (fun _ _ h => AOp.move rfl rfl (ltb rfl) rfl h) ?_
              refine AD.op [11] rfl (by kernel_rfl) rfl rfl (fun _ _ h => AOp.move rfl rfl (ltb rfl) rfl h) ?_
              obtain ⟨q650, h2⟩ := need_elim h2
              refine AD.op [47] rfl (by kernel_rfl) rfl rfl (fun _ _ h => AOp.ishr (n := 1) rfl rfl (ltb rfl) rfl rfl (by decide) q650 rfl h) ?_
              refine AD.op [46, 48] rfl (by kernel_rfl) rfl rfl (fun _ _ h => AOp.ibits (by simp) rfl rfl (ltb rfl) rfl rfl rfl h) ?_
              refine AD.op [49] rfl (by kernel_rfl) rfl rfl (fun _ _ h => AOp.ibits (by simp) rfl rfl (ltb rfl) rfl rfl rfl h) ?_
              refine AD.op [8] rfl (by kernel_rfl) rfl rfl (fun _ _ h => AOp.move rfl rfl (ltb rfl) rfl h) ?_
              obtain ⟨q651, h2⟩ := need_elim h2
              refine AD.op [50, 51] rfl (by kernel_rfl) rfl rfl (fun _ _ h => AOp.ishl' rfl rfl (ltb rfl) rfl rfl q651 h) ?_
              obtain ⟨q652, h2⟩ := need_elim h2
              refine AD.op [45, 52] rfl (by kernel_rfl) rfl rfl (fun _ _ h => AOp.iadd rfl rfl (ltb rfl) rfl rfl rfl q652.1 q652.2 h) ?_
              obtain ⟨q653, h2⟩ := need_elim h2
              refine AD.op [42, 43] rfl (by kernel_rfl) rfl rfl (fun _ _ h => AOp.indexSl rfl rfl (ltb rfl) rfl rfl el25 q653.1 q653.2 h) ?_
              refine AD.done ?_
              obtain ⟨q654, h2⟩ := need_elim h2
              refine AO.op rfl (AOp.storeL (f := fun z => SV.d (keS0 z)) (l := g643.2.2) (i := (g643.1).toNat) (v := (x648 + (IntKind.i64.wrap ((bits .and .i64 (bits .xor .i64 g643.2.1 (g643.2.1 / 2 ^ 1)) (1 : Int)) * 2 ^ (g431.2.1).toNat)))) rfl rfl rfl rfl size3 rfl rfl rfl q654 ?_)
              refine AO.nil ?_
              change AC _ _ _ _
              refine AC.region ?_
              refine AO.op rfl (AOp.move rfl rfl (ltb rfl) rfl ?_)
              obtain ⟨q655, h2⟩ := need_elim h2
              refine AO.op rfl (AOp.ishr (n := 1) rfl rfl (ltb rfl) rfl rfl (by decide) q655 rfl ?_)
              refine AO.op rfl (AOp.assign rfl rfl (ltb rfl) rfl ?_)
              refine AO.nil ?_
              change AC _ _ _ _
              refine AC.region ?_
              refine AO.op rfl (AOp.move rfl rfl (ltb rfl) rfl ?_)
              obtain ⟨q656, h2⟩ := need_elim h2
              refine AO.op rfl (AOp.iadd rfl rfl (ltb rfl) rfl rfl rfl q656.1 q656.2 ?_)
              refine AO.op rfl (AOp.assign rfl rfl (ltb rfl) rfl ?_)
              refine AO.nil ?_
              exact ⟨((g643.1 + (1 : Int)), (g643.2.1 / 2 ^ 1), (g643.2.2.set (g643.1).toNat (x648 + (IntKind.i64.wrap ((bits .and .i64 (bits .xor .i64 g643.2.1 (g643.2.1 / 2 ^ 1)) (1 : Int)) * 2 ^ (g431.2.1).toNat))))), _, rfl, (LeL.refl _), rfl, (okU_mk rfl (okU_cons rfl (okU_cons rfl (okU_cons rfl (okU_cons rfl (okU_cons rfl (okU_cons rfl (okU_cons rfl (okU_cons rfl (okU_cons (okU_fixl (fun _ => rfl)) (okU_cons rfl (okU_cons rfl (okU_cons rfl (okU_cons rfl okU_nil)))))))))))))), h2⟩
            replace h2 := cF h2 q646
            refine AC.exit ?_
            obtain rfl := Option.some.inj h2
            exact ⟨g643.2.2, _, rfl, (LeL.refl _), rfl, (okU_mk rfl (okU_cons rfl (okU_cons rfl (okU_cons rfl (okU_cons rfl (okU_cons rfl (okU_cons rfl (okU_cons rfl (okU_cons rfl (okU_cons (okU_fixl (fun _ => rfl)) (okU_cons rfl (okU_cons rfl (okU_cons rfl (okU_cons rfl okU_nil)))))))))))))), aftL h1⟩
          intro g640 h1
          unfold p_HCoord_k22 at h1
          change AC _ _ _ _
          refine AC.region ?_
          refine AO.op rfl (AOp.move rfl rfl (ltb rfl) rfl ?_)
          refine AO.op rfl (AOp.move rfl rfl (ltb rfl) rfl ?_)
          obtain ⟨q641, h1⟩ := need_elim h1
          refine AO.op rfl (AOp.ishr' rfl rfl (ltb rfl) rfl rfl q641.1 q641.2 ?_)
          refine AO.op rfl (AOp.assign rfl rfl (ltb rfl) rfl ?_)
          refine AO.nil ?_
          change AC _ _ _ _
          refine AC.region ?_
          refine AO.op rfl (AOp.move rfl rfl (ltb rfl) rfl ?_)
          obtain ⟨q642, h1⟩ := need_elim h1
          refine AO.op rfl (AOp.iadd rfl rfl (ltb rfl) rfl rfl rfl q642.1 q642.2 ?_)
          refine AO.op rfl (AOp.assign rfl rfl (ltb rfl) rfl ?_)
          refine AO.nil ?_
          exact ⟨((g431.1 / 2 ^ ((4 : Int)).toNat), (g431.2.1 + (1 : Int)), g640), _, rfl, (LeL.refl _), rfl, (okU_mk rfl (okU_cons rfl (okU_cons rfl (okU_cons rfl (okU_cons rfl (okU_cons rfl (okU_cons rfl (okU_cons rfl (okU_cons rfl (okU_cons (okU_fixl (fun _ => rfl)) okU_nil)))))))))), h1⟩
        replace h1 := cF h1 q622
        refine AC.joinP (V := Bool) [1, 2, 3, 10] [53] 11 (fun g657 => [(53, .d (dbool g657))]) (fun g657 => [.fix 25 [.d (.v (.slice none 0 0))], .fix 4 [.d (dbool false)], .dead, .fix 41 [.d (di .i64 a1)], .fix 41 [.d (di .i64 a1)], .fix 41 [.d (di .i64 a1)], .frame fr425 [(6, .ptr 0 0), (7, .ptr 1 0)], .fix 41 [.d (di .i64 a1)], .fix 3 (List.map sS0 g431.2.2), .frame fr437 [(1, .sl 8 1 0 (((4 : Int)).toNat) (((4 : Int)).toNat)), (2, .d (di .i64 g431.1)), (3, .ptr 7 0), (7, .d (di .i64 (4 : Int))), (8, .d (di .i64 g431.2.1)), (9, .d (di .i64 (m4 g431.1)))], .fix 41 [.d (di .i64 a1)]]) (fun g657 => (p_HCoord_k24 F g431 (iter (p_HCoord_l9 a1 F) n433)) g657 = some o427) rfl ?_ ?_
        · refine AC.seq ?_
          refine AC.region ?_
          refine AO.op rfl (AOp.ieql rfl rfl (ltb rfl) rfl rfl ?_)
          refine AO.op rfl (AOp.assign rfl rfl (ltb rfl) rfl ?_)
          refine AO.nil ?_
          change AC _ _ _ _
          refine AC.cond rfl (fun q885 => ?_) (fun q885 => ?_)
          · replace h1 := cT h1 q885
            refine AC.skip ?_
            exact ⟨(decide ((m4 g431.1) = (9 : Int))), _, rfl, (LeL.refl _), rfl, (okU_mk rfl (okU_cons rfl (okU_cons rfl (okU_cons rfl (okU_cons rfl (okU_cons rfl (okU_cons rfl (okU_cons rfl (okU_cons rfl (okU_cons (okU_fixl (fun _ => rfl)) (okU_cons rfl (okU_cons rfl okU_nil)))))))))))), h1⟩
          replace h1 := cF h1 q885
          refine AC.region ?_
          refine AO.op rfl (AOp.ieql rfl rfl (ltb rfl) rfl rfl ?_)
          refine AO.op rfl (AOp.assign rfl rfl (ltb rfl) rfl ?_)
          refine AO.nil ?_
          exact ⟨(decide ((m4 g431.1) = (10 : Int))), _, rfl, (LeL.refl _), rfl, (okU_mk rfl (okU_cons rfl (okU_cons rfl (okU_cons rfl (okU_cons rfl (okU_cons rfl (okU_cons rfl (okU_cons rfl (okU_cons rfl (okU_cons (okU_fixl (fun _ => rfl)) (okU_cons rfl (okU_cons rfl okU_nil)))))))))))), h1⟩
        intro g657 h1
        unfold p_HCoord_k24 at h1
        refine AC.cond rfl (fun q658 => ?_) (fun q658 => ?_)
        · replace h1 := cT h1 q658
          refine AC.region ?_
          refine AO.op rfl (AOp.move rfl rfl (ltb rfl) rfl ?_)
          refine AO.op rfl (AOp.move rfl rfl (ltb rfl) rfl ?_)
          refine AO.op rfl (AOp.move rfl rfl (ltb rfl) rfl ?_)
          refine AO.op rfl (AOp.build rfl rfl (ltb rfl) zero52 rfl places52 rfl rfl ?_)
          refine AO.op rfl (AOp.build rfl rfl (ltb rfl) zero52 rfl places52 rfl rfl ?_)
          refine AO.op rfl (AOp.inl [] (by kernel_rfl) Tryd.func30 rfl Tryd.ntmps30 rfl rfl (ltb rfl) rfl (leb rfl) rfl ?_)
          intro fr659
          refine AC.seq ?_
          refine AC.region ?_
          refine AO.op rfl (AOp.box rfl rfl (ltb rfl) rfl rfl ?_)
          refine AO.op rfl (AOp.box rfl rfl (ltb rfl) rfl rfl ?_)
          refine AO.nil ?_
          change AC _ _ _ _
          refine AC.seq ?_
          refine AC.region ?_
          refine AO.op rfl (AOp.move rfl rfl (ltb rfl) rfl ?_)
          refine AO.nil ?_
          change AC _ _ _ _
          refine AC.condT rfl rfl ?_
          refine AC.seq ?_
          refine AC.region ?_
          refine AO.op rfl (AOp.loadN rfl rfl (ltb rfl) rfl agg52 size52 rfl (leb rfl) rfl ?_)
          refine AO.op rfl (AOp.makeIfc rfl rfl (ltb rfl) rfl conc52 ?_)
          refine AO.op rfl (AOp.move rfl rfl (ltb rfl) rfl ?_)
          refine AO.op rfl (AOp.move rfl rfl (ltb rfl) rfl ?_)
          refine AO.op rfl (AOp.inlE [1, 2, 8] (EntersS.meth (by kernel_rfl) rfl rfl rfl meth52_pub_orthodrome_pub_gonum_spatial_curve_do rfl rfl) Tryd.func27 rfl Tryd.ntmps27 rfl (ltb rfl) (leb rfl) rfl ?_)
          intro fr660
          refine AC.seq ?_
          refine AC.region ?_
          refine AO.op rfl (AOp.box rfl rfl (ltb rfl) rfl rfl ?_)
          refine AO.nil ?_
          change AC _ _ _ _
          obtain ⟨q661, h1⟩ := need_elim h1
          obtain ⟨x662, q663, h1⟩ := idx_elim h1
          obtain ⟨q664, h1⟩ := need_elim h1
          obtain ⟨q665, h1⟩ := need_elim h1
          obtain ⟨q666, h1⟩ := need_elim h1
          obtain ⟨x667, q668, h1⟩ := idx_elim h1
          obtain ⟨q669, h1⟩ := need_elim h1
          obtain ⟨q670, h1⟩ := need_elim h1
          obtain ⟨q671, h1⟩ := need_elim h1
          obtain ⟨q672, h1⟩ := need_elim h1
          refine AC.drawS [0, 1, 2, 3, 4, 5, 6, 7, 8, 9, 10, 11, 12, 13, 14, 15, 16, 17, 18, 19, 20, 21, 22, 23, 24, 25] [25] [26, 27] (fun L => [.fix 25 [.d (.v (.slice none 0 0))], .fix 4 [.d (dbool false)], .dead, .fix 41 [.d (di .i64 a1)], .fix 41 [.d (di .i64 a1)], .fix 41 [.d (di .i64 a1)], .frame fr425 [(6, .ptr 0 0), (7, .ptr 1 0)], .fix 41 [.d (di .i64 a1)], bif L 25 then .fix 3 (List.map sS0 (g431.2.2.set ((2 : Int)).toNat (bits .xor .i64 x662 (m1 g431.2.1)))) else .fix 3 (List.map sS0 g431.2.2), .frame fr437 [(1, .sl 8 1 0 (((4 : Int)).toNat) (((4 : Int)).toNat)), (2, .d (di .i64 g431.1)), (3, .ptr 7 0), (7, .d (di .i64 (4 : Int))), (8, .d (di .i64 g431.2.1)), (9, .d (di .i64 (m4 g431.1)))], .fix 41 [.d (di .i64 a1)], .frame fr659 [], .fix 52 [.d (di .i64 (1 : Int)), .d (di .i64 (2 : Int))], .fix 52 [.d (di .i64 (2 : Int)), .d (di .i64 (3 : Int))], .frame fr660 [(1, .d (di .i64 g431.2.1)), (2, .sl 8 1 0 (((4 : Int)).toNat) (((4 : Int)).toNat)), (8, .ptr 12 0)], .fix 52 [.d (di .i64 (2 : Int)), .d (di .i64 (3 : Int))]]) [(25, (fun _ => true))] mixed (by kernel_rfl) (fun L L' h => by simp only [h 25 (by decide)]) rfl ?_
          refine AS.op [2] [] [25] [] rfl rfl rfl (by kernel_rfl) (by kernel_rfl) rfl rfl (fun _ _ _ h => AOp.move rfl rfl (ltb rfl) rfl h) (by kernel_rfl) ?_
          refine AS.op [3] [] [25] [] rfl rfl rfl (by kernel_rfl) (by kernel_rfl) rfl rfl (fun _ _ _ h => AOp.fieldAddr rfl rfl (ltb rfl) rfl fo52_0 h) (by kernel_rfl) ?_
          refine AS.op [7] [] [25] [] rfl rfl rfl (by kernel_rfl) (by kernel_rfl) rfl rfl (fun _ _ _ h => AOp.load1 rfl rfl (ltb rfl) rfl agg3 rfl rfl h) (by kernel_rfl) ?_
          refine AS.op [2] [] [] [25] rfl rfl rfl (by kernel_rfl) (by kernel_rfl) rfl rfl (fun _ _ _ h => AOp.move rfl rfl (ltb rfl) rfl h) (by kernel_rfl) ?_
          refine AS.op [3] [] [] [25] rfl rfl rfl (by kernel_rfl) (by kernel_rfl) rfl rfl (fun _ _ _ h => AOp.fieldAddr rfl rfl (ltb rfl) rfl fo52_1 h) (by kernel_rfl) ?_
          refine AS.op [10] [] [] [25] rfl rfl rfl (by kernel_rfl) (by kernel_rfl) rfl rfl (fun _ _ _ h => AOp.load1 rfl rfl (ltb rfl) rfl agg3 rfl rfl h) (by kernel_rfl) ?_
          refine AS.op [2] [] [25] [] rfl rfl rfl (by kernel_rfl) (by kernel_rfl) rfl rfl (fun _ _ _ h => AOp.move rfl rfl (ltb rfl) rfl h) (by kernel_rfl) ?_
          refine AS.op [3] [] [25] [] rfl rfl rfl (by kernel_rfl) (by kernel_rfl) rfl rfl (fun _ _ _ h => AOp.fieldAddr rfl rfl (ltb rfl) rfl fo52_1 h) (by kernel_rfl) ?_
          refine AS.op [13] [] [25] [] rfl rfl rfl (by kernel_rfl) (by kernel_rfl) rfl rfl (fun _ _ _ h => AOp.load1 rfl rfl (ltb rfl) rfl agg3 rfl rfl h) (by kernel_rfl) ?_
          refine AS.op [12, 14] [] [25] [] rfl rfl rfl (by kernel_rfl) (by kernel_rfl) rfl rfl (fun _ _ _ h => AOp.indexSl rfl rfl (ltb rfl) rfl rfl el25 q661.1 q661.2 h) (by kernel_rfl) ?_
          refine AS.op [15] [] [25] [] rfl rfl rfl (by kernel_rfl) (by kernel_rfl) rfl rfl (fun _ _ _ h => AOp.load1 rfl rfl (ltb rfl) rfl agg3 rfl (atO q663.2) h) (by kernel_rfl) ?_
          refine AS.op [1] [] [25] [] rfl rfl rfl (by kernel_rfl) (by kernel_rfl) rfl rfl (fun _ _ _ h => AOp.move rfl rfl (ltb rfl) rfl h) (by kernel_rfl) ?_
          refine AS.op [17] [] [25] [] rfl rfl rfl (by kernel_rfl) (by kernel_rfl) rfl rfl (fun _ _ _ h => AOp.ishl' rfl rfl (ltb rfl) rfl rfl q664 h) (by kernel_rfl) ?_
          refine AS.op [18] [] [25] [] rfl rfl rfl (by kernel_rfl) (by kernel_rfl) rfl rfl (fun _ _ _ h => AOp.isub rfl rfl (ltb rfl) rfl rfl rfl q665.1 q665.2 h) (by kernel_rfl) ?_
          refine AS.op [16, 19] [] [25] [] rfl rfl rfl (by kernel_rfl) (by kernel_rfl) rfl rfl (fun _ _ _ h => AOp.ibits (by simp) rfl rfl (ltb rfl) rfl rfl rfl h) (by kernel_rfl) ?_
          refine AS.op [2] [] [25] [] rfl rfl rfl (by kernel_rfl) (by kernel_rfl) rfl rfl (fun _ _ _ h => AOp.move rfl rfl (ltb rfl) rfl h) (by kernel_rfl) ?_
          refine AS.op [3] [] [25] [] rfl rfl rfl (by kernel_rfl) (by kernel_rfl) rfl rfl (fun _ _ _ h => AOp.fieldAddr rfl rfl (ltb rfl) rfl fo52_0 h) (by kernel_rfl) ?_
          refine AS.op [22] [] [25] [] rfl rfl rfl (by kernel_rfl) (by kernel_rfl) rfl rfl (fun _ _ _ h => AOp.load1 rfl rfl (ltb rfl) rfl agg3 rfl rfl h) (by kernel_rfl) ?_
          refine AS.op [21, 23] [] [25] [] rfl rfl rfl (by kernel_rfl) (by kernel_rfl) rfl rfl (fun _ _ _ h => AOp.indexSl rfl rfl (ltb rfl) rfl rfl el25 q666.1 q666.2 h) (by kernel_rfl) ?_
          refine AS.op [24] [] [25] [] rfl rfl rfl (by kernel_rfl) (by kernel_rfl) rfl rfl (fun _ _ _ h => AOp.load1 rfl rfl (ltb rfl) rfl agg3 rfl (atO q668.2) h) (by kernel_rfl) ?_
          refine AS.op [1] [] [] [25] rfl rfl rfl (by kernel_rfl) (by kernel_rfl) rfl rfl (fun _ _ _ h => AOp.move rfl rfl (ltb rfl) rfl h) (by kernel_rfl) ?_
          refine AS.op [26] [] [] [25] rfl rfl rfl (by kernel_rfl) (by kernel_rfl) rfl rfl (fun _ _ _ h => AOp.ishl' rfl rfl (ltb rfl) rfl rfl q669 h) (by kernel_rfl) ?_
          refine AS.op [27] [] [] [25] rfl rfl rfl (by kernel_rfl) (by kernel_rfl) rfl rfl (fun _ _ _ h => AOp.isub rfl rfl (ltb rfl) rfl rfl rfl q670.1 q670.2 h) (by kernel_rfl) ?_
          refine AS.op [25, 28] [] [] [25] rfl rfl rfl (by kernel_rfl) (by kernel_rfl) rfl rfl (fun _ _ _ h => AOp.ibits (by simp) rfl rfl (ltb rfl) rfl rfl rfl h) (by kernel_rfl) ?_
          refine AS.op [6, 8] [] [25] [] rfl rfl rfl (by kernel_rfl) (by kernel_rfl) rfl rfl (fun _ _ _ h => AOp.indexSl rfl rfl (ltb rfl) rfl rfl el25 q671.1 q671.2 h) (by kernel_rfl) ?_
          refine AS.mid0 [20, 30] [] [25] [] rfl rfl rfl rfl (by kernel_rfl) (by kernel_rfl) rfl rfl (fun _ _ _ h => AOp.storeL (f := fun z => SV.d (keS0 z)) (l := g431.2.2) (i := ((2 : Int)).toNat) (v := (bits .xor .i64 x662 (m1 g431.2.1))) rfl rfl rfl rfl size3 rfl rfl rfl q672 (AO.dropT h)) (by kernel_rfl) rfl ?_
          refine AS.done ?_
          refine AO.objs (obs' := [.fix 25 [.d (.v (.slice none 0 0))], .fix 4 [.d (dbool false)], .dead, .fix 41 [.d (di .i64 a1)], .fix 41 [.d (di .i64 a1)], .fix 41 [.d (di .i64 a1)], .frame fr425 [(6, .ptr 0 0), (7, .ptr 1 0)], .fix 41 [.d (di .i64 a1)], .fix 3 (List.map sS0 (g431.2.2.set ((2 : Int)).toNat (bits .xor .i64 x662 (m1 g431.2.1)))), .frame fr437 [(1, .sl 8 1 0 (((4 : Int)).toNat) (((4 : Int)).toNat)), (2, .d (di .i64 g431.1)), (3, .ptr 7 0), (7, .d (di .i64 (4 : Int))), (8, .d (di .i64 g431.2.1)), (9, .d (di .i64 (m4 g431.1)))], .fix 41 [.d (di .i64 a1)], .frame fr659 [], .fix 52 [.d (di .i64 (1 : Int)), .d (di .i64 (2 : Int))], .fix 52 [.d (di .i64 (2 : Int)), .d (di .i64 (3 : Int))], .frame fr660 [(1, .d (di .i64 g431.2.1)), (2, .sl 8 1 0 (((4 : Int)).toNat) (((4 : Int)).toNat)), (8, .ptr 12 0)], .fix 52 [.d (di .i64 (2 : Int)), .d (di .i64 (3 : Int))]]) rfl ?_
          obtain ⟨q673, h1⟩ := need_elim h1
          refine AO.op rfl (AOp.indexSl rfl rfl (ltb rfl) rfl rfl el25 q673.1 q673.2 ?_)
          obtain ⟨q674, h1⟩ := need_elim h1
          refine AO.op rfl (AOp.storeL (f := fun z => SV.d (keS0 z)) (l := (g431.2.2.set ((2 : Int)).toNat (bits .xor .i64 x662 (m1 g431.2.1)))) (i := ((3 : Int)).toNat) (v := (bits .xor .i64 x667 (m1 g431.2.1))) rfl rfl rfl rfl size3 rfl rfl rfl q674 ?_)
          refine AO.nil ?_
          refine inlend (ob' := [.fix 25 [.d (.v (.slice none 0 0))], .fix 4 [.d (dbool false)], .dead, .fix 41 [.d (di .i64 a1)], .fix 41 [.d (di .i64 a1)], .fix 41 [.d (di .i64 a1)], .frame fr425 [(6, .ptr 0 0), (7, .ptr 1 0)], .fix 41 [.d (di .i64 a1)], .fix 3 (List.map sS0 ((g431.2.2.set ((2 : Int)).toNat (bits .xor .i64 x662 (m1 g431.2.1))).set ((3 : Int)).toNat (bits .xor .i64 x667 (m1 g431.2.1)))), .frame fr437 [(1, .sl 8 1 0 (((4 : Int)).toNat) (((4 : Int)).toNat)), (2, .d (di .i64 g431.1)), (3, .ptr 7 0), (7, .d (di .i64 (4 : Int))), (8, .d (di .i64 g431.2.1)), (9, .d (di .i64 (m4 g431.1)))], .fix 41 [.d (di .i64 a1)], .frame fr659 [], .fix 52 [.d (di .i64 (1 : Int)), .d (di .i64 (2 : Int))], .fix 52 [.d (di .i64 (2 : Int)), .d (di .i64 (3 : Int))], .dead, .fix 52 [.d (di .i64 (2 : Int)), .d (di .i64 (3 : Int))]]) (e' := [(1, .d (di .i64 g431.2.1)), (2, .sl 8 1 0 (((4 : Int)).toNat) (((4 : Int)).toNat)), (8, .ptr 12 0)]) (r := .tu []) rfl rfl rfl ?_
          change AO _ _ _ _ _
          refine AO.nil ?_
          change AC _ _ _ _
          refine AC.region ?_
          refine AO.op rfl (AOp.loadN rfl rfl (ltb rfl) rfl agg52 size52 rfl (leb rfl) rfl ?_)
          refine AO.op rfl (AOp.makeIfc rfl rfl (ltb rfl) rfl conc52 ?_)
          refine AO.op rfl (AOp.move rfl rfl (ltb rfl) rfl ?_)
          refine AO.op rfl (AOp.move rfl rfl (ltb rfl) rfl ?_)
          refine AO.op rfl (AOp.inlE [] (EntersS.meth (by kernel_rfl) rfl rfl rfl meth52_pub_orthodrome_pub_gonum_spatial_curve_do rfl rfl) Tryd.func27 rfl Tryd.ntmps27 rfl (ltb rfl) (leb rfl) rfl ?_)
          intro fr675
          refine AC.seq ?_
          refine AC.region ?_
          refine AO.op rfl (AOp.box rfl rfl (ltb rfl) rfl rfl ?_)
          refine AO.nil ?_
          change AC _ _ _ _
          obtain ⟨q676, h1⟩ := need_elim h1
          obtain ⟨x677, q678, h1⟩ := idx_elim h1
          obtain ⟨q679, h1⟩ := need_elim h1
          obtain ⟨q680, h1⟩ := need_elim h1
          obtain ⟨q681, h1⟩ := need_elim h1
          obtain ⟨x682, q683, h1⟩ := idx_elim h1
          obtain ⟨q684, h1⟩ := need_elim h1
          obtain ⟨q685, h1⟩ := need_elim h1
          obtain ⟨q686, h1⟩ := need_elim h1
          obtain ⟨q687, h1⟩ := need_elim h1
          refine AC.drawS [0, 1, 2, 3, 4, 5, 6, 7, 8, 9, 10, 11, 12, 13, 14, 15, 16, 17, 18, 19, 20, 21, 22, 23, 24, 25] [25] [26, 27] (fun L => [.fix 25 [.d (.v (.slice none 0 0))], .fix 4 [.d (dbool false)], .dead, .fix 41 [.d (di .i64 a1)], .fix 41 [.d (di .i64 a1)], .fix 41 [.d (di .i64 a1)], .frame fr425 [(6, .ptr 0 0), (7, .ptr 1 0)], .fix 41 [.d (di .i64 a1)], bif L 25 then .fix 3 (List.map sS0 (((g431.2.2.set ((2 : Int)).toNat (bits .xor .i64 x662 (m1 g431.2.1))).set ((3 : Int)).toNat (bits .xor .i64 x667 (m1 g431.2.1))).set ((1 : Int)).toNat (bits .xor .i64 x677 (m1 g431.2.1)))) else .fix 3 (List.map sS0 ((g431.2.2.set ((2 : Int)).toNat (bits .xor .i64 x662 (m1 g431.2.1))).set ((3 : Int)).toNat (bits .xor .i64 x667 (m1 g431.2.1)))), .frame fr437 [(1, .sl 8 1 0 (((4 : Int)).toNat) (((4 : Int)).toNat)), (2, .d (di .i64 g431.1)), (3, .ptr 7 0), (7, .d (di .i64 (4 : Int))), (8, .d (di .i64 g431.2.1)), (9, .d (di .i64 (m4 g431.1)))], .fix 41 [.d (di .i64 a1)], .frame fr659 [], .fix 52 [.d (di .i64 (1 : Int)), .d (di .i64 (2 : Int))], .fix 52 [.d (di .i64 (2 : Int)), .d (di .i64 (3 : Int))], .dead, .fix 52 [.d (di .i64 (2 : Int)), .d (di .i64 (3 : Int))], .frame fr675 [], .fix 52 [.d (di .i64 (1 : Int)), .d (di .i64 (2 : Int))]]) [(25, (fun _ => true))] mixed (by kernel_rfl) (fun L L' h => by simp only [h 25 (by decide)]) rfl ?_
          refine AS.op [2] [] [25] [] rfl rfl rfl (by kernel_rfl) (by kernel_rfl) rfl rfl (fun _ _ _ h => AOp.move rfl rfl (ltb rfl) rfl h) (by kernel_rfl) ?_
          refine AS.op [3] [] [25] [] rfl rfl rfl (by kernel_rfl) (by kernel_rfl) rfl rfl (fun _ _ _ h => AOp.fieldAddr rfl rfl (ltb rfl) rfl fo52_0 h) (by kernel_rfl) ?_
          refine AS.op [7] [] [25] [] rfl rfl rfl (by kernel_rfl) (by kernel_rfl) rfl rfl (fun _ _ _ h => AOp.load1 rfl rfl (ltb rfl) rfl agg3 rfl rfl h) (by kernel_rfl) ?_
          refine AS.op [2] [] [] [25] rfl rfl rfl (by kernel_rfl) (by kernel_rfl) rfl rfl (fun _ _ _ h => AOp.move rfl rfl (ltb rfl) rfl h) (by kernel_rfl) ?_
          refine AS.op [3] [] [] [25] rfl rfl rfl (by kernel_rfl) (by kernel_rfl) rfl rfl (fun _ _ _ h => AOp.fieldAddr rfl rfl (ltb rfl) rfl fo52_1 h) (by kernel_rfl) ?_
          refine AS.op [10] [] [] [25] rfl rfl rfl (by kernel_rfl) (by kernel_rfl) rfl rfl (fun _ _ _ h => AOp.load1 rfl rfl (ltb rfl) rfl agg3 rfl rfl h) (by kernel_rfl) ?_
          refine AS.op [2] [] [25] [] rfl rfl rfl (by kernel_rfl) (by kernel_rfl) rfl rfl (fun _ _ _ h => AOp.move rfl rfl (ltb rfl) rfl h) (by kernel_rfl) ?_
          refine AS.op [3] [] [25] [] rfl rfl rfl (by kernel_rfl) (by kernel_rfl) rfl rfl (fun _ _ _ h => AOp.fieldAddr rfl rfl (ltb rfl) rfl fo52_1 h) (by kernel_rfl) ?_
          refine AS.op [13] [] [25] [] rfl rfl rfl (by kernel_rfl) (by kernel_rfl) rfl rfl (fun _ _ _ h => AOp.load1 rfl rfl (ltb rfl) rfl agg3 rfl rfl h) (by kernel_rfl) ?_
          refine AS.op [12, 14] [] [25] [] rfl rfl rfl (by kernel_rfl) (by kernel_rfl) rfl rfl (fun _ _ _ h => AOp.indexSl rfl rfl (ltb rfl) rfl rfl el25 q676.1 q676.2 h) (by kernel_rfl) ?_
          refine AS.op [15] [] [25] [] rfl rfl rfl (by kernel_rfl) (by kernel_rfl) rfl rfl (fun _ _ _ h => AOp.load1 rfl rfl (ltb rfl) rfl agg3 rfl (atO q678.2) h) (by kernel_rfl) ?_
          refine AS.op [1] [] [25] [] rfl rfl rfl (by kernel_rfl) (by kernel_rfl) rfl rfl (fun _ _ _ h => AOp.move rfl rfl (ltb rfl) rfl h) (by kernel_rfl) ?_
          refine AS.op [17] [] [25] [] rfl rfl rfl (by kernel_rfl) (by kernel_rfl) rfl rfl (fun _ _ _ h => AOp.ishl' rfl rfl (ltb rfl) rfl rfl q679 h) (by kernel_rfl) ?_
          refine AS.op [18] [] [25] [] rfl rfl rfl (by kernel_rfl) (by kernel_rfl) rfl rfl (fun _ _ _ h => AOp.isub rfl rfl (ltb rfl) rfl rfl rfl q680.1 q680.2 h) (by kernel_rfl) ?_
          refine AS.op [16, 19] [] [25] [] rfl rfl rfl (by kernel_rfl) (by kernel_rfl) rfl rfl (fun _ _ _ h => AOp.ibits (by simp) rfl rfl (ltb rfl) rfl rfl rfl h) (by kernel_rfl) ?_
          refine AS.op [2] [] [25] [] rfl rfl rfl (by kernel_rfl) (by kernel_rfl) rfl rfl (fun _ _ _ h => AOp.move rfl rfl (ltb rfl) rfl h) (by kernel_rfl) ?_
          refine AS.op [3] [] [25] [] rfl rfl rfl (by kernel_rfl) (by kernel_rfl) rfl rfl (fun _ _ _ h => AOp.fieldAddr rfl rfl (ltb rfl) rfl fo52_0 h) (by kernel_rfl) ?_
          refine AS.op [22] [] [25] [] rfl rfl rfl (by kernel_rfl) (by kernel_rfl) rfl rfl (fun _ _ _ h => AOp.load1 rfl rfl (ltb rfl) rfl agg3 rfl rfl h) (by kernel_rfl) ?_
          refine AS.op [21, 23] [] [25] [] rfl rfl rfl (by kernel_rfl) (by kernel_rfl) rfl rfl (fun _ _ _ h => AOp.indexSl rfl rfl (ltb rfl) rfl rfl el25 q681.1 q681.2 h) (by kernel_rfl) ?_
          refine AS.op [24] [] [25] [] rfl rfl rfl (by kernel_rfl) (by kernel_rfl) rfl rfl (fun _ _ _ h => AOp.load1 rfl rfl (ltb rfl) rfl agg3 rfl (atO q683.2) h) (by kernel_rfl) ?_
          refine AS.op [1] [] [] [25] rfl rfl rfl (by kernel_rfl) (by kernel_rfl) rfl rfl (fun _ _ _ h => AOp.move rfl rfl (ltb rfl) rfl h) (by kernel_rfl) ?_
          refine AS.op [26] [] [] [25] rfl rfl rfl (by kernel_rfl) (by kernel_rfl) rfl rfl (fun _ _ _ h => AOp.ishl' rfl rfl (ltb rfl) rfl rfl q684 h) (by kernel_rfl) ?_
          refine AS.op [27] [] [] [25] rfl rfl rfl (by kernel_rfl) (by kernel_rfl) rfl rfl (fun _ _ _ h => AOp.isub rfl rfl (ltb rfl) rfl rfl rfl q685.1 q685.2 h) (by kernel_rfl) ?_
          refine AS.op [25, 28] [] [] [25] rfl rfl rfl (by kernel_rfl) (by kernel_rfl) rfl rfl (fun _ _ _ h => AOp.ibits (by simp) rfl rfl (ltb rfl) rfl rfl rfl h) (by kernel_rfl) ?_
          refine AS.op [6, 8] [] [25] [] rfl rfl rfl (by kernel_rfl) (by kernel_rfl) rfl rfl (fun _ _ _ h => AOp.indexSl rfl rfl (ltb rfl) rfl rfl el25 q686.1 q686.2 h) (by kernel_rfl) ?_
          refine AS.mid0 [20, 30] [] [25] [] rfl rfl rfl rfl (by kernel_rfl) (by kernel_rfl) rfl rfl (fun _ _ _ h => AOp.storeL (f := fun z => SV.d (keS0 z)) (l := ((g431.2.2.set ((2 : Int)).toNat (bits .xor .i64 x662 (m1 g431.2.1))).set ((3 : Int)).toNat (bits .xor .i64 x667 (m1 g431.2.1)))) (i := ((1 : Int)).toNat) (v := (bits .xor .i64 x677 (m1 g431.2.1))) rfl rfl rfl rfl size3 rfl rfl rfl q687 (AO.dropT h)) (by kernel_rfl) rfl ?_
          refine AS.done ?_
          refine AO.objs (obs' := [.fix 25 [.d (.v (.slice none 0 0))], .fix 4 [.d (dbool false)], .dead, .fix 41 [.d (di .i64 a1)], .fix 41 [.d (di .i64 a1)], .fix 41 [.d (di .i64 a1)], .frame fr425 [(6, .ptr 0 0), (7, .ptr 1 0)], .fix 41 [.d (di .i64 a1)], .fix 3 (List.map sS0 (((g431.2.2.set ((2 : Int)).toNat (bits .xor .i64 x662 (m1 g431.2.1))).set ((3 : Int)).toNat (bits .xor .i64 x667 (m1 g431.2.1))).set ((1 : Int)).toNat (bits .xor .i64 x677 (m1 g431.2.1)))), .frame fr437 [(1, .sl 8 1 0 (((4 : Int)).toNat) (((4 : Int)).toNat)), (2, .d (di .i64 g431.1)), (3, .ptr 7 0), (7, .d (di .i64 (4 : Int))), (8, .d (di .i64 g431.2.1)), (9, .d (di .i64 (m4 g431.1)))], .fix 41 [.d (di .i64 a1)], .frame fr659 [], .fix 52 [.d (di .i64 (1 : Int)), .d (di .i64 (2 : Int))], .fix 52 [.d (di .i64 (2 : Int)), .d (di .i64 (3 : Int))], .dead, .fix 52 [.d (di .i64 (2 : Int)), .d (di .i64 (3 : Int))], .frame fr675 [], .fix 52 [.d (di .i64 (1 : Int)), .d (di .i64 (2 : Int))]]) rfl ?_
          obtain ⟨q688, h1⟩ := need_elim h1
          refine AO.op rfl (AOp.indexSl rfl rfl (ltb rfl) rfl rfl el25 q688.1 q688.2 ?_)
          obtain ⟨q689, h1⟩ := need_elim h1
          refine AO.op rfl (AOp.storeL (f := fun z => SV.d (keS0 z)) (l := (((g431.2.2.set ((2 : Int)).toNat (bits .xor .i64 x662 (m1 g431.2.1))).set ((3 : Int)).toNat (bits .xor .i64 x667 (m1 g431.2.1))).set ((1 : Int)).toNat (bits .xor .i64 x677 (m1 g431.2.1)))) (i := ((2 : Int)).toNat) (v := (bits .xor .i64 x682 (m1 g431.2.1))) rfl rfl rfl rfl size3 rfl rfl rfl q689 ?_)
          refine AO.nil ?_
          refine inlend (ob' := [.fix 25 [.d (.v (.slice none 0 0))], .fix 4 [.d (dbool false)], .dead, .fix 41 [.d (di .i64 a1)], .fix 41 [.d (di .i64 a1)], .fix 41 [.d (di .i64 a1)], .frame fr425 [(6, .ptr 0 0), (7, .ptr 1 0)], .fix 41 [.d (di .i64 a1)], .fix 3 (List.map sS0 ((((g431.2.2.set ((2 : Int)).toNat (bits .xor .i64 x662 (m1 g431.2.1))).set ((3 : Int)).toNat (bits .xor .i64 x667 (m1 g431.2.1))).set ((1 : Int)).toNat (bits .xor .i64 x677 (m1 g431.2.1))).set ((2 : Int)).toNat (bits .xor .i64 x682 (m1 g431.2.1)))), .frame fr437 [(1, .sl 8 1 0 (((4 : Int)).toNat) (((4 : Int)).toNat)), (2, .d (di .i64 g431.1)), (3, .ptr 7 0), (7, .d (di .i64 (4 : Int))), (8, .d (di .i64 g431.2.1)), (9, .d (di .i64 (m4 g431.1)))], .fix 41 [.d (di .i64 a1)], .frame fr659 [], .fix 52 [.d (di .i64 (1 : Int)), .d (di .i64 (2 : Int))], .fix 52 [.d (di .i64 (2 : Int)), .d (di .i64 (3 : Int))], .dead, .fix 52 [.d (di .i64 (2 : Int)), .d (di .i64 (3 : Int))], .dead, .fix 52 [.d (di .i64 (1 : Int)), .d (di .i64 (2 : Int))]]) (e' := []) (r := .tu []) rfl rfl rfl ?_
          change AO _ _ _ _ _
          refine AO.nil ?_
          refine inlend (ob' := [.fix 25 [.d (.v (.slice none 0 0))], .fix 4 [.d (dbool false)], .dead, .fix 41 [.d (di .i64 a1)], .fix 41 [.d (di .i64 a1)], .fix 41 [.d (di .i64 a1)], .frame fr425 [(6, .ptr 0 0), (7, .ptr 1 0)], .fix 41 [.d (di .i64 a1)], .fix 3 (List.map sS0 ((((g431.2.2.set ((2 : Int)).toNat (bits .xor .i64 x662 (m1 g431.2.1))).set ((3 : Int)).toNat (bits .xor .i64 x667 (m1 g431.2.1))).set ((1 : Int)).toNat (bits .xor .i64 x677 (m1 g431.2.1))).set ((2 : Int)).toNat (bits .xor .i64 x682 (m1 g431.2.1)))), .frame fr437 [(1, .sl 8 1 0 (((4 : Int)).toNat) (((4 : Int)).toNat)), (2, .d (di .i64 g431.1)), (3, .ptr 7 0), (7, .d (di .i64 (4 : Int))), (8, .d (di .i64 g431.2.1)), (9, .d (di .i64 (m4 g431.1)))], .fix 41 [.d (di .i64 a1)], .dead, .fix 52 [.d (di .i64 (1 : Int)), .d (di .i64 (2 : Int))], .fix 52 [.d (di .i64 (2 : Int)), .d (di .i64 (3 : Int))], .dead, .fix 52 [.d (di .i64 (2 : Int)), .d (di .i64 (3 : Int))], .dead, .fix 52 [.d (di .i64 (1 : Int)), .d (di .i64 (2 : Int))]]) (e' := []) (r := .tu []) rfl rfl rfl ?_
          change AO _ _ _ _ _
          refine AO.nil ?_
          refine inlend (ob' := [.fix 25 [.d (.v (.slice none 0 0))], .fix 4 [.d (dbool false)], .dead, .fix 41 [.d (di .i64 a1)], .fix 41 [.d (di .i64 a1)], .fix 41 [.d (di .i64 a1)], .frame fr425 [(6, .ptr 0 0), (7, .ptr 1 0)], .fix 41 [.d (di .i64 a1)], .fix 3 (List.map sS0 ((((g431.2.2.set ((2 : Int)).toNat (bits .xor .i64 x662 (m1 g431.2.1))).set ((3 : Int)).toNat (bits .xor .i64 x667 (m1 g431.2.1))).set ((1 : Int)).toNat (bits .xor .i64 x677 (m1 g431.2.1))).set ((2 : Int)).toNat (bits .xor .i64 x682 (m1 g431.2.1)))), .dead, .fix 41 [.d (di .i64 a1)], .dead, .fix 52 [.d (di .i64 (1 : Int)), .d (di .i64 (2 : Int))], .fix 52 [.d (di .i64 (2 : Int)), .d (di .i64 (3 : Int))], .dead, .fix 52 [.d (di .i64 (2 : Int)), .d (di .i64 (3 : Int))], .dead, .fix 52 [.d (di .i64 (1 : Int)), .d (di .i64 (2 : Int))]]) (e' := [(1, .sl 8 1 0 (((4 : Int)).toNat) (((4 : Int)).toNat)), (2, .d (di .i64 g431.1)), (3, .ptr 7 0), (7, .d (di .i64 (4 : Int))), (8, .d (di .i64 g431.2.1)), (9, .d (di .i64 (m4 g431.1)))]) (r := .tu []) rfl rfl rfl ?_
          change AO _ _ _ _ _
          refine AO.nil ?_
          change AC _ _ _ _
          refine AC.seq ?_
          refine AC.seq ?_
          refine AC.region ?_
          refine AO.op rfl (AOp.move rfl rfl (ltb rfl) rfl ?_)
          refine AO.op rfl (AOp.assign rfl rfl (ltb rfl) rfl ?_)
          refine AO.op rfl (AOp.assign rfl rfl (ltb rfl) rfl ?_)
          refine AO.nil ?_
          change AC _ _ _ _
          obtain ⟨o690, l691, h1⟩ := bind_elim h1
          refine AC.joinE (V := (List Int)) [1, 2, 3, 7, 8] [] 18 (fun g692 => []) (fun g692 => [.fix 25 [.d (.v (.slice none 0 0))], .fix 4 [.d (dbool false)], .dead, .fix 41 [.d (di .i64 a1)], .fix 41 [.d (di .i64 a1)], .fix 41 [.d (di .i64 a1)], .frame fr425 [(6, .ptr 0 0), (7, .ptr 1 0)], .fix 41 [.d (di .i64 a1)], .fix 3 (List.map sS0 g692), .dead, .fix 41 [.d (di .i64 a1)], .dead, .fix 52 [.d (di .i64 (1 : Int)), .d (di .i64 (2 : Int))], .fix 52 [.d (di .i64 (2 : Int)), .d (di .i64 (3 : Int))], .dead, .fix 52 [.d (di .i64 (2 : Int)), .d (di .i64 (3 : Int))], .dead, .fix 52 [.d (di .i64 (1 : Int)), .d (di .i64 (2 : Int))]]) (fun g692 => (p_HCoord_k25 g431 (iter (p_HCoord_l9 a1 F) n433)) g692 = some o427) rfl ?_ ?_
          · refine AC.block ?_
            refine AC.loopP (V := (Int × Int × (List Int))) (p_HCoord_l26 g431) o690 [1, 2, 3, 7, 8] [10, 11] 18 (fun g695 => [(10, .d (di .i64 g695.1)), (11, .d (di .i64 g695.2.1))]) (fun g695 => [.fix 25 [.d (.v (.slice none 0 0))], .fix 4 [.d (dbool false)], .dead, .fix 41 [.d (di .i64 a1)], .fix 41 [.d (di .i64 a1)], .fix 41 [.d (di .i64 a1)], .frame fr425 [(6, .ptr 0 0), (7, .ptr 1 0)], .fix 41 [.d (di .i64 a1)], .fix 3 (List.map sS0 g695.2.2), .dead, .fix 41 [.d (di .i64 a1)], .dead, .fix 52 [.d (di .i64 (1 : Int)), .d (di .i64 (2 : Int))], .fix 52 [.d (di .i64 (2 : Int)), .d (di .i64 (3 : Int))], .dead, .fix 52 [.d (di .i64 (2 : Int)), .d (di .i64 (3 : Int))], .dead, .fix 52 [.d (di .i64 (1 : Int)), .d (di .i64 (2 : Int))]]) F ((0 : Int), (m4 g431.1), ((((g431.2.2.set ((2 : Int)).toNat (bits .xor .i64 x662 (m1 g431.2.1))).set ((3 : Int)).toNat (bits .xor .i64 x667 (m1 g431.2.1))).set ((1 : Int)).toNat (bits .xor .i64 x677 (m1 g431.2.1))).set ((2 : Int)).toNat (bits .xor .i64 x682 (m1 g431.2.1)))) l691 rfl rfl (LeL.refl _) rfl (okU_mk rfl (okU_cons rfl (okU_cons rfl (okU_cons rfl (okU_cons rfl (okU_cons rfl (okU_cons rfl (okU_cons rfl (okU_cons rfl (okU_cons (okU_fixl (fun _ => rfl)) (okU_cons rfl (okU_cons rfl (okU_cons rfl (okU_cons rfl (okU_cons rfl (okU_cons rfl (okU_cons rfl (okU_cons rfl (okU_cons rfl okU_nil))))))))))))))))))) ?_
            intro n697 g695 h2
            unfold p_HCoord_l26 at h2
            refine AC.seq ?_
            refine AC.seq ?_
            refine AC.region ?_
            refine AO.op rfl (AOp.move rfl rfl (ltb rfl) rfl ?_)
            refine AO.op rfl (AOp.move rfl rfl (ltb rfl) rfl ?_)
            refine AO.op rfl (AOp.ilss rfl rfl (ltb rfl) rfl rfl ?_)
            refine AO.nil ?_
            change AC _ _ _ _
            refine AC.cond rfl (fun q698 => ?_) (fun q698 => ?_)
            · replace h2 := cT h2 q698
              refine AC.skip ?_
              change AC _ _ _ _
              refine AC.seq ?_
              refine AC.block ?_
              refine AC.seq ?_
              refine AC.draw 13 mixed (by kernel_rfl) ?_
              refine AD.op [1] rfl (by kernel_rfl) rfl rfl (fun _ _ h => AOp.move rfl rfl (ltb rfl) rfl h) ?_
              refine AD.op [10] rfl (by kernel_rfl) rfl rfl (fun _ _ h => AOp.move rfl rfl (ltb rfl) rfl h) ?_
              obtain ⟨q699, h2⟩ := need_elim h2
              refine AD.op [42, 43] rfl (by kernel_rfl) rfl rfl (fun _ _ h => AOp.indexSl rfl rfl (ltb rfl) rfl rfl el25 q699.1 q699.2 h) ?_
              obtain ⟨x700, q701, h2⟩ := idx_elim h2
              refine AD.op [44] rfl (by kernel_rfl) rfl rfl (fun _ _ h => AOp.load1 rfl rfl (ltb rfl) rfl agg3 rfl (atO q701.2) h) ?_
              refine AD.op [11] rfl (by kernel_rfl) rfl rfl (fun _ _ h => AOp.move rfl rfl (ltb rfl) rfl h) ?_
              refine AD.op [11] rfl (by kernel_rfl) rfl rfl (fun _ _ h => AOp.move rfl rfl (ltb rfl) rfl h) ?_
              obtain ⟨q702, h2⟩ := need_elim h2
              refine AD.op [47] rfl (by kernel_rfl) rfl rfl (fun _ _ h => AOp.ishr (n := 1) rfl rfl (ltb rfl) rfl rfl (by decide) q702 rfl h) ?_
              refine AD.op [46, 48] rfl (by kernel_rfl) rfl rfl (fun _ _ h => AOp.ibits (by simp) rfl rfl (ltb rfl) rfl rfl rfl h) ?_
              refine AD.op [49] rfl (by kernel_rfl) rfl rfl (fun _ _ h => AOp.ibits (by simp) rfl rfl (ltb rfl) rfl rfl rfl h) ?_
              refine AD.op [8] rfl (by kernel_rfl) rfl rfl (fun _ _ h => AOp.move rfl rfl (ltb rfl) rfl h) ?_
              obtain ⟨q703, h2⟩ := need_elim h2
              refine AD.op [50, 51] rfl (by kernel_rfl) rfl rfl (fun _ _ h => AOp.ishl' rfl rfl (ltb rfl) rfl rfl q703 h) ?_
              obtain ⟨q704, h2⟩ := need_elim h2
              refine AD.op [45, 52] rfl (by kernel_rfl) rfl rfl (fun _ _ h => AOp.iadd rfl rfl (ltb rfl) rfl rfl rfl q704.1 q704.2 h) ?_
              obtain ⟨q705, h2⟩ := need_elim h2
              refine AD.op [42, 43] rfl (by kernel_rfl) rfl rfl (fun _ _ h => AOp.indexSl rfl rfl (ltb rfl) rfl rfl el25 q705.1 q705.2 h) ?_
              refine AD.done ?_
              obtain ⟨q706, h2⟩ := need_elim h2
              refine AO.op rfl (AOp.storeL (f := fun z => SV.d (keS0 z)) (l := g695.2.2) (i := (g695.1).toNat) (v := (x700 + (IntKind.i64.wrap ((bits .and .i64 (bits .xor .i64 g695.2.1 (g695.2.1 / 2 ^ 1)) (1 : Int)) * 2 ^ (g431.2.1).toNat)))) rfl rfl rfl rfl size3 rfl rfl rfl q706 ?_)
              refine AO.nil ?_
              change AC _ _ _ _
              refine AC.region ?_
              refine AO.op rfl (AOp.move rfl rfl (ltb rfl) rfl ?_)
              obtain ⟨q707, h2⟩ := need_elim h2
              refine AO.op rfl (AOp.ishr (n := 1) rfl rfl (ltb rfl) rfl rfl (by decide) q707 rfl ?_)
              refine AO.op rfl (AOp.assign rfl rfl (ltb rfl) rfl ?_)
              refine AO.nil ?_
              change AC _ _ _ _
              refine AC.region ?_
              refine AO.op rfl (AOp.move rfl rfl (ltb rfl) rfl ?_)
              obtain ⟨q708, h2⟩ := need_elim h2
              refine AO.op rfl (AOp.iadd rfl rfl (ltb rfl) rfl rfl rfl q708.1 q708.2 ?_)
              refine AO.op rfl (AOp.assign rfl rfl (ltb rfl) rfl ?_)
              refine AO.nil ?_
              exact ⟨((g695.1 + (1 : Int)), (g695.2.1 / 2 ^ 1), (g695.2.2.set (g695.1).toNat (x700 + (IntKind.i64.wrap ((bits .and .i64 (bits .xor .i64 g695.2.1 (g695.2.1 / 2 ^ 1)) (1 : Int)) * 2 ^ (g431.2.1).toNat))))), _, rfl, (LeL.refl _), rfl, (okU_mk rfl (okU_cons rfl (okU_cons rfl (okU_cons rfl (okU_cons rfl (okU_cons rfl (okU_cons rfl (okU_cons rfl (okU_cons rfl (okU_cons (okU_fixl (fun _ => rfl)) (okU_cons rfl (okU_cons rfl (okU_cons rfl (okU_cons rfl (okU_cons rfl (okU_cons rfl (okU_cons rfl (okU_cons rfl (okU_cons rfl okU_nil))))))))))))))))))), h2⟩
            replace h2 := cF h2 q698
            refine AC.exit ?_
            obtain rfl := Option.some.inj h2
            exact ⟨g695.2.2, _, rfl, (LeL.refl _), rfl, (okU_mk rfl (okU_cons rfl (okU_cons rfl (okU_cons rfl (okU_cons rfl (okU_cons rfl (okU_cons rfl (okU_cons rfl (okU_cons rfl (okU_cons (okU_fixl (fun _ => rfl)) (okU_cons rfl (okU_cons rfl (okU_cons rfl (okU_cons rfl (okU_cons rfl (okU_cons rfl (okU_cons rfl (okU_cons rfl (okU_cons rfl okU_nil))))))))))))))))))), aftL h1⟩
          intro g692 h1
          unfold p_HCoord_k25 at h1
          change AC _ _ _ _
          refine AC.region ?_
          refine AO.op rfl (AOp.move rfl rfl (ltb rfl) rfl ?_)
          refine AO.op rfl (AOp.move rfl rfl (ltb rfl) rfl ?_)
          obtain ⟨q693, h1⟩ := need_elim h1
          refine AO.op rfl (AOp.ishr' rfl rfl (ltb rfl) rfl rfl q693.1 q693.2 ?_)
          refine AO.op rfl (AOp.assign rfl rfl (ltb rfl) rfl ?_)
          refine AO.nil ?_
          change AC _ _ _ _
          refine AC.region ?_
          refine AO.op rfl (AOp.move rfl rfl (ltb rfl) rfl ?_)
          obtain ⟨q694, h1⟩ := need_elim h1
          refine AO.op rfl (AOp.iadd rfl rfl (ltb rfl) rfl rfl rfl q694.1 q694.2 ?_)
          refine AO.op rfl (AOp.assign rfl rfl (ltb rfl) rfl ?_)
          refine AO.nil ?_
          exact ⟨((g431.1 / 2 ^ ((4 : Int)).toNat), (g431.2.1 + (1 : Int)), g692), _, rfl, (LeL.refl _), rfl, (okU_mk rfl (okU_cons rfl (okU_cons rfl (okU_cons rfl (okU_cons rfl (okU_cons rfl (okU_cons rfl (okU_cons rfl (okU_cons rfl (okU_cons (okU_fixl (fun _ => rfl)) okU_nil)))))))))), h1⟩
        replace h1 := cF h1 q658
        refine AC.joinP (V := Bool) [1, 2, 3, 10] [62] 11 (fun g709 => [(62, .d (dbool g709))]) (fun g709 => [.fix 25 [.d (.v (.slice none 0 0))], .fix 4 [.d (dbool false)], .dead, .fix 41 [.d (di .i64 a1)], .fix 41 [.d (di .i64 a1)], .fix 41 [.d (di .i64 a1)], .frame fr425 [(6, .ptr 0 0), (7, .ptr 1 0)], .fix 41 [.d (di .i64 a1)], .fix 3 (List.map sS0 g431.2.2), .frame fr437 [(1, .sl 8 1 0 (((4 : Int)).toNat) (((4 : Int)).toNat)), (2, .d (di .i64 g431.1)), (3, .ptr 7 0), (7, .d (di .i64 (4 : Int))), (8, .d (di .i64 g431.2.1)), (9, .d (di .i64 (m4 g431.1)))], .fix 41 [.d (di .i64 a1)]]) (fun g709 => (p_HCoord_k27 F g431 (iter (p_HCoord_l9 a1 F) n433)) g709 = some o427) rfl ?_ ?_
        · refine AC.seq ?_
          refine AC.region ?_
          refine AO.op rfl (AOp.ieql rfl rfl (ltb rfl) rfl rfl ?_)
          refine AO.op rfl (AOp.assign rfl rfl (ltb rfl) rfl ?_)
          refine AO.nil ?_
          change AC _ _ _ _
          refine AC.cond rfl (fun q884 => ?_) (fun q884 => ?_)
          · replace h1 := cT h1 q884
            refine AC.skip ?_
            exact ⟨(decide ((m4 g431.1) = (11 : Int))), _, rfl, (LeL.refl _), rfl, (okU_mk rfl (okU_cons rfl (okU_cons rfl (okU_cons rfl (okU_cons rfl (okU_cons rfl (okU_cons rfl (okU_cons rfl (okU_cons rfl (okU_cons (okU_fixl (fun _ => rfl)) (okU_cons rfl (okU_cons rfl okU_nil)))))))))))), h1⟩
          replace h1 := cF h1 q884
          refine AC.region ?_
          refine AO.op rfl (AOp.ieql rfl rfl (ltb rfl) rfl rfl ?_)
          refine AO.op rfl (AOp.assign rfl rfl (ltb rfl) rfl ?_)
          refine AO.nil ?_
          exact ⟨(decide ((m4 g431.1) = (12 : Int))), _, rfl, (LeL.refl _), rfl, (okU_mk rfl (okU_cons rfl (okU_cons rfl (okU_cons rfl (okU_cons rfl (okU_cons rfl (okU_cons rfl (okU_cons rfl (okU_cons rfl (okU_cons (okU_fixl (fun _ => rfl)) (okU_cons rfl (okU_cons rfl okU_nil)))))))))))), h1⟩
        intro g709 h1
        unfold p_HCoord_k27 at h1
        refine AC.cond rfl (fun q710 => ?_) (fun q710 => ?_)
        · replace h1 := cT h1 q710
          refine AC.region ?_
          refine AO.op rfl (AOp.move rfl rfl (ltb rfl) rfl ?_)
          refine AO.op rfl (AOp.move rfl rfl (ltb rfl) rfl ?_)
          refine AO.op rfl (AOp.move rfl rfl (ltb rfl) rfl ?_)
          refine AO.op rfl (AOp.build rfl rfl (ltb rfl) zero52 rfl places52 rfl rfl ?_)
          refine AO.op rfl (AOp.build rfl rfl (ltb rfl) zero52 rfl places52 rfl rfl ?_)
          refine AO.op rfl (AOp.inl [] (by kernel_rfl) Tryd.func30 rfl Tryd.ntmps30 rfl rfl (ltb rfl) rfl (leb rfl) rfl ?_)
          intro fr711
          refine AC.seq ?_
          refine AC.region ?_
          refine AO.op rfl (AOp.box rfl rfl (ltb rfl) rfl rfl ?_)
          refine AO.op rfl (AOp.box rfl rfl (ltb rfl) rfl rfl ?_)
          refine AO.nil ?_
          change AC _ _ _ _
          refine AC.seq ?_
          refine AC.region ?_
          refine AO.op rfl (AOp.move rfl rfl (ltb rfl) rfl ?_)
          refine AO.nil ?_
          change AC _ _ _ _
          refine AC.condT rfl rfl ?_
          refine AC.seq ?_
          refine AC.region ?_
          refine AO.op rfl (AOp.loadN rfl rfl (ltb rfl) rfl agg52 size52 rfl (leb rfl) rfl ?_)
          refine AO.op rfl (AOp.makeIfc rfl rfl (ltb rfl) rfl conc52 ?_)
          refine AO.op rfl (AOp.move rfl rfl (ltb rfl) rfl ?_)
          refine AO.op rfl (AOp.move rfl rfl (ltb rfl) rfl ?_)
          refine AO.op rfl (AOp.inlE [1, 2, 8] (EntersS.meth (by kernel_rfl) rfl rfl rfl meth52_pub_orthodrome_pub_gonum_spatial_curve_do rfl rfl) Tryd.func27 rfl Tryd.ntmps27 rfl (ltb rfl) (leb rfl) rfl ?_)
          intro fr712
          refine AC.seq ?_
          refine AC.region ?_
          refine AO.op rfl (AOp.box rfl rfl (ltb rfl) rfl rfl ?_)
          refine AO.nil ?_
          change AC _ _ _ _
          obtain ⟨q713, h1⟩ := need_elim h1
          obtain ⟨x714, q715, h1⟩ := idx_elim h1
          obtain ⟨q716, h1⟩ := need_elim h1
          obtain ⟨q717, h1⟩ := need_elim h1
          obtain ⟨q718, h1⟩ := need_elim h1
          obtain ⟨x719, q720, h1⟩ := idx_elim h1
          obtain ⟨q721, h1⟩ := need_elim h1
          obtain ⟨q722, h1⟩ := need_elim h1
          obtain ⟨q723, h1⟩ := need_elim h1
          obtain ⟨q724, h1⟩ := need_elim h1
          refine AC.drawS [0, 1, 2, 3, 4, 5, 6, 7, 8, 9, 10, 11, 12, 13, 14, 15, 16, 17, 18, 19, 20, 21, 22, 23, 24, 25] [25] [26, 27] (fun L => [.fix 25 [.d (.v (.slice none 0 0))], .fix 4 [.d (dbool false)], .dead, .fix 41 [.d (di .i64 a1)], .fix 41 [.d (di .i64 a1)], .fix 41 [.d (di .i64 a1)], .frame fr425 [(6, .ptr 0 0), (7, .ptr 1 0)], .fix 41 [.d (di .i64 a1)], bif L 25 then .fix 3 (List.map sS0 (g431.2.2.set ((2 : Int)).toNat (bits .xor .i64 x714 (m1 g431.2.1)))) else .fix 3 (List.map sS0 g431.2.2), .frame fr437 [(1, .sl 8 1 0 (((4 : Int)).toNat) (((4 : Int)).toNat)), (2, .d (di .i64 g431.1)), (3, .ptr 7 0), (7, .d (di .i64 (4 : Int))), (8, .d (di .i64 g431.2.1)), (9, .d (di .i64 (m4 g431.1)))], .fix 41 [.d (di .i64 a1)], .frame fr711 [], .fix 52 [.d (di .i64 (0 : Int)), .d (di .i64 (1 : Int))], .fix 52 [.d (di .i64 (2 : Int)), .d (di .i64 (3 : Int))], .frame fr712 [(1, .d (di .i64 g431.2.1)), (2, .sl 8 1 0 (((4 : Int)).toNat) (((4 : Int)).toNat)), (8, .ptr 12 0)], .fix 52 [.d (di .i64 (2 : Int)), .d (di .i64 (3 : Int))]]) [(25, (fun _ => true))] mixed (by kernel_rfl) (fun L L' h => by simp only [h 25 (by decide)]) rfl ?_
          refine AS.op [2] [] [25] [] rfl rfl rfl (by kernel_rfl) (by kernel_rfl) rfl rfl (fun _ _ _ h => AOp.move rfl rfl (ltb rfl) rfl h) (by kernel_rfl) ?_
          refine AS.op [3] [] [25] [] rfl rfl rfl (by kernel_rfl) (by kernel_rfl) rfl rfl (fun _ _ _ h => AOp.fieldAddr rfl rfl (ltb rfl) rfl fo52_0 h) (by kernel_rfl) ?_
          refine AS.op [7] [] [25] [] rfl rfl rfl (by kernel_rfl) (by kernel_rfl) rfl rfl (fun _ _ _ h => AOp.load1 rfl rfl (ltb rfl) rfl agg3 rfl rfl h) (by kernel_rfl) ?_
          refine AS.op [2] [] [] [25] rfl rfl rfl (by kernel_rfl) (by kernel_rfl) rfl rfl (fun _ _ _ h => AOp.move rfl rfl (ltb rfl) rfl h) (by kernel_rfl) ?_
          refine AS.op [3] [] [] [25] rfl rfl rfl (by kernel_rfl) (by kernel_rfl) rfl rfl (fun _ _ _ h => AOp.fieldAddr rfl rfl (ltb rfl) rfl fo52_1 h) (by kernel_rfl) ?_
          refine AS.op [10] [] [] [25] rfl rfl rfl (by kernel_rfl) (by kernel_rfl) rfl rfl (fun _ _ _ h => AOp.load1 rfl rfl (ltb rfl) rfl agg3 rfl rfl h) (by kernel_rfl) ?_
          refine AS.op [2] [] [25] [] rfl rfl rfl (by kernel_rfl) (by kernel_rfl) rfl rfl (fun _ _ _ h => AOp.move rfl rfl (ltb rfl) rfl h) (by kernel_rfl) ?_
          refine AS.op [3] [] [25] [] rfl rfl rfl (by kernel_rfl) (by kernel_rfl) rfl rfl (fun _ _ _ h => AOp.fieldAddr rfl rfl (ltb rfl) rfl fo52_1 h) (by kernel_rfl) ?_
          refine AS.op [13] [] [25] [] rfl rfl rfl (by kernel_rfl) (by kernel_rfl) rfl rfl (fun _ _ _ h => AOp.load1 rfl rfl (ltb rfl) rfl agg3 rfl rfl h) (by kernel_rfl) ?_
          refine AS.op [12, 14] [] [25] [] rfl rfl rfl (by kernel_rfl) (by kernel_rfl) rfl rfl (fun _ _ _ h => AOp.indexSl rfl rfl (ltb rfl) rfl rfl el25 q713.1 q713.2 h) (by kernel_rfl) ?_
          refine AS.op [15] [] [25] [] rfl rfl rfl (by kernel_rfl) (by kernel_rfl) rfl rfl (fun _ _ _ h => AOp.load1 rfl rfl (ltb rfl) rfl agg3 rfl (atO q715.2) h) (by kernel_rfl) ?_
          refine AS.op [1] [] [25] [] rfl rfl rfl (by kernel_rfl) (by kernel_rfl) rfl rfl (fun _ _ _ h => AOp.move rfl rfl (ltb rfl) rfl h) (by kernel_rfl) ?_
          refine AS.op [17] [] [25] [] rfl rfl rfl (by kernel_rfl) (by kernel_rfl) rfl rfl (fun _ _ _ h => AOp.ishl' rfl rfl (ltb rfl) rfl rfl q716 h) (by kernel_rfl) ?_
          refine AS.op [18] [] [25] [] rfl rfl rfl (by kernel_rfl) (by kernel_rfl) rfl rfl (fun _ _ _ h => AOp.isub rfl rfl (ltb rfl) rfl rfl rfl q717.1 q717.2 h) (by kernel_rfl) ?_
          refine AS.op [16, 19] [] [25] [] rfl rfl rfl (by kernel_rfl) (by kernel_rfl) rfl rfl (fun _ _ _ h => AOp.ibits (by simp) rfl rfl (ltb rfl) rfl rfl rfl h) (by kernel_rfl) ?_
          refine AS.op [2] [] [25] [] rfl rfl rfl (by kernel_rfl) (by kernel_rfl) rfl rfl (fun _ _ _ h => AOp.move rfl rfl (ltb rfl) rfl h) (by kernel_rfl) ?_
          refine AS.op [3] [] [25] [] rfl rfl rfl (by kernel_rfl) (by kernel_rfl) rfl rfl (fun _ _ _ h => AOp.fieldAddr rfl rfl (ltb rfl) rfl fo52_0 h) (by kernel_rfl) ?_
          refine AS.op [22] [] [25] [] rfl rfl rfl (by kernel_rfl) (by kernel_rfl) rfl rfl (fun _ _ _ h => AOp.load1 rfl rfl (ltb rfl) rfl agg3 rfl rfl h) (by kernel_rfl) ?_
          refine AS.op [21, 23] [] [25] [] rfl rfl rfl (by kernel_rfl) (by kernel_rfl) rfl rfl (fun _ _ _ h => AOp.indexSl rfl rfl (ltb rfl) rfl rfl el25 q718.1 q718.2 h) (by kernel_rfl) ?_
          refine AS.op [24] [] [25] [] rfl rfl rfl (by kernel_rfl) (by kernel_rfl) rfl rfl (fun _ _ _ h => AOp.load1 rfl rfl (ltb rfl) rfl agg3 rfl (atO q720.2) h) (by kernel_rfl) ?_
          refine AS.op [1] [] [] [25] rfl rfl rfl (by kernel_rfl) (by kernel_rfl) rfl rfl (fun _ _ _ h => AOp.move rfl rfl (ltb rfl) rfl h) (by kernel_rfl) ?_
          refine AS.op [26] [] [] [25] rfl rfl rfl (by kernel_rfl) (by kernel_rfl) rfl rfl (fun _ _ _ h => AOp.ishl' rfl rfl (ltb rfl) rfl rfl q721 h) (by kernel_rfl) ?_
          refine AS.op [27] [] [] [25] rfl rfl rfl (by kernel_rfl) (by kernel_rfl) rfl rfl (fun _ _ _ h => AOp.isub rfl rfl (ltb rfl) rfl rfl rfl q722.1 q722.2 h) (by kernel_rfl) ?_
          refine AS.op [25, 28] [] [] [25] rfl rfl rfl (by kernel_rfl) (by kernel_rfl) rfl rfl (fun _ _ _ h => AOp.ibits (by simp) rfl rfl (ltb rfl) rfl rfl rfl h) (by kernel_rfl) ?_
          refine AS.op [6, 8] [] [25] [] rfl rfl rfl (by kernel_rfl) (by kernel_rfl) rfl rfl (fun _ _ _ h => AOp.indexSl rfl rfl (ltb rfl) rfl rfl el25 q723.1 q723.2 h) (by kernel_rfl) ?_
          refine AS.mid0 [20, 30] [] [25] [] rfl rfl rfl rfl (by kernel_rfl) (by kernel_rfl) rfl rfl (fun _ _ _ h => AOp.storeL (f := fun z => SV.d (keS0 z)) (l := g431.2.2) (i := ((2 : Int)).toNat) (v := (bits .xor .i64 x714 (m1 g431.2.1))) rfl rfl rfl rfl size3 rfl rfl rfl q724 (AO.dropT h)) (by kernel_rfl) rfl ?_
          refine AS.done ?_
          refine AO.objs (obs' := [.fix 25 [.d (.v (.slice none 0 0))], .fix 4 [.d (dbool false)], .dead, .fix 41 [.d (di .i64 a1)], .fix 41 [.d (di .i64 a1)], .fix 41 [.d (di .i64 a1)], .frame fr425 [(6, .ptr 0 0), (7, .ptr 1 0)], .fix 41 [.d (di .i64 a1)], .fix 3 (List.map sS0 (g431.2.2.set ((2 : Int)).toNat (bits .xor .i64 x714 (m1 g431.2.1)))), .frame fr437 [(1, .sl 8 1 0 (((4 : Int)).toNat) (((4 : Int)).toNat)), (2, .d (di .i64 g431.1)), (3, .ptr 7 0), (7, .d (di .i64 (4 : Int))), (8, .d (di .i64 g431.2.1)), (9, .d (di .i64 (m4 g431.1)))], .fix 41 [.d (di .i64 a1)], .frame fr711 [], .fix 52 [.d (di .i64 (0 : Int)), .d (di .i64 (1 : Int))], .fix 52 [.d (di .i64 (2 : Int)), .d (di .i64 (3 : Int))], .frame fr712 [(1, .d (di .i64 g431.2.1)), (2, .sl 8 1 0 (((4 : Int)).toNat) (((4 : Int)).toNat)), (8, .ptr 12 0)], .fix 52 [.d (di .i64 (2 : Int)), .d (di .i64 (3 : Int))]]) rfl ?_
          obtain ⟨q725, h1⟩ := need_elim h1
          refine AO.op rfl (AOp.indexSl rfl rfl (ltb rfl) rfl rfl el25 q725.1 q725.2 ?_)
          obtain ⟨q726, h1⟩ := need_elim h1
          refine AO.op rfl (AOp.storeL (f := fun z => SV.d (keS0 z)) (l := (g431.2.2.set ((2 : Int)).toNat (bits .xor .i64 x714 (m1 g431.2.1)))) (i := ((3 : Int)).toNat) (v := (bits .xor .i64 x719 (m1 g431.2.1))) rfl rfl rfl rfl size3 rfl rfl rfl q726 ?_)
          refine AO.nil ?_
          refine inlend (ob' := [.fix 25 [.d (.v (.slice none 0 0))], .fix 4 [.d (dbool false)], .dead, .fix 41 [.d (di .i64 a1)], .fix 41 [.d (di .i64 a1)], .fix 41 [.d (di .i64 a1)], .frame fr425 [(6, .ptr 0 0), (7, .ptr 1 0)], .fix 41 [.d (di .i64 a1)], .fix 3 (List.map sS0 ((g431.2.2.set ((2 : Int)).toNat (bits .xor .i64 x714 (m1 g431.2.1))).set ((3 : Int)).toNat (bits .xor .i64 x719 (m1 g431.2.1)))), .frame fr437 [(1, .sl 8 1 0 (((4 : Int)).toNat) (((4 : Int)).toNat)), (2, .d (di .i64 g431.1)), (3, .ptr 7 0), (7, .d (di .i64 (4 : Int))), (8, .d (di .i64 g431.2.1)), (9, .d (di .i64 (m4 g431.1)))], .fix 41 [.d (di .i64 a1)], .frame fr711 [], .fix 52 [.d (di .i64 (0 : Int)), .d (di .i64 (1 : Int))], .fix 52 [.d (di .i64 (2 : Int)), .d (di .i64 (3 : Int))], .dead, .fix 52 [.d (di .i64 (2 : Int)), .d (di .i64 (3 : Int))]]) (e' := [(1, .d (di .i64 g431.2.1)), (2, .sl 8 1 0 (((4 : Int)).toNat) (((4 : Int)).toNat)), (8, .ptr 12 0)]) (r := .tu []) rfl rfl rfl ?_
          change AO _ _ _ _ _
          refine AO.nil ?_
          change AC _ _ _ _
          refine AC.region ?_
          refine AO.op rfl (AOp.loadN rfl rfl (ltb rfl) rfl agg52 size52 rfl (leb rfl) rfl ?_)
          refine AO.op rfl (AOp.makeIfc rfl rfl (ltb rfl) rfl conc52 ?_)
          refine AO.op rfl (AOp.move rfl rfl (ltb rfl) rfl ?_)
          refine AO.op rfl (AOp.move rfl rfl (ltb rfl) rfl ?_)
          refine AO.op rfl (AOp.inlE [] (EntersS.meth (by kernel_rfl) rfl rfl rfl meth52_pub_orthodrome_pub_gonum_spatial_curve_do rfl rfl) Tryd.func27 rfl Tryd.ntmps27 rfl (ltb rfl) (leb rfl) rfl ?_)
          intro fr727
          refine AC.seq ?_
          refine AC.region ?_
          refine AO.op rfl (AOp.box rfl rfl (ltb rfl) rfl rfl ?_)
          refine AO.nil ?_
          change AC _ _ _ _
          obtain ⟨q728, h1⟩ := need_elim h1
          obtain ⟨x729, q730, h1⟩ := idx_elim h1
          obtain ⟨q731, h1⟩ := need_elim h1
          obtain ⟨q732, h1⟩ := need_elim h1
          obtain ⟨q733, h1⟩ := need_elim h1
          obtain ⟨x734, q735, h1⟩ := idx_elim h1
          obtain ⟨q736, h1⟩ := need_elim h1
          obtain ⟨q737, h1⟩ := need_elim h1
          obtain ⟨q738, h1⟩ := need_elim h1
          obtain ⟨q739, h1⟩ := need_elim h1
          refine AC.drawS [0, 1, 2, 3, 4, 5, 6, 7, 8, 9, 10, 11, 12, 13, 14, 15, 16, 17, 18, 19, 20, 21, 22, 23, 24, 25] [25] [26, 27] (fun L => [.fix 25 [.d (.v (.slice none 0 0))], .fix 4 [.d (dbool false)], .dead, .fix 41 [.d (di .i64 a1)], .fix 41 [.d (di .i64 a1)], .fix 41 [.d (di .i64 a1)], .frame fr425 [(6, .ptr 0 0), (7, .ptr 1 0)], .fix 41 [.d (di .i64 a1)], bif L 25 then .fix 3 (List.map sS0 (((g431.2.2.set ((2 : Int)).toNat (bits .xor .i64 x714 (m1 g431.2.1))).set ((3 : Int)).toNat (bits .xor .i64 x719 (m1 g431.2.1))).set ((0 : Int)).toNat (bits .xor .i64 x729 (m1 g431.2.1)))) else .fix 3 (List.map sS0 ((g431.2.2.set ((2 : Int)).toNat (bits .xor .i64 x714 (m1 g431.2.1))).set ((3 : Int)).toNat (bits .xor .i64 x719 (m1 g431.2.1)))), .frame fr437 [(1, .sl 8 1 0 (((4 : Int)).toNat) (((4 : Int)).toNat)), (2, .d (di .i64 g431.1)), (3, .ptr 7 0), (7, .d (di .i64 (4 : Int))), (8, .d (di .i64 g431.2.1)), (9, .d (di .i64 (m4 g431.1)))], .fix 41 [.d (di .i64 a1)], .frame fr711 [], .fix 52 [.d (di .i64 (0 : Int)), .d (di .i64 (1 : Int))], .fix 52 [.d (di .i64 (2 : Int)), .d (di .i64 (3 : Int))], .dead, .fix 52 [.d (di .i64 (2 : Int)), .d (di .i64 (3 : Int))], .frame fr727 [], .fix 52 [.d (di .i64 (0 : Int)), .d (di .i64 (1 : Int))]]) [(25, (fun _ => true))] mixed (by kernel_rfl) (fun L L' h => by simp only [h 25 (by decide)]) rfl ?_
          refine AS.op [2] [] [25] [] rfl rfl rfl (by kernel_rfl) (by kernel_rfl) rfl rfl (fun _ _ _ h => AOp.move rfl rfl (ltb rfl) rfl h) (by kernel_rfl) ?_
          refine AS.op [3] [] [25] [] rfl rfl rfl (by kernel_rfl) (by kernel_rfl) rfl rfl (fun _ _ _ h => AOp.fieldAddr rfl rfl (ltb rfl) rfl fo52_0 h) (by kernel_rfl) ?_
          refine AS.op [7] [] [25] [] rfl rfl rfl (by kernel_rfl) (by kernel_rfl) rfl rfl (fun _ _ _ h => AOp.load1 rfl rfl (ltb rfl) rfl agg3 rfl rfl h) (by kernel_rfl) ?_
          refine AS.op [2] [] [] [25] rfl rfl rfl (by kernel_rfl) (by kernel_rfl) rfl rfl (fun _ _ _ h => AOp.move rfl rfl (ltb rfl) rfl h) (by kernel_rfl) ?_
          refine AS.op [3] [] [] [25] rfl rfl rfl (by kernel_rfl) (by kernel_rfl) rfl rfl (fun _ _ _ h => AOp.fieldAddr rfl rfl (ltb rfl) rfl fo52_1 h) (by kernel_rfl) ?_
          refine AS.op [10] [] [] [25] rfl rfl rfl (by kernel_rfl) (by kernel_rfl) rfl rfl (fun _ _ _ h => AOp.load1 rfl rfl (ltb rfl) rfl agg3 rfl rfl h) (by kernel_rfl) ?_
          refine AS.op [2] [] [25] [] rfl rfl rfl (by kernel_rfl) (by kernel_rfl) rfl rfl (fun _ _ _ h => AOp.move rfl rfl (ltb rfl) rfl h) (by kernel_rfl) ?_
          refine AS.op [3] [] [25] [] rfl rfl rfl (by kernel_rfl) (by kernel_rfl) rfl rfl (fun _ _ _ h => AOp.fieldAddr rfl rfl (ltb rfl) rfl fo52_1 h) (by kernel_rfl) ?_
          refine AS.op [13] [] [25] [] rfl rfl rfl (by kernel_rfl) (by kernel_rfl) rfl rfl (fun _ _ _ h => AOp.load1 rfl rfl (ltb rfl) rfl agg3 rfl rfl h) (by kernel_rfl) ?_
          refine AS.op [12, 14] [] [25] [] rfl rfl rfl (by kernel_rfl) (by kernel_rfl) rfl rfl (fun _ _ _ h => AOp.indexSl rfl rfl (ltb rfl) rfl rfl el25 q728.1 q728.2 h) (by kernel_rfl) ?_
          refine AS.op [15] [] [25] [] rfl rfl rfl (by kernel_rfl) (by kernel_rfl) rfl rfl (fun _ _ _ h => AOp.load1 rfl rfl (ltb rfl) rfl agg3 rfl (atO q730.2) h) (by kernel_rfl) ?_
          refine AS.op [1] [] [25] [] rfl rfl rfl (by kernel_rfl) (by kernel_rfl) rfl rfl (fun _ _ _ h => AOp.move rfl rfl (ltb rfl) rfl h) (by kernel_rfl) ?_
          refine AS.op [17] [] [25] [] rfl rfl rfl (by kernel_rfl) (by kernel_rfl) rfl rfl (fun _ _ _ h => AOp.ishl' rfl rfl (ltb rfl) rfl rfl q731 h) (by kernel_rfl) ?_
          refine AS.op [18] [] [25] [] rfl rfl rfl (by kernel_rfl) (by kernel_rfl) rfl rfl (fun _ _ _ h => AOp.isub rfl rfl (ltb rfl) rfl rfl rfl q732.1 q732.2 h) (by kernel_rfl) ?_
          refine AS.op [16, 19] [] [25] [] rfl rfl rfl (by kernel_rfl) (by kernel_rfl) rfl rfl (fun _ _ _ h => AOp.ibits (by simp) rfl rfl (ltb rfl) rfl rfl rfl h) (by kernel_rfl) ?_
          refine AS.op [2] [] [25] [] rfl rfl rfl (by kernel_rfl) (by kernel_rfl) rfl rfl (fun _ _ _ h => AOp.move rfl rfl (ltb rfl) rfl h) (by kernel_rfl) ?_
          refine AS.op [3] [] [25] [] rfl rfl rfl (by kernel_rfl) (by kernel_rfl) rfl rfl (fun _ _ _ h => AOp.fieldAddr rfl rfl (ltb rfl) rfl fo52_0 h) (by kernel_rfl) ?_
          refine AS.op [22] [] [25] [] rfl rfl rfl (by kernel_rfl) (by kernel_rfl) rfl rfl (fun _ _ _ h => AOp.load1 rfl rfl (ltb rfl) rfl agg3 rfl rfl h) (by kernel_rfl) ?_
          refine AS.op [21, 23] [] [25] [] rfl rfl rfl (by kernel_rfl) (by kernel_rfl) rfl rfl (fun _ _ _ h => AOp.indexSl rfl rfl (ltb rfl) rfl rfl el25 q733.1 q733.2 h) (by kernel_rfl) ?_
          refine AS.op [24] [] [25] [] rfl rfl rfl (by kernel_rfl) (by kernel_rfl) rfl rfl (fun _ _ _ h => AOp.load1 rfl rfl (ltb rfl) rfl agg3 rfl (atO q735.2) h) (by kernel_rfl) ?_
          refine AS.op [1] [] [] [25] rfl rfl rfl (by kernel_rfl) (by kernel_rfl) rfl rfl (fun _ _ _ h => AOp.move rfl rfl (ltb rfl) rfl h) (by kernel_rfl) ?_
          refine AS.op [26] [] [] [25] rfl rfl rfl (by kernel_rfl) (by kernel_rfl) rfl rfl (fun _ _ _ h => AOp.ishl' rfl rfl (ltb rfl) rfl rfl q736 h) (by kernel_rfl) ?_
          refine AS.op [27] [] [] [25] rfl rfl rfl (by kernel_rfl) (by kernel_rfl) rfl rfl (fun _ _ _ h => AOp.isub rfl rfl (ltb rfl) rfl rfl rfl q737.1 q737.2 h) (by kernel_rfl) ?_
          refine AS.op [25, 28] [] [] [25] rfl rfl rfl (by kernel_rfl) (by kernel_rfl) rfl rfl (fun _ _ _ h => AOp.ibits (by simp) rfl rfl (ltb rfl) rfl rfl rfl h) (by kernel_rfl) ?_
          refine AS.op [6, 8] [] [25] [] rfl rfl rfl (by kernel_rfl) (by kernel_rfl) rfl rfl (fun _ _ _ h => AOp.indexSl rfl rfl (ltb rfl) rfl rfl el25 q738.1 q738.2 h) (by kernel_rfl) ?_
          refine AS.mid0 [20, 30] [] [25] [] rfl rfl rfl rfl (by kernel_rfl) (by kernel_rfl) rfl rfl (fun _ _ _ h => AOp.storeL (f := fun z => SV.d (keS0 z)) (l := ((g431.2.2.set ((2 : Int)).toNat (bits .xor .i64 x714 (m1 g431.2.1))).set ((3 : Int)).toNat (bits .xor .i64 x719 (m1 g431.2.1)))) (i := ((0 : Int)).toNat) (v := (bits .xor .i64 x729 (m1 g431.2.1))) rfl rfl rfl rfl size3 rfl rfl rfl q739 (AO.dropT h)) (by kernel_rfl) rfl ?_
          refine AS.done ?_
          refine AO.objs (obs' := [.fix 25 [.d (.v (.slice none 0 0))], .fix 4 [.d (dbool false)], .dead, .fix 41 [.d (di .i64 a1)], .fix 41 [.d (di .i64 a1)], .fix 41 [.d (di .i64 a1)], .frame fr425 [(6, .ptr 0 0), (7, .ptr 1 0)], .fix 41 [.d (di .i64 a1)], .fix 3 (List.map sS0 (((g431.2.2.set ((2 : Int)).toNat (bits .xor .i64 x714 (m1 g431.2.1))).set ((3 : Int)).toNat (bits .xor .i64 x719 (m1 g431.2.1))).set ((0 : Int)).toNat (bits .xor .i64 x729 (m1 g431.2.1)))), .frame fr437 [(1, .sl 8 1 0 (((4 : Int)).toNat) (((4 : Int)).toNat)), (2, .d (di .i64 g431.1)), (3, .ptr 7 0), (7, .d (di .i64 (4 : Int))), (8, .d (di .i64 g431.2.1)), (9, .d (di .i64 (m4 g431.1)))], .fix 41 [.d (di .i64 a1)], .frame fr711 [], .fix 52 [.d (di .i64 (0 : Int)), .d (di .i64 (1 : Int))], .fix 52 [.d (di .i64 (2 : Int)), .d (di .i64 (3 : Int))], .dead, .fix 52 [.d (di .i64 (2 : Int)), .d (di .i64 (3 : Int))], .frame fr727 [], .fix 52 [.d (di .i64 (0 : Int)), .d (di .i64 (1 : Int))]]) rfl ?_
          obtain ⟨q740, h1⟩ := need_elim h1
          refine AO.op rfl (AOp.indexSl rfl rfl (ltb rfl) rfl rfl el25 q740.1 q740.2 ?_)
          obtain ⟨q741, h1⟩ := need_elim h1
          refine AO.op rfl (AOp.storeL (f := fun z => SV.d (keS0 z)) (l := (((g431.2.2.set ((2 : Int)).toNat (bits .xor .i64 x714 (m1 g431.2.1))).set ((3 : Int)).toNat (bits .xor .i64 x719 (m1 g431.2.1))).set ((0 : Int)).toNat (bits .xor .i64 x729 (m1 g431.2.1)))) (i := ((1 : Int)).toNat) (v := (bits .xor .i64 x734 (m1 g431.2.1))) rfl rfl rfl rfl size3 rfl rfl rfl q741 ?_)
          refine AO.nil ?_
          refine inlend (ob' := [.fix 25 [.d (.v (.slice none 0 0))], .fix 4 [.d (dbool false)], .dead, .fix 41 [.d (di .i64 a1)], .fix 41 [.d (di .i64 a1)], .fix 41 [.d (di .i64 a1)], .frame fr425 [(6, .ptr 0 0), (7, .ptr 1 0)], .fix 41 [.d (di .i64 a1)], .fix 3 (List.map sS0 ((((g431.2.2.set ((2 : Int)).toNat (bits .xor .i64 x714 (m1 g431.2.1))).set ((3 : Int)).toNat (bits .xor .i64 x719 (m1 g431.2.1))).set ((0 : Int)).toNat (bits .xor .i64 x729 (m1 g431.2.1))).set ((1 : Int)).toNat (bits .xor .i64 x734 (m1 g431.2.1)))), .frame fr437 [(1, .sl 8 1 0 (((4 : Int)).toNat) (((4 : Int)).toNat)), (2, .d (di .i64 g431.1)), (3, .ptr 7 0), (7, .d (di .i64 (4 : Int))), (8, .d (di .i64 g431.2.1)), (9, .d (di .i64 (m4 g431.1)))], .fix 41 [.d (di .i64 a1)], .frame fr711 [], .fix 52 [.d (di .i64 (0 : Int)), .d (di .i64 (1 : Int))], .fix 52 [.d (di .i64 (2 : Int)), .d (di .i64 (3 : Int))], .dead, .fix 52 [.d (di .i64 (2 : Int)), .d (di .i64 (3 : Int))], .dead, .fix 52 [.d (di .i64 (0 : Int)), .d (di .i64 (1 : Int))]]) (e' := []) (r := .tu []) rfl rfl rfl ?_
          change AO _ _ _ _ _
          refine AO.nil ?_
          refine inlend (ob' := [.fix 25 [.d (.v (.slice none 0 0))], .fix 4 [.d (dbool false)], .dead, .fix 41 [.d (di .i64 a1)], .fix 41 [.d (di .i64 a1)], .fix 41 [.d (di .i64 a1)], .frame fr425 [(6, .ptr 0 0), (7, .ptr 1 0)], .fix 41 [.d (di .i64 a1)], .fix 3 (List.map sS0 ((((g431.2.2.set ((2 : Int)).toNat (bits .xor .i64 x714 (m1 g431.2.1))).set ((3 : Int)).toNat (bits .xor .i64 x719 (m1 g431.2.1))).set ((0 : Int)).toNat (bits .xor .i64 x729 (m1 g431.2.1))).set ((1 : Int)).toNat (bits .xor .i64 x734 (m1 g431.2.1)))), .frame fr437 [(1, .sl 8 1 0 (((4 : Int)).toNat) (((4 : Int)).toNat)), (2, .d (di .i64 g431.1)), (3, .ptr 7 0), (7, .d (di .i64 (4 : Int))), (8, .d (di .i64 g431.2.1)), (9, .d (di .i64 (m4 g431.1)))], .fix 41 [.d (di .i64 a1)], .dead, .fix 52 [.d (di .i64 (0 : Int)), .d (di .i64 (1 : Int))], .fix 52 [.d (di .i64 (2 : Int)), .d (di .i64 (3 : Int))], .dead, .fix 52 [.d (di .i64 (2 : Int)), .d (di .i64 (3 : Int))], .dead, .fix 52 [.d (di .i64 (0 : Int)), .d (di .i64 (1 : Int))]]) (e' := []) (r := .tu []) rfl rfl rfl ?_
          change AO _ _ _ _ _
          refine AO.nil ?_
          refine inlend (ob' := [.fix 25 [.d (.v (.slice none 0 0))], .fix 4 [.d (dbool false)], .dead, .fix 41 [.d (di .i64 a1)], .fix 41 [.d (di .i64 a1)], .fix 41 [.d (di .i64 a1)], .frame fr425 [(6, .ptr 0 0), (7, .ptr 1 0)], .fix 41 [.d (di .i64 a1)], .fix 3 (List.map sS0 ((((g431.2.2.set ((2 : Int)).toNat (bits .xor .i64 x714 (m1 g431.2.1))).set ((3 : Int)).toNat (bits .xor .i64 x719 (m1 g431.2.1))).set ((0 : Int)).toNat (bits .xor .i64 x729 (m1 g431.2.1))).set ((1 : Int)).toNat (bits .xor .i64 x734 (m1 g431.2.1)))), .dead, .fix 41 [.d (di .i64 a1)], .dead, .fix 52 [.d (di .i64 (0 : Int)), .d (di .i64 (1 : Int))], .fix 52 [.d (di .i64 (2 : Int)), .d (di .i64 (3 : Int))], .dead, .fix 52 [.d (di .i64 (2 : Int)), .d (di .i64 (3 : Int))], .dead, .fix 52 [.d (di .i64 (0 : Int)), .d (di .i64 (1 : Int))]]) (e' := [(1, .sl 8 1 0 (((4 : Int)).toNat) (((4 : Int)).toNat)), (2, .d (di .i64 g431.1)), (3, .ptr 7 0), (7, .d (di .i64 (4 : Int))), (8, .d (di .i64 g431.2.1)), (9, .d (di .i64 (m4 g431.1)))]) (r := .tu []) rfl rfl rfl ?_
          change AO _ _ _ _ _
          refine AO.nil ?_
          change AC _ _ _ _
          refine AC.seq ?_
          refine AC.seq ?_
          refine AC.region ?_
          refine AO.op rfl (AOp.move rfl rfl (ltb rfl) rfl ?_)
          refine AO.op rfl (AOp.assign rfl rfl (ltb rfl) rfl ?_)
          refine AO.op rfl (AOp.assign rfl rfl (ltb rfl) rfl ?_)
          refine AO.nil ?_
          change AC _ _ _ _
          obtain ⟨o742, l743, h1⟩ := bind_elim h1
          refine AC.joinE (V := (List Int)) [1, 2, 3, 7, 8] [] 18 (fun g744 => []) (fun g744 => [.fix 25 [.d (.v (.slice none 0 0))], .fix 4 [.d (dbool false)], .dead, .fix 41 [.d (di .i64 a1)], .fix 41 [.d (di .i64 a1)], .fix 41 [.d (di .i64 a1)], .frame fr425 [(6, .ptr 0 0), (7, .ptr 1 0)], .fix 41 [.d (di .i64 a1)], .fix 3 (List.map sS0 g744), .dead, .fix 41 [.d (di .i64 a1)], .dead, .fix 52 [.d (di .i64 (0 : Int)), .d (di .i64 (1 : Int))], .fix 52 [.d (di .i64 (2 : Int)), .d (di .i64 (3 : Int))], .dead, .fix 52 [.d (di .i64 (2 : Int)), .d (di .i64 (3 : Int))], .dead, .fix 52 [.d (di .i64 (0 : Int)), .d (di .i64 (1 : Int))]]) (fun g744 => (p_HCoord_k28 g431 (iter (p_HCoord_l9 a1 F) n433)) g744 = some o427) rfl ?_ ?_
          · refine AC.block ?_
            refine AC.loopP (V := (Int × Int × (List Int))) (p_HCoord_l29 g431) o742 [1, 2, 3, 7, 8] [10, 11] 18 (fun g747 => [(10, .d (di .i64 g747.1)), (11, .d (di .i64 g747.2.1))]) (fun g747 => [.fix 25 [.d (.v (.slice none 0 0))], .fix 4 [.d (dbool false)], .dead, .fix 41 [.d (di .i64 a1)], .fix 41 [.d (di .i64 a1)], .fix 41 [.d (di .i64 a1)], .frame fr425 [(6, .ptr 0 0), (7, .ptr 1 0)], .fix 41 [.d (di .i64 a1)], .fix 3 (List.map sS0 g747.2.2), .dead, .fix 41 [.d (di .i64 a1)], .dead, .fix 52 [.d (di .i64 (0 : Int)), .d (di .i64 (1 : Int))], .fix 52 [.d (di .i64 (2 : Int)), .d (di .i64 (3 : Int))], .dead, .fix 52 [.d (di .i64 (2 : Int)), .d (di .i64 (3 : Int))], .dead, .fix 52 [.d (di .i64 (0 : Int)), .d (di .i64 (1 : Int))]]) F ((0 : Int), (m4 g431.1), ((((g431.2.2.set ((2 : Int)).toNat (bits .xor .i64 x714 (m1 g431.2.1))).set ((3 : Int)).toNat (bits .xor .i64 x719 (m1 g431.2.1))).set ((0 : Int)).toNat (bits .xor .i64 x729 (m1 g431.2.1))).set ((1 : Int)).toNat (bits .xor .i64 x734 (m1 g431.2.1)))) l743 rfl rfl (LeL.refl _) rfl (okU_mk rfl (okU_cons rfl (okU_cons rfl (okU_cons rfl (okU_cons rfl (okU_cons rfl (okU_cons rfl (okU_cons rfl (okU_cons rfl (okU_cons (okU_fixl (fun _ => rfl)) (okU_cons rfl (okU_cons rfl (okU_cons rfl (okU_cons rfl (okU_cons rfl (okU_cons rfl (okU_cons rfl (okU_cons rfl (okU_cons rfl okU_nil))))))))))))))))))) ?_
            intro n749 g747 h2
            unfold p_HCoord_l29 at h2
            refine AC.seq ?_
            refine AC.seq ?_
            refine AC.region ?_
            refine AO.op rfl (AOp.move rfl rfl (ltb rfl) rfl ?_)
            refine AO.op rfl (AOp.move rfl rfl (ltb rfl) rfl ?_)
            refine AO.op rfl (AOp.ilss rfl rfl (ltb rfl) rfl rfl ?_)
            refine AO.nil ?_
            change AC _ _ _ _
            refine AC.cond rfl (fun q750 => ?_) (fun q750 => ?_)
            · replace h2 := cT h2 q750
              refine AC.skip ?_
              change AC _ _ _ _
              refine AC.seq ?_
              refine AC.block ?_
              refine AC.seq ?_
              refine AC.draw 13 mixed (by kernel_rfl) ?_
              refine AD.op [1] rfl (by kernel_rfl) rfl rfl (fun _ _ h => AOp.move rfl rfl (ltb rfl) rfl h) ?_
              refine AD.op [10] rfl (by kernel_rfl) rfl rfl (fun _ _ h => AOp.move rfl rfl (ltb rfl) rfl h) ?_
              obtain ⟨q751, h2⟩ := need_elim h2
              refine AD.op [42, 43] rfl (by kernel_rfl) rfl rfl (fun _ _ h => AOp.indexSl rfl rfl (ltb rfl) rfl rfl el25 q751.1 q751.2 h) ?_
              obtain ⟨x752, q753, h2⟩ := idx_elim h2
              refine AD.op [44] rfl (by kernel_rfl) rfl rfl (fun _ _ h => AOp.load1 rfl rfl (ltb rfl) rfl agg3 rfl (atO q753.2) h) ?_
              refine AD.op [11] rfl (by kernel_rfl) rfl rfl (fun _ _ h => AOp.move rfl rfl (ltb rfl) rfl h) ?_
              refine AD.op [11] rfl (by kernel_rfl) rfl rfl (fun _ _ h => AOp.move rfl rfl (ltb rfl) rfl h) ?_
              obtain ⟨q754, h2⟩ := need_elim h2
              refine AD.op [47] rfl (by kernel_rfl) rfl rfl (fun _ _ h => AOp.ishr (n := 1) rfl rfl (ltb rfl) rfl rfl (by decide) q754 rfl h) ?_
              refine AD.op [46, 48] rfl (by kernel_rfl) rfl rfl (fun _ _ h => AOp.ibits (by simp) rfl rfl (ltb rfl) rfl rfl rfl h) ?_
              refine AD.op [49] rfl (by kernel_rfl) rfl rfl (fun _ _ h => AOp.ibits (by simp) rfl rfl (ltb rfl) rfl rfl rfl h) ?_
              refine AD.op [8] rfl (by kernel_rfl) rfl rfl (fun _ _ h => AOp.move rfl rfl (ltb rfl) rfl h) ?_
              obtain ⟨q755, h2⟩ := need_elim h2
              refine AD.op [50, 51] rfl (by kernel_rfl) rfl rfl (fun _ _ h => AOp.ishl' rfl rfl (ltb rfl) rfl rfl q755 h) ?_
              obtain ⟨q756, h2⟩ := need_elim h2
              refine AD.op [45, 52] rfl (by kernel_rfl) rfl rfl (fun _ _ h => AOp.iadd rfl rfl (ltb rfl) rfl rfl rfl q756.1 q756.2 h) ?_
              obtain ⟨q757, h2⟩ := need_elim h2
              refine AD.op [42, 43] rfl (by kernel_rfl) rfl rfl (fun _ _ h => AOp.indexSl rfl rfl (ltb rfl) rfl rfl el25 q757.1 q757.2 h) ?_
              refine AD.done ?_
              obtain ⟨q758, h2⟩ := need_elim h2
              refine AO.op rfl (AOp.storeL (f := fun z => SV.d (keS0 z)) (l := g747.2.2) (i := (g747.1).toNat) (v := (x752 + (IntKind.i64.wrap ((bits .and .i64 (bits .xor .i64 g747.2.1 (g747.2.1 / 2 ^ 1)) (1 : Int)) * 2 ^ (g431.2.1).toNat)))) rfl rfl rfl rfl size3 rfl rfl rfl q758 ?_)
              refine AO.nil ?_
              change AC _ _ _ _
              refine AC.region ?_
              refine AO.op rfl (AOp.move rfl rfl (ltb rfl) rfl ?_)
              obtain ⟨q759, h2⟩ := need_elim h2
              refine AO.op rfl (AOp.ishr (n := 1) rfl rfl (ltb rfl) rfl rfl (by decide) q759 rfl ?_)
              refine AO.op rfl (AOp.assign rfl rfl (ltb rfl) rfl ?_)
              refine AO.nil ?_
              change AC _ _ _ _
              refine AC.region ?_
              refine AO.op rfl (AOp.move rfl rfl (ltb rfl) rfl ?_)
              obtain ⟨q760, h2⟩ := need_elim h2
              refine AO.op rfl (AOp.iadd rfl rfl (ltb rfl) rfl rfl rfl q760.1 q760.2 ?_)
              refine AO.op rfl (AOp.assign rfl rfl (ltb rfl) rfl ?_)
              refine AO.nil ?_
              exact ⟨((g747.1 + (1 : Int)), (g747.2.1 / 2 ^ 1), (g747.2.2.set (g747.1).toNat (x752 + (IntKind.i64.wrap ((bits .and .i64 (bits .xor .i64 g747.2.1 (g747.2.1 / 2 ^ 1)) (1 : Int)) * 2 ^ (g431.2.1).toNat))))), _, rfl, (LeL.refl _), rfl, (okU_mk rfl (okU_cons rfl (okU_cons rfl (okU_cons rfl (okU_cons rfl (okU_cons rfl (okU_cons rfl (okU_cons rfl (okU_cons rfl (okU_cons (okU_fixl (fun _ => rfl)) (okU_cons rfl (okU_cons rfl (okU_cons rfl (okU_cons rfl (okU_cons rfl (okU_cons rfl (okU_cons rfl (okU_cons rfl (okU_cons rfl okU_nil))))))))))))))))))), h2⟩
            replace h2 := cF h2 q750
            refine AC.exit ?_
            obtain rfl := Option.some.inj h2
            exact ⟨g747.2.2, _, rfl, (LeL.refl _), rfl, (okU_mk rfl (okU_cons rfl (okU_cons rfl (okU_cons rfl (okU_cons rfl (okU_cons rfl (okU_cons rfl (okU_cons rfl (okU_cons rfl (okU_cons (okU_fixl (fun _ => rfl)) (okU_cons rfl (okU_cons rfl (okU_cons rfl (okU_cons rfl (okU_cons rfl (okU_cons rfl (okU_cons rfl (okU_cons rfl (okU_cons rfl okU_nil))))))))))))))))))), aftL h1⟩
          intro g744 h1
          unfold p_HCoord_k28 at h1
          change AC _ _ _ _
          refine AC.region ?_
          refine AO.op rfl (AOp.move rfl rfl (ltb rfl) rfl ?_)
          refine AO.op rfl (AOp.move rfl rfl (ltb rfl) rfl ?_)
          obtain ⟨q745, h1⟩ := need_elim h1
          refine AO.op rfl (AOp.ishr' rfl rfl (ltb rfl) rfl rfl q745.1 q745.2 ?_)
          refine AO.op rfl (AOp.assign rfl rfl (ltb rfl) rfl ?_)
          refine AO.nil ?_
          change AC _ _ _ _
          refine AC.region ?_
          refine AO.op rfl (AOp.move rfl rfl (ltb rfl) rfl ?_)
          obtain ⟨q746, h1⟩ := need_elim h1
          refine AO.op rfl (AOp.iadd rfl rfl (ltb rfl) rfl rfl rfl q746.1 q746.2 ?_)
          refine AO.op rfl (AOp.assign rfl rfl (ltb rfl) rfl ?_)
          refine AO.nil ?_
          exact ⟨((g431.1 / 2 ^ ((4 : Int)).toNat), (g431.2.1 + (1 : Int)), g744), _, rfl, (LeL.refl _), rfl, (okU_mk rfl (okU_cons rfl (okU_cons rfl (okU_cons rfl (okU_cons rfl (okU_cons rfl (okU_cons rfl (okU_cons rfl (okU_cons rfl (okU_cons (okU_fixl (fun _ => rfl)) okU_nil)))))))))), h1⟩
        replace h1 := cF h1 q710
        refine AC.joinP (V := Bool) [1, 2, 3, 10] [71] 11 (fun g761 => [(71, .d (dbool g761))]) (fun g761 => [.fix 25 [.d (.v (.slice none 0 0))], .fix 4 [.d (dbool false)], .dead, .fix 41 [.d (di .i64 a1)], .fix 41 [.d (di .i64 a1)], .fix 41 [.d (di .i64 a1)], .frame fr425 [(6, .ptr 0 0), (7, .ptr 1 0)], .fix 41 [.d (di .i64 a1)], .fix 3 (List.map sS0 g431.2.2), .frame fr437 [(1, .sl 8 1 0 (((4 : Int)).toNat) (((4 : Int)).toNat)), (2, .d (di .i64 g431.1)), (3, .ptr 7 0), (7, .d (di .i64 (4 : Int))), (8, .d (di .i64 g431.2.1)), (9, .d (di .i64 (m4 g431.1)))], .fix 41 [.d (di .i64 a1)]]) (fun g761 => (p_HCoord_k30 F g431 (iter (p_HCoord_l9 a1 F) n433)) g761 = some o427) rfl ?_ ?_
        · refine AC.seq ?_
          refine AC.region ?_
          refine AO.op rfl (AOp.ieql rfl rfl (ltb rfl) rfl rfl ?_)
          refine AO.op rfl (AOp.assign rfl rfl (ltb rfl) rfl ?_)
          refine AO.nil ?_
          change AC _ _ _ _
          refine AC.cond rfl (fun q883 => ?_) (fun q883 => ?_)
          · replace h1 := cT h1 q883
            refine AC.skip ?_
            exact ⟨(decide ((m4 g431.1) = (13 : Int))), _, rfl, (LeL.refl _), rfl, (okU_mk rfl (okU_cons rfl (okU_cons rfl (okU_cons rfl (okU_cons rfl (okU_cons rfl (okU_cons rfl (okU_cons rfl (okU_cons rfl (okU_cons (okU_fixl (fun _ => rfl)) (okU_cons rfl (okU_cons rfl okU_nil)))))))))))), h1⟩
          replace h1 := cF h1 q883
          refine AC.region ?_
          refine AO.op rfl (AOp.ieql rfl rfl (ltb rfl) rfl rfl ?_)
          refine AO.op rfl (AOp.assign rfl rfl (ltb rfl) rfl ?_)
          refine AO.nil ?_
          exact ⟨(decide ((m4 g431.1) = (14 : Int))), _, rfl, (LeL.refl _), rfl, (okU_mk rfl (okU_cons rfl (okU_cons rfl (okU_cons rfl (okU_cons rfl (okU_cons rfl (okU_cons rfl (okU_cons rfl (okU_cons rfl (okU_cons (okU_fixl (fun _ => rfl)) (okU_cons rfl (okU_cons rfl okU_nil)))))))))))), h1⟩
        intro g761 h1
        unfold p_HCoord_k30 at h1
        refine AC.cond rfl (fun q762 => ?_) (fun q762 => ?_)
        · replace h1 := cT h1 q762
          refine AC.region ?_
          refine AO.op rfl (AOp.move rfl rfl (ltb rfl) rfl ?_)
          refine AO.op rfl (AOp.move rfl rfl (ltb rfl) rfl ?_)
          refine AO.op rfl (AOp.move rfl rfl (ltb rfl) rfl ?_)
          refine AO.op rfl (AOp.build rfl rfl (ltb rfl) zero52 rfl places52 rfl rfl ?_)
          refine AO.op rfl (AOp.build rfl rfl (ltb rfl) zero52 rfl places52 rfl rfl ?_)
          refine AO.op rfl (AOp.inl [] (by kernel_rfl) Tryd.func30 rfl Tryd.ntmps30 rfl rfl (ltb rfl) rfl (leb rfl) rfl ?_)
          intro fr763
          refine AC.seq ?_
          refine AC.region ?_
          refine AO.op rfl (AOp.box rfl rfl (ltb rfl) rfl rfl ?_)
          refine AO.op rfl (AOp.box rfl rfl (ltb rfl) rfl rfl ?_)
          refine AO.nil ?_
          change AC _ _ _ _
          refine AC.seq ?_
          refine AC.region ?_
          refine AO.op rfl (AOp.move rfl rfl (ltb rfl) rfl ?_)
          refine AO.nil ?_
          change AC _ _ _ _
          refine AC.condT rfl rfl ?_
          refine AC.seq ?_
          refine AC.region ?_
          refine AO.op rfl (AOp.loadN rfl rfl (ltb rfl) rfl agg52 size52 rfl (leb rfl) rfl ?_)
          refine AO.op rfl (AOp.makeIfc rfl rfl (ltb rfl) rfl conc52 ?_)
          refine AO.op rfl (AOp.move rfl rfl (ltb rfl) rfl ?_)
          refine AO.op rfl (AOp.move rfl rfl (ltb rfl) rfl ?_)
          refine AO.op rfl (AOp.inlE [1, 2, 8] (EntersS.meth (by kernel_rfl) rfl rfl rfl meth52_pub_orthodrome_pub_gonum_spatial_curve_do rfl rfl) Tryd.func27 rfl Tryd.ntmps27 rfl (ltb rfl) (leb rfl) rfl ?_)
          intro fr764
          refine AC.seq ?_
          refine AC.region ?_
          refine AO.op rfl (AOp.box rfl rfl (ltb rfl) rfl rfl ?_)
          refine AO.nil ?_
          change AC _ _ _ _
          obtain ⟨q765, h1⟩ := need_elim h1
          obtain ⟨x766, q767, h1⟩ := idx_elim h1
          obtain ⟨q768, h1⟩ := need_elim h1
          obtain ⟨q769, h1⟩ := need_elim h1
          obtain ⟨q770, h1⟩ := need_elim h1
          obtain ⟨x771, q772, h1⟩ := idx_elim h1
          obtain ⟨q773, h1⟩ := need_elim h1
          obtain ⟨q774, h1⟩ := need_elim h1
          obtain ⟨q775, h1⟩ := need_elim h1
          obtain ⟨q776, h1⟩ := need_elim h1
          refine AC.drawS [0, 1, 2, 3, 4, 5, 6, 7, 8, 9, 10, 11, 12, 13, 14, 15, 16, 17, 18, 19, 20, 21, 22, 23, 24, 25] [25] [26, 27] (fun L => [.fix 25 [.d (.v (.slice none 0 0))], .fix 4 [.d (dbool false)], .dead, .fix 41 [.d (di .i64 a1)], .fix 41 [.d (di .i64 a1)], .fix 41 [.d (di .i64 a1)], .frame fr425 [(6, .ptr 0 0), (7, .ptr 1 0)], .fix 41 [.d (di .i64 a1)], bif L 25 then .fix 3 (List.map sS0 (g431.2.2.set ((1 : Int)).toNat (bits .xor .i64 x766 (m1 g431.2.1)))) else .fix 3 (List.map sS0 g431.2.2), .frame fr437 [(1, .sl 8 1 0 (((4 : Int)).toNat) (((4 : Int)).toNat)), (2, .d (di .i64 g431.1)), (3, .ptr 7 0), (7, .d (di .i64 (4 : Int))), (8, .d (di .i64 g431.2.1)), (9, .d (di .i64 (m4 g431.1)))], .fix 41 [.d (di .i64 a1)], .frame fr763 [], .fix 52 [.d (di .i64 (0 : Int)), .d (di .i64 (3 : Int))], .fix 52 [.d (di .i64 (1 : Int)), .d (di .i64 (3 : Int))], .frame fr764 [(1, .d (di .i64 g431.2.1)), (2, .sl 8 1 0 (((4 : Int)).toNat) (((4 : Int)).toNat)), (8, .ptr 12 0)], .fix 52 [.d (di .i64 (1 : Int)), .d (di .i64 (3 : Int))]]) [(25, (fun _ => true))] mixed (by kernel_rfl) (fun L L' h => by simp only [h 25 (by decide)]) rfl ?_
          refine AS.op [2] [] [25] [] rfl rfl rfl (by kernel_rfl) (by kernel_rfl) rfl rfl (fun _ _ _ h => AOp.move rfl rfl (ltb rfl) rfl h) (by kernel_rfl) ?_
          refine AS.op [3] [] [25] [] rfl rfl rfl (by kernel_rfl) (by kernel_rfl) rfl rfl (fun _ _ _ h => AOp.fieldAddr rfl rfl (ltb rfl) rfl fo52_0 h) (by kernel_rfl) ?_
          refine AS.op [7] [] [25] [] rfl rfl rfl (by kernel_rfl) (by kernel_rfl) rfl rfl (fun _ _ _ h => AOp.load1 rfl rfl (ltb rfl) rfl agg3 rfl rfl h) (by kernel_rfl) ?_
          refine AS.op [2] [] [] [25] rfl rfl rfl (by kernel_rfl) (by kernel_rfl) rfl rfl (fun _ _ _ h => AOp.move rfl rfl (ltb rfl) rfl h) (by kernel_rfl) ?_
          refine AS.op [3] [] [] [25] rfl rfl rfl (by kernel_rfl) (by kernel_rfl) rfl rfl (fun _ _ _ h => AOp.fieldAddr rfl rfl (ltb rfl) rfl fo52_1 h) (by kernel_rfl) ?_
          refine AS.op [10] [] [] [25] rfl rfl rfl (by kernel_rfl) (by kernel_rfl) rfl rfl (fun _ _ _ h => AOp.load1 rfl rfl (ltb rfl) rfl agg3 rfl rfl h) (by kernel_rfl) ?_
          refine AS.op [2] [] [25] [] rfl rfl rfl (by kernel_rfl) (by kernel_rfl) rfl rfl (fun _ _ _ h => AOp.move rfl rfl (ltb rfl) rfl h) (by kernel_rfl) ?_
          refine AS.op [3] [] [25] [] rfl rfl rfl (by kernel_rfl) (by kernel_rfl) rfl rfl (fun _ _ _ h => AOp.fieldAddr rfl rfl (ltb rfl) rfl fo52_1 h) (by kernel_rfl) ?_
          refine AS.op [13] [] [25] [] rfl rfl rfl (by kernel_rfl) (by kernel_rfl) rfl rfl (fun _ _ _ h => AOp.load1 rfl rfl (ltb rfl) rfl agg3 rfl rfl h) (by kernel_rfl) ?_
          refine AS.op [12, 14] [] [25] [] rfl rfl rfl (by kernel_rfl) (by kernel_rfl) rfl rfl (fun _ _ _ h => AOp.indexSl rfl rfl (ltb rfl) rfl rfl el25 q765.1 q765.2 h) (by kernel_rfl) ?_
          refine AS.op [15] [] [25] [] rfl rfl rfl (by kernel_rfl) (by kernel_rfl) rfl rfl (fun _ _ _ h => AOp.load1 rfl rfl (ltb rfl) rfl agg3 rfl (atO q767.2) h) (by kernel_rfl) ?_
          refine AS.op [1] [] [25] [] rfl rfl rfl (by kernel_rfl) (by kernel_rfl) rfl rfl (fun _ _ _ h => AOp.move rfl rfl (ltb rfl) rfl h) (by kernel_rfl) ?_
          refine AS.op [17] [] [25] [] rfl rfl rfl (by kernel_rfl) (by kernel_rfl) rfl rfl (fun _ _ _ h => AOp.ishl' rfl rfl (ltb rfl) rfl rfl q768 h) (by kernel_rfl) ?_
          refine AS.op [18] [] [25] [] rfl rfl rfl (by kernel_rfl) (by kernel_rfl) rfl rfl (fun _ _ _ h => AOp.isub rfl rfl (ltb rfl) rfl rfl rfl q769.1 q769.2 h) (by kernel_rfl) ?_
          refine AS.op [16, 19] [] [25] [] rfl rfl rfl (by kernel_rfl) (by kernel_rfl) rfl rfl (fun _ _ _ h => AOp.ibits (by simp) rfl rfl (ltb rfl) rfl rfl rfl h) (by kernel_rfl) ?_
          refine AS.op [2] [] [25] [] rfl rfl rfl (by kernel_rfl) (by kernel_rfl) rfl rfl (fun _ _ _ h => AOp.move rfl rfl (ltb rfl) rfl h) (by kernel_rfl) ?_
          refine AS.op [3] [] [25] [] rfl rfl rfl (by kernel_rfl) (by kernel_rfl) rfl rfl (fun _ _ _ h => AOp.fieldAddr rfl rfl (ltb rfl) rfl fo52_0 h) (by kernel_rfl) ?_
          refine AS.op [22] [] [25] [] rfl rfl rfl (by kernel_rfl) (by kernel_rfl) rfl rfl (fun _ _ _ h => AOp.load1 rfl rfl (ltb rfl) rfl agg3 rfl rfl h) (by kernel_rfl) ?_
          refine AS.op [21, 23] [] [25] [] rfl rfl rfl (by kernel_rfl) (by kernel_rfl) rfl rfl (fun _ _ _ h => AOp.indexSl rfl rfl (ltb rfl) rfl rfl el25 q770.1 q770.2 h) (by kernel_rfl) ?_
          refine AS.op [24] [] [25] [] rfl rfl rfl (by kernel_rfl) (by kernel_rfl) rfl rfl (fun _ _ _ h => AOp.load1 rfl rfl (ltb rfl) rfl agg3 rfl (atO q772.2) h) (by kernel_rfl) ?_
          refine AS.op [1] [] [] [25] rfl rfl rfl (by kernel_rfl) (by kernel_rfl) rfl rfl (fun _ _ _ h => AOp.move rfl rfl (ltb rfl) rfl h) (by kernel_rfl) ?_
          refine AS.op [26] [] [] [25] rfl rfl rfl (by kernel_rfl) (by kernel_rfl) rfl rfl (fun _ _ _ h => AOp.ishl' rfl rfl (ltb rfl) rfl rfl q773 h) (by kernel_rfl) ?_
          refine AS.op [27] [] [] [25] rfl rfl rfl (by kernel_rfl) (by kernel_rfl) rfl rfl (fun _ _ _ h => AOp.isub rfl rfl (ltb rfl) rfl rfl rfl q774.1 q774.2 h) (by kernel_rfl) ?_
          refine AS.op [25, 28] [] [] [25] rfl rfl rfl (by kernel_rfl) (by kernel_rfl) rfl rfl (fun _ _ _ h => AOp.ibits (by simp) rfl rfl (ltb rfl) rfl rfl rfl h) (by kernel_rfl) ?_
          refine AS.op [6, 8] [] [25] [] rfl rfl rfl (by kernel_rfl) (by kernel_rfl) rfl rfl (fun _ _ _ h => AOp.indexSl rfl rfl (ltb rfl) rfl rfl el25 q775.1 q775.2 h) (by kernel_rfl) ?_
          refine AS.mid0 [20, 30] [] [25] [] rfl rfl rfl rfl (by kernel_rfl) (by kernel_rfl) rfl rfl (fun _ _ _ h => AOp.storeL (f := fun z => SV.d (keS0 z)) (l := g431.2.2) (i := ((1 : Int)).toNat) (v := (bits .xor .i64 x766 (m1 g431.2.1))) rfl rfl rfl rfl size3 rfl rfl rfl q776 (AO.dropT h)) (by kernel_rfl) rfl ?_
          refine AS.done ?_
          refine AO.objs (obs' := [.fix 25 [.d (.v (.slice none 0 0))], .fix 4 [.d (dbool false)], .dead, .fix 41 [.d (di .i64 a1)], .fix 41 [.d (di .i64 a1)], .fix 41 [.d (di .i64 a1)], .frame fr425 [(6, .ptr 0 0), (7, .ptr 1 0)], .fix 41 [.d (di .i64 a1)], .fix 3 (List.map sS0 (g431.2.2.set ((1 : Int)).toNat (bits .xor .i64 x766 (m1 g431.2.1)))), .frame fr437 [(1, .sl 8 1 0 (((4 : Int)).toNat) (((4 : Int)).toNat)), (2, .d (di .i64 g431.1)), (3, .ptr 7 0), (7, .d (di .i64 (4 : Int))), (8, .d (di .i64 g431.2.1)), (9, .d (di .i64 (m4 g431.1)))], .fix 41 [.d (di .i64 a1)], .frame fr763 [], .fix 52 [.d (di .i64 (0 : Int)), .d (di .i64 (3 : Int))], .fix 52 [.d (di .i64 (1 : Int)), .d (di .i64 (3 : Int))], .frame fr764 [(1, .d (di .i64 g431.2.1)), (2, .sl 8 1 0 (((4 : Int)).toNat) (((4 : Int)).toNat)), (8, .ptr 12 0)], .fix 52 [.d (di .i64 (1 : Int)), .d (di .i64 (3 : Int))]]) rfl ?_
          obtain ⟨q777, h1⟩ := need_elim h1
          refine AO.op rfl (AOp.indexSl rfl rfl (ltb rfl) rfl rfl el25 q777.1 q777.2 ?_)
          obtain ⟨q778, h1⟩ := need_elim h1
          refine AO.op rfl (AOp.storeL (f := fun z => SV.d (keS0 z)) (l := (g431.2.2.set ((1 : Int)).toNat (bits .xor .i64 x766 (m1 g431.2.1)))) (i := ((3 : Int)).toNat) (v := (bits .xor .i64 x771 (m1 g431.2.1))) rfl rfl rfl rfl size3 rfl rfl rfl q778 ?_)
          refine AO.nil ?_
          refine inlend (ob' := [.fix 25 [.d (.v (.slice none 0 0))], .fix 4 [.d (dbool false)], .dead, .fix 41 [.d (di .i64 a1)], .fix 41 [.d (di .i64 a1)], .fix 41 [.d (di .i64 a1)], .frame fr425 [(6, .ptr 0 0), (7, .ptr 1 0)], .fix 41 [.d (di .i64 a1)], .fix 3 (List.map sS0 ((g431.2.2.set ((1 : Int)).toNat (bits .xor .i64 x766 (m1 g431.2.1))).set ((3 : Int)).toNat (bits .xor .i64 x771 (m1 g431.2.1)))), .frame fr437 [(1, .sl 8 1 0 (((4 : Int)).toNat) (((4 : Int)).toNat)), (2, .d (di .i64 g431.1)), (3, .ptr 7 0), (7, .d (di .i64 (4 : Int))), (8, .d (di .i64 g431.2.1)), (9, .d (di .i64 (m4 g431.1)))], .fix 41 [.d (di .i64 a1)], .frame fr763 [], .fix 52 [.d (di .i64 (0 : Int)), .d (di .i64 (3 : Int))], .fix 52 [.d (di .i64 (1 : Int)), .d (di .i64 (3 : Int))], .dead, .fix 52 [.d (di .i64 (1 : Int)), .d (di .i64 (3 : Int))]]) (e' := [(1, .d (di .i64 g431.2.1)), (2, .sl 8 1 0 (((4 : Int)).toNat) (((4 : Int)).toNat)), (8, .ptr 12 0)]) (r := .tu []) rfl rfl rfl ?_
          change AO _ _ _ _ _
          refine AO.nil ?_
          change AC _ _ _ _
          refine AC.region ?_
          refine AO.op rfl (AOp.loadN rfl rfl (ltb rfl) rfl agg52 size52 rfl (leb rfl) rfl ?_)
          refine AO.op rfl (AOp.makeIfc rfl rfl (ltb rfl) rfl conc52 ?_)
          refine AO.op rfl (AOp.move rfl rfl (ltb rfl) rfl ?_)
          refine AO.op rfl (AOp.move rfl rfl (ltb rfl) rfl ?_)
          refine AO.op rfl (AOp.inlE [] (EntersS.meth (by kernel_rfl) rfl rfl rfl meth52_pub_orthodrome_pub_gonum_spatial_curve_do rfl rfl) Tryd.func27 rfl Tryd.ntmps27 rfl (ltb rfl) (leb rfl) rfl ?_)
          intro fr779
          refine AC.seq ?_
          refine AC.region ?_
          refine AO.op rfl (AOp.box rfl rfl (ltb rfl) rfl rfl ?_)
          refine AO.nil ?_
          change AC _ _ _ _
          obtain ⟨q780, h1⟩ := need_elim h1
          obtain ⟨x781, q782, h1⟩ := idx_elim h1
          obtain ⟨q783, h1⟩ := need_elim h1
          obtain ⟨q784, h1⟩ := need_elim h1
          obtain ⟨q785, h1⟩ := need_elim h1
          obtain ⟨x786, q787, h1⟩ := idx_elim h1
          obtain ⟨q788, h1⟩ := need_elim h1
          obtain ⟨q789, h1⟩ := need_elim h1
          obtain ⟨q790, h1⟩ := need_elim h1
          obtain ⟨q791, h1⟩ := need_elim h1
          refine AC.drawS [0, 1, 2, 3, 4, 5, 6, 7, 8, 9, 10, 11, 12, 13, 14, 15, 16, 17, 18, 19, 20, 21, 22, 23, 24, 25] [25] [26, 27] (fun L => [.fix 25 [.d (.v (.slice none 0 0))], .fix 4 [.d (dbool false)], .dead, .fix 41 [.d (di .i64 a1)], .fix 41 [.d (di .i64 a1)], .fix 41 [.d (di .i64 a1)], .frame fr425 [(6, .ptr 0 0), (7, .ptr 1 0)], .fix 41 [.d (di .i64 a1)], bif L 25 then .fix 3 (List.map sS0 (((g431.2.2.set ((1 : Int)).toNat (bits .xor .i64 x766 (m1 g431.2.1))).set ((3 : Int)).toNat (bits .xor .i64 x771 (m1 g431.2.1))).set ((0 : Int)).toNat (bits .xor .i64 x781 (m1 g431.2.1)))) else .fix 3 (List.map sS0 ((g431.2.2.set ((1 : Int)).toNat (bits .xor .i64 x766 (m1 g431.2.1))).set ((3 : Int)).toNat (bits .xor .i64 x771 (m1 g431.2.1)))), .frame fr437 [(1, .sl 8 1 0 (((4 : Int)).toNat) (((4 : Int)).toNat)), (2, .d (di .i64 g431.1)), (3, .ptr 7 0), (7, .d (di .i64 (4 : Int))), (8, .d (di .i64 g431.2.1)), (9, .d (di .i64 (m4 g431.1)))], .fix 41 [.d (di .i64 a1)], .frame fr763 [], .fix 52 [.d (di .i64 (0 : Int)), .d (di .i64 (3 : Int))], .fix 52 [.d (di .i64 (1 : Int)), .d (di .i64 (3 : Int))], .dead, .fix 52 [.d (di .i64 (1 : Int)), .d (di .i64 (3 : Int))], .frame fr779 [], .fix 52 [.d (di .i64 (0 : Int)), .d (di .i64 (3 : Int))]]) [(25, (fun _ => true))] mixed (by kernel_rfl) (fun L L' h => by simp only [h 25 (by decide)]) rfl ?_
          refine AS.op [2] [] [25] [] rfl rfl rfl (by kernel_rfl) (by kernel_rfl) rfl rfl (fun _ _ _ h => AOp.move rfl rfl (ltb rfl) rfl h) (by kernel_rfl) ?_
          refine AS.op [3] [] [25] [] rfl rfl rfl (by kernel_rfl) (by kernel_rfl) rfl rfl (fun _ _ _ h => AOp.fieldAddr rfl rfl (ltb rfl) rfl fo52_0 h) (by kernel_rfl) ?_
          refine AS.op [7] [] [25] [] rfl rfl rfl (by kernel_rfl) (by kernel_rfl) rfl rfl (fun _ _ _ h => AOp.load1 rfl rfl (ltb rfl) rfl agg3 rfl rfl h) (by kernel_rfl) ?_
          refine AS.op [2] [] [] [25] rfl rfl rfl (by kernel_rfl) (by kernel_rfl) rfl rfl (fun _ _ _ h => AOp.move rfl rfl (ltb rfl) rfl h) (by kernel_rfl) ?_
          refine AS.op [3] [] [] [25] rfl rfl rfl (by kernel_rfl) (by kernel_rfl) rfl rfl (fun _ _ _ h => AOp.fieldAddr rfl rfl (ltb rfl) rfl fo52_1 h) (by kernel_rfl) ?_
          refine AS.op [10] [] [] [25] rfl rfl rfl (by kernel_rfl) (by kernel_rfl) rfl rfl (fun _ _ _ h => AOp.load1 rfl rfl (ltb rfl) rfl agg3 rfl rfl h) (by kernel_rfl) ?_
          refine AS.op [2] [] [25] [] rfl rfl rfl (by kernel_rfl) (by kernel_rfl) rfl rfl (fun _ _ _ h => AOp.move rfl rfl (ltb rfl) rfl h) (by kernel_rfl) ?_
          refine AS.op [3] [] [25] [] rfl rfl rfl (by kernel_rfl) (by kernel_rfl) rfl rfl (fun _ _ _ h => AOp.fieldAddr rfl rfl (ltb rfl) rfl fo52_1 h) (by kernel_rfl) ?_
          refine AS.op [13] [] [25] [] rfl rfl rfl (by kernel_rfl) (by kernel_rfl) rfl rfl (fun _ _ _ h => AOp.load1 rfl rfl (ltb rfl) rfl agg3 rfl rfl h) (by kernel_rfl) ?_
          refine AS.op [12, 14] [] [25] [] rfl rfl rfl (by kernel_rfl) (by kernel_rfl) rfl rfl (fun _ _ _ h => AOp.indexSl rfl rfl (ltb rfl) rfl rfl el25 q780.1 q780.2 h) (by kernel_rfl) ?_
          refine AS.op [15] [] [25] [] rfl rfl rfl (by kernel_rfl) (by kernel_rfl) rfl rfl (fun _ _ _ h => AOp.load1 rfl rfl (ltb rfl) rfl agg3 rfl (atO q782.2) h) (by kernel_rfl) ?_
          refine AS.op [1] [] [25] [] rfl rfl rfl (by kernel_rfl) (by kernel_rfl) rfl rfl (fun _ _ _ h => AOp.move rfl rfl (ltb rfl) rfl h) (by kernel_rfl) ?_
          refine AS.op [17] [] [25] [] rfl rfl rfl (by kernel_rfl) (by kernel_rfl) rfl rfl (fun _ _ _ h => AOp.ishl' rfl rfl (ltb rfl) rfl rfl q783 h) (by kernel_rfl) ?_
          refine AS.op [18] [] [25] [] rfl rfl rfl (by kernel_rfl) (by kernel_rfl) rfl rfl (fun _ _ _ h => AOp.isub rfl rfl (ltb rfl) rfl rfl rfl q784.1 q784.2 h) (by kernel_rfl) ?_
          refine AS.op [16, 19] [] [25] [] rfl rfl rfl (by kernel_rfl) (by kernel_rfl) rfl rfl (fun _ _ _ h => AOp.ibits (by simp) rfl rfl (ltb rfl) rfl rfl rfl h) (by kernel_rfl) ?_
          refine AS.op [2] [] [25] [] rfl rfl rfl (by kernel_rfl) (by kernel_rfl) rfl rfl (fun _ _ _ h => AOp.move rfl rfl (ltb rfl) rfl h) (by kernel_rfl) ?_
          refine AS.op [3] [] [25] [] rfl rfl rfl (by kernel_rfl) (by kernel_rfl) rfl rfl (fun _ _ _ h => AOp.fieldAddr rfl rfl (ltb rfl) rfl fo52_0 h) (by kernel_rfl) ?_
          refine AS.op [22] [] [25] [] rfl rfl rfl (by kernel_rfl) (by kernel_rfl) rfl rfl (fun _ _ _ h => AOp.load1 rfl rfl (ltb rfl) rfl agg3 rfl rfl h) (by kernel_rfl) ?_
          refine AS.op [21, 23] [] [25] [] rfl rfl rfl (by kernel_rfl) (by kernel_rfl) rfl rfl (fun _ _ _ h => AOp.indexSl rfl rfl (ltb rfl) rfl rfl el25 q785.1 q785.2 h) (by kernel_rfl) ?_
          refine AS.op [24] [] [25] [] rfl rfl rfl (by kernel_rfl) (by kernel_rfl) rfl rfl (fun _ _ _ h => AOp.load1 rfl rfl (ltb rfl) rfl agg3 rfl (atO q787.2) h) (by kernel_rfl) ?_
          refine AS.op [1] [] [] [25] rfl rfl rfl (by kernel_rfl) (by kernel_rfl) rfl rfl (fun _ _ _ h => AOp.move rfl rfl (ltb rfl) rfl h) (by kernel_rfl) ?_
          refine AS.op [26] [] [] [25] rfl rfl rfl (by kernel_rfl) (by kernel_rfl) rfl rfl (fun _ _ _ h => AOp.ishl' rfl rfl (ltb rfl) rfl rfl q788 h) (by kernel_rfl) ?_
          refine AS.op [27] [] [] [25] rfl rfl rfl (by kernel_rfl) (by kernel_rfl) rfl rfl (fun _ _ _ h => AOp.isub rfl rfl (ltb rfl) rfl rfl rfl q789.1 q789.2 h) (by kernel_rfl) ?_
          refine AS.op [25, 28] [] [] [25] rfl rfl rfl (by kernel_rfl) (by kernel_rfl) rfl rfl (fun _ _ _ h => AOp.ibits (by simp) rfl rfl (ltb rfl) rfl rfl rfl h) (by kernel_rfl) ?_
          refine AS.op [6, 8] [] [25] [] rfl rfl rfl (by kernel_rfl) (by kernel_rfl) rfl rfl (fun _ _ _ h => AOp.indexSl rfl rfl (ltb rfl) rfl rfl el25 q790.1 q790.2 h) (by kernel_rfl) ?_
          refine AS.mid0 [20, 30] [] [25] [] rfl rfl rfl rfl (by kernel_rfl) (by kernel_rfl) rfl rfl (fun _ _ _ h => AOp.storeL (f := fun z => SV.d (keS0 z)) (l := ((g431.2.2.set ((1 : Int)).toNat (bits .xor .i64 x766 (m1 g431.2.1))).set ((3 : Int)).toNat (bits .xor .i64 x771 (m1 g431.2.1)))) (i := ((0 : Int)).toNat) (v := (bits .xor .i64 x781 (m1 g431.2.1))) rfl rfl rfl rfl size3 rfl rfl rfl q791 (AO.dropT h)) (by kernel_rfl) rfl ?_
          refine AS.done ?_
          refine AO.objs (obs' := [.fix 25 [.d (.v (.slice none 0 0))], .fix 4 [.d (dbool false)], .dead, .fix 41 [.d (di .i64 a1)], .fix 41 [.d (di .i64 a1)], .fix 41 [.d (di .i64 a1)], .frame fr425 [(6, .ptr 0 0), (7, .ptr 1 0)], .fix 41 [.d (di .i64 a1)], .fix 3 (List.map sS0 (((g431.2.2.set ((1 : Int)).toNat (bits .xor .i64 x766 (m1 g431.2.1))).set ((3 : Int)).toNat (bits .xor .i64 x771 (m1 g431.2.1))).set ((0 : Int)).toNat (bits .xor .i64 x781 (m1 g431.2.1)))), .frame fr437 [(1, .sl 8 1 0 (((4 : Int)).toNat) (((4 : Int)).toNat)), (2, .d (di .i64 g431.1)), (3, .ptr 7 0), (7, .d (di .i64 (4 : Int))), (8, .d (di .i64 g431.2.1)), (9, .d (di .i64 (m4 g431.1)))], .fix 41 [.d (di .i64 a1)], .frame fr763 [], .fix 52 [.d (di .i64 (0 : Int)), .d (di .i64 (3 : Int))], .fix 52 [.d (di .i64 (1 : Int)), .d (di .i64 (3 : Int))], .dead, .fix 52 [.d (di .i64 (1 : Int)), .d (di .i64 (3 : Int))], .frame fr779 [], .fix 52 [.d (di .i64 (0 : Int)), .d (di .i64 (3 : Int))]]) rfl ?_
          obtain ⟨q792, h1⟩ := need_elim h1
          refine AO.op rfl (AOp.indexSl rfl rfl (ltb rfl) rfl rfl el25 q792.1 q792.2 ?_)
          obtain ⟨q793, h1⟩ := need_elim h1
          refine AO.op rfl (AOp.storeL (f := fun z => SV.d (keS0 z)) (l := (((g431.2.2.set ((1 : Int)).toNat (bits .xor .i64 x766 (m1 g431.2.1))).set ((3 : Int)).toNat (bits .xor .i64 x771 (m1 g431.2.1))).set ((0 : Int)).toNat (bits .xor .i64 x781 (m1 g431.2.1)))) (i := ((3 : Int)).toNat) (v := (bits .xor .i64 x786 (m1 g431.2.1))) rfl rfl rfl rfl size3 rfl rfl rfl q793 ?_)
          refine AO.nil ?_
          refine inlend (ob' := [.fix 25 [.d (.v (.slice none 0 0))], .fix 4 [.d (dbool false)], .dead, .fix 41 [.d (di .i64 a1)], .fix 41 [.d (di .i64 a1)], .fix 41 [.d (di .i64 a1)], .frame fr425 [(6, .ptr 0 0), (7, .ptr 1 0)], .fix 41 [.d (di .i64 a1)], .fix 3 (List.map sS0 ((((g431.2.2.set ((1 : Int)).toNat (bits .xor .i64 x766 (m1 g431.2.1))).set ((3 : Int)).toNat (bits .xor .i64 x771 (m1 g431.2.1))).set ((0 : Int)).toNat (bits .xor .i64 x781 (m1 g431.2.1))).set ((3 : Int)).toNat (bits .xor .i64 x786 (m1 g431.2.1)))), .frame fr437 [(1, .sl 8 1 0 (((4 : Int)).toNat) (((4 : Int)).toNat)), (2, .d (di .i64 g431.1)), (3, .ptr 7 0), (7, .d (di .i64 (4 : Int))), (8, .d (di .i64 g431.2.1)), (9, .d (di .i64 (m4 g431.1)))], .fix 41 [.d (di .i64 a1)], .frame fr763 [], .fix 52 [.d (di .i64 (0 : Int)), .d (di .i64 (3 : Int))], .fix 52 [.d (di .i64 (1 : Int)), .d (di .i64 (3 : Int))], .dead, .fix 52 [.d (di .i64 (1 : Int)), .d (di .i64 (3 : Int))], .dead, .fix 52 [.d (di .i64 (0 : Int)), .d (di .i64 (3 : Int))]]) (e' := []) (r := .tu []) rfl rfl rfl ?_
          change AO _ _ _ _ _
          refine AO.nil ?_
          refine inlend (ob' := [.fix 25 [.d (.v (.slice none 0 0))], .fix 4 [.d (dbool false)], .dead, .fix 41 [.d (di .i64 a1)], .fix 41 [.d (di .i64 a1)], .fix 41 [.d (di .i64 a1)], .frame fr425 [(6, .ptr 0 0), (7, .ptr 1 0)], .fix 41 [.d (di .i64 a1)], .fix 3 (List.map sS0 ((((g431.2.2.set ((1 : Int)).toNat (bits .xor .i64 x766 (m1 g431.2.1))).set ((3 : Int)).toNat (bits .xor .i64 x771 (m1 g431.2.1))).set ((0 : Int)).toNat (bits .xor .i64 x781 (m1 g431.2.1))).set ((3 : Int)).toNat (bits .xor .i64 x786 (m1 g431.2.1)))), .frame fr437 [(1, .sl 8 1 0 (((4 : Int)).toNat) (((4 : Int)).toNat)), (2, .d (di .i64 g431.1)), (3, .ptr 7 0), (7, .d (di .i64 (4 : Int))), (8, .d (di .i64 g431.2.1)), (9, .d (di .i64 (m4 g431.1)))], .fix 41 [.d (di .i64 a1)], .dead, .fix 52 [.d (di .i64 (0 : Int)), .d (di .i64 (3 : Int))], .fix 52 [.d (di .i64 (1 : Int)), .d (di .i64 (3 : Int))], .dead, .fix 52 [.d (di .i64 (1 : Int)), .d (di .i64 (3 : Int))], .dead, .fix 52 [.d (di .i64 (0 : Int)), .d (di .i64 (3 : Int))]]) (e' := []) (r := .tu []) rfl rfl rfl ?_
          change AO _ _ _ _ _
          refine AO.nil ?_
          refine inlend (ob' := [.fix 25 [.d (.v (.slice none 0 0))], .fix 4 [.d (dbool false)], .dead, .fix 41 [.d (di .i64 a1)], .fix 41 [.d (di .i64 a1)], .fix 41 [.d (di .i64 a1)], .frame fr425 [(6, .ptr 0 0), (7, .ptr 1 0)], .fix 41 [.d (di .i64 a1)], .fix 3 (List.map sS0 ((((g431.2.2.set ((1 : Int)).toNat (bits .xor .i64 x766 (m1 g431.2.1))).set ((3 : Int)).toNat (bits .xor .i64 x771 (m1 g431.2.1))).set ((0 : Int)).toNat (bits .xor .i64 x781 (m1 g431.2.1))).set ((3 : Int)).toNat (bits .xor .i64 x786 (m1 g431.2.1)))), .dead, .fix 41 [.d (di .i64 a1)], .dead, .fix 52 [.d (di .i64 (0 : Int)), .d (di .i64 (3 : Int))], .fix 52 [.d (di .i64 (1 : Int)), .d (di .i64 (3 : Int))], .dead, .fix 52 [.d (di .i64 (1 : Int)), .d (di .i64 (3 : Int))], .dead, .fix 52 [.d (di .i64 (0 : Int)), .d (di .i64 (3 : Int))]]) (e' := [(1, .sl 8 1 0 (((4 : Int)).toNat) (((4 : Int)).toNat)), (2, .d (di .i64 g431.1)), (3, .ptr 7 0), (7, .d (di .i64 (4 : Int))), (8, .d (di .i64 g431.2.1)), (9, .d (di .i64 (m4 g431.1)))]) (r := .tu []) rfl rfl rfl ?_
          change AO _ _ _ _ _
          refine AO.nil ?_
          change AC _ _ _ _
          refine AC.seq ?_
          refine AC.seq ?_
          refine AC.region ?_
          refine AO.op rfl (AOp.move rfl rfl (ltb rfl) rfl ?_)
          refine AO.op rfl (AOp.assign rfl rfl (ltb rfl) rfl ?_)
          refine AO.op rfl (AOp.assign rfl rfl (ltb rfl) rfl ?_)
          refine AO.nil ?_
          change AC _ _ _ _
          obtain ⟨o794, l795, h1⟩ := bind_elim h1
          refine AC.joinE (V := (List Int)) [1, 2, 3, 7, 8] [] 18 (fun g796 => []) (fun g796 => [.fix 25 [.d (.v (.slice none 0 0))], .fix 4 [.d (dbool false)], .dead, .fix 41 [.d (di .i64 a1)], .fix 41 [.d (di .i64 a1)], .fix 41 [.d (di .i64 a1)], .frame fr425 [(6, .ptr 0 0), (7, .ptr 1 0)], .fix 41 [.d (di .i64 a1)], .fix 3 (List.map sS0 g796), .dead, .fix 41 [.d (di .i64 a1)], .dead, .fix 52 [.d (di .i64 (0 : Int)), .d (di .i64 (3 : Int))], .fix 52 [.d (di .i64 (1 : Int)), .d (di .i64 (3 : Int))], .dead, .fix 52 [.d (di .i64 (1 : Int)), .d (di .i64 (3 : Int))], .dead, .fix 52 [.d (di .i64 (0 : Int)), .d (di .i64 (3 : Int))]]) (fun g796 => (p_HCoord_k31 g431 (iter (p_HCoord_l9 a1 F) n433)) g796 = some o427) rfl ?_ ?_
          · refine AC.block ?_
            refine AC.loopP (V := (Int × Int × (List Int))) (p_HCoord_l32 g431) o794 [1, 2, 3, 7, 8] [10, 11] 18 (fun g799 => [(10, .d (di .i64 g799.1)), (11, .d (di .i64 g799.2.1))]) (fun g799 => [.fix 25 [.d (.v (.slice none 0 0))], .fix 4 [.d (dbool false)], .dead, .fix 41 [.d (di .i64 a1)], .fix 41 [.d (di .i64 a1)], .fix 41 [.d (di .i64 a1)], .frame fr425 [(6, .ptr 0 0), (7, .ptr 1 0)], .fix 41 [.d (di .i64 a1)], .fix 3 (List.map sS0 g799.2.2), .dead, .fix 41 [.d (di .i64 a1)], .dead, .fix 52 [.d (di .i64 (0 : Int)), .d (di .i64 (3 : Int))], .fix 52 [.d (di .i64 (1 : Int)), .d (di .i64 (3 : Int))], .dead, .fix 52 [.d (di .i64 (1 : Int)), .d (di .i64 (3 : Int))], .dead, .fix 52 [.d (di .i64 (0 : Int)), .d (di .i64 (3 : Int))]]) F ((0 : Int), (m4 g431.1), ((((g431.2.2.set ((1 : Int)).toNat (bits .xor .i64 x766 (m1 g431.2.1))).set ((3 : Int)).toNat (bits .xor .i64 x771 (m1 g431.2.1))).set ((0 : Int)).toNat (bits .xor .i64 x781 (m1 g431.2.1))).set ((3 : Int)).toNat (bits .xor .i64 x786 (m1 g431.2.1)))) l795 rfl rfl (LeL.refl _) rfl (okU_mk rfl (okU_cons rfl (okU_cons rfl (okU_cons rfl (okU_cons rfl (okU_cons rfl (okU_cons rfl (okU_cons rfl (okU_cons rfl (okU_cons (okU_fixl (fun _ => rfl)) (okU_cons rfl (okU_cons rfl (okU_cons rfl (okU_cons rfl (okU_cons rfl (okU_cons rfl (okU_cons rfl (okU_cons rfl (okU_cons rfl okU_nil))))))))))))))))))) ?_
            intro n801 g799 h2
            unfold p_HCoord_l32 at h2
            refine AC.seq ?_
            refine AC.seq ?_
            refine AC.region ?_
            refine AO.op rfl (AOp.move rfl rfl (ltb rfl) rfl ?_)
            refine AO.op rfl (AOp.move rfl rfl (ltb rfl) rfl ?_)
            refine AO.op rfl (AOp.ilss rfl rfl (ltb rfl) rfl rfl ?_)
            refine AO.nil ?_
            change AC _ _ _ _
            refine AC.cond rfl (fun q802 => ?_) (fun q802 => ?_)
            · replace h2 := cT h2 q802
              refine AC.skip ?_
              change AC _ _ _ _
              refine AC.seq ?_
              refine AC.block ?_
              refine AC.seq ?_
              refine AC.draw 13 mixed (by kernel_rfl) ?_
              refine AD.op [1] rfl (by kernel_rfl) rfl rfl (fun _ _ h => AOp.move rfl rfl (ltb rfl) rfl h) ?_
              refine AD.op [10] rfl (by kernel_rfl) rfl rfl (fun _ _ h => AOp.move rfl rfl (ltb rfl) rfl h) ?_
              obtain ⟨q803, h2⟩ := need_elim h2
              refine AD.op [42, 43] rfl (by kernel_rfl) rfl rfl (fun _ _ h => AOp.indexSl rfl rfl (ltb rfl) rfl rfl el25 q803.1 q803.2 h) ?_
              obtain ⟨x804, q805, h2⟩ := idx_elim h2
              refine AD.op [44] rfl (by kernel_rfl) rfl rfl (fun _ _ h => AOp.load1 rfl rfl (ltb rfl) rfl agg3 rfl (atO q805.2) h) ?_
              refine AD.op [11] rfl (by kernel_rfl) rfl rfl (fun _ _ h => AOp.move rfl rfl (ltb rfl) rfl h) ?_
              refine AD.op [11] rfl (by kernel_rfl) rfl rfl (fun _ _ h => AOp.move rfl rfl (ltb rfl) rfl h) ?_
              obtain ⟨q806, h2⟩ := need_elim h2
              refine AD.op [47] rfl (by kernel_rfl) rfl rfl (fun _ _ h => AOp.ishr (n := 1) rfl rfl (ltb rfl) rfl rfl (by decide) q806 rfl h) ?_
              refine AD.op [46, 48] rfl (by kernel_rfl) rfl rfl (fun _ _ h => AOp.ibits (by simp) rfl rfl (ltb rfl) rfl rfl rfl h) ?_
              refine AD.op [49] rfl (by kernel_rfl) rfl rfl (fun _ _ h => AOp.ibits (by simp) rfl rfl (ltb rfl) rfl rfl rfl h) ?_
              refine AD.op [8] rfl (by kernel_rfl) rfl rfl (fun _ _ h => AOp.move rfl rfl (ltb rfl) rfl h) ?_
              obtain ⟨q807, h2⟩ := need_elim h2
              refine AD.op [50, 51] rfl (by kernel_rfl) rfl rfl (fun _ _ h => AOp.ishl' rfl rfl (ltb rfl) rfl rfl q807 h) ?_
              obtain ⟨q808, h2⟩ := need_elim h2
              refine AD.op [45, 52] rfl (by kernel_rfl) rfl rfl (fun _ _ h => AOp.iadd rfl rfl (ltb rfl) rfl rfl rfl q808.1 q808.2 h) ?_
              obtain ⟨q809, h2⟩ := need_elim h2
              refine AD.op [42, 43] rfl (by kernel_rfl) rfl rfl (fun _ _ h => AOp.indexSl rfl rfl (ltb rfl) rfl rfl el25 q809.1 q809.2 h) ?_
              refine AD.done ?_
              obtain ⟨q810, h2⟩ := need_elim h2
              refine AO.op rfl (AOp.storeL (f := fun z => SV.d (keS0 z)) (l := g799.2.2) (i := (g799.1).toNat) (v := (x804 + (IntKind.i64.wrap ((bits .and .i64 (bits .xor .i64 g799.2.1 (g799.2.1 / 2 ^ 1)) (1 : Int)) * 2 ^ (g431.2.1).toNat)))) rfl rfl rfl rfl size3 rfl rfl rfl q810 ?_)
              refine AO.nil ?_
              change AC _ _ _ _
              refine AC.region ?_
              refine AO.op rfl (AOp.move rfl rfl (ltb rfl) rfl ?_)
              obtain ⟨q811, h2⟩ := need_elim h2
              refine AO.op rfl (AOp.ishr (n := 1) rfl rfl (ltb rfl) rfl rfl (by decide) q811 rfl ?_)
              refine AO.op rfl (AOp.assign rfl rfl (ltb rfl) rfl ?_)
              refine AO.nil ?_
              change AC _ _ _ _
              refine AC.region ?_
              refine AO.op rfl (AOp.move rfl rfl (ltb rfl) rfl ?_)
              obtain ⟨q812, h2⟩ := need_elim h2
              refine AO.op rfl (AOp.iadd rfl rfl (ltb rfl) rfl rfl rfl q812.1 q812.2 ?_)
              refine AO.op rfl (AOp.assign rfl rfl (ltb rfl) rfl ?_)
              refine AO.nil ?_
              exact ⟨((g799.1 + (1 : Int)), (g799.2.1 / 2 ^ 1), (g799.2.2.set (g799.1).toNat (x804 + (IntKind.i64.wrap ((bits .and .i64 (bits .xor .i64 g799.2.1 (g799.2.1 / 2 ^ 1)) (1 : Int)) * 2 ^ (g431.2.1).toNat))))), _, rfl, (LeL.refl _), rfl, (okU_mk rfl (okU_cons rfl (okU_cons rfl (okU_cons rfl (okU_cons rfl (okU_cons rfl (okU_cons rfl (okU_cons rfl (okU_cons rfl (okU_cons (okU_fixl (fun _ => rfl)) (okU_cons rfl (okU_cons rfl (okU_cons rfl (okU_cons rfl (okU_cons rfl (okU_cons rfl (okU_cons rfl (okU_cons rfl (okU_cons rfl okU_nil))))))))))))))))))), h2⟩
            replace h2 := cF h2 q802
            refine AC.exit ?_
            obtain rfl := Option.some.inj h2
            exact ⟨g799.2.2, _, rfl, (LeL.refl _), rfl, (okU_mk rfl (okU_cons rfl (okU_cons rfl (okU_cons rfl (okU_cons rfl (okU_cons rfl (okU_cons rfl (okU_cons rfl (okU_cons rfl (okU_cons (okU_fixl (fun _ => rfl)) (okU_cons rfl (okU_cons rfl (okU_cons rfl (okU_cons rfl (okU_cons rfl (okU_cons rfl (okU_cons rfl (okU_cons rfl (okU_cons rfl okU_nil))))))))))))))))))), aftL h1⟩
          intro g796 h1
          unfold p_HCoord_k31 at h1
          change AC _ _ _ _
          refine AC.region ?_
          refine AO.op rfl (AOp.move rfl rfl (ltb rfl) rfl ?_)
          refine AO.op rfl (AOp.move rfl rfl (ltb rfl) rfl ?_)
          obtain ⟨q797, h1⟩ := need_elim h1
          refine AO.op rfl (AOp.ishr' rfl rfl (ltb rfl) rfl rfl q797.1 q797.2 ?_)
          refine AO.op rfl (AOp.assign rfl rfl (ltb rfl) rfl ?_)
          refine AO.nil ?_
          change AC _ _ _ _
          refine AC.region ?_
          refine AO.op rfl (AOp.move rfl rfl (ltb rfl) rfl ?_)
          obtain ⟨q798, h1⟩ := need_elim h1
          refine AO.op rfl (AOp.iadd rfl rfl (ltb rfl) rfl rfl rfl q798.1 q798.2 ?_)
          refine AO.op rfl (AOp.assign rfl rfl (ltb rfl) rfl ?_)
          refine AO.nil ?_
          exact ⟨((g431.1 / 2 ^ ((4 : Int)).toNat), (g431.2.1 + (1 : Int)), g796), _, rfl, (LeL.refl _), rfl, (okU_mk rfl (okU_cons rfl (okU_cons rfl (okU_cons rfl (okU_cons rfl (okU_cons rfl (okU_cons rfl (okU_cons rfl (okU_cons rfl (okU_cons (okU_fixl (fun _ => rfl)) okU_nil)))))))))), h1⟩
        replace h1 := cF h1 q762
        refine AC.seq ?_
        refine AC.region ?_
        refine AO.op rfl (AOp.ieql rfl rfl (ltb rfl) rfl rfl ?_)
        refine AO.op rfl (AOp.assign rfl rfl (ltb rfl) rfl ?_)
        refine AO.nil ?_
        change AC _ _ _ _
        refine AC.cond rfl (fun q813 => ?_) (fun q813 => ?_)
        · replace h1 := cT h1 q813
          refine AC.region ?_
          refine AO.op rfl (AOp.move rfl rfl (ltb rfl) rfl ?_)
          refine AO.op rfl (AOp.move rfl rfl (ltb rfl) rfl ?_)
          refine AO.op rfl (AOp.move rfl rfl (ltb rfl) rfl ?_)
          refine AO.op rfl (AOp.build rfl rfl (ltb rfl) zero52 rfl places52 rfl rfl ?_)
          refine AO.op rfl (AOp.build rfl rfl (ltb rfl) zero52 rfl places52 rfl rfl ?_)
          refine AO.op rfl (AOp.inl [] (by kernel_rfl) Tryd.func30 rfl Tryd.ntmps30 rfl rfl (ltb rfl) rfl (leb rfl) rfl ?_)
          intro fr814
          refine AC.seq ?_
          refine AC.region ?_
          refine AO.op rfl (AOp.box rfl rfl (ltb rfl) rfl rfl ?_)
          refine AO.op rfl (AOp.box rfl rfl (ltb rfl) rfl rfl ?_)
          refine AO.nil ?_
          change AC _ _ _ _
          refine AC.seq ?_
          refine AC.region ?_
          refine AO.op rfl (AOp.move rfl rfl (ltb rfl) rfl ?_)
          refine AO.nil ?_
          change AC _ _ _ _
          refine AC.condT rfl rfl ?_
          refine AC.seq ?_
          refine AC.region ?_
          refine AO.op rfl (AOp.loadN rfl rfl (ltb rfl) rfl agg52 size52 rfl (leb rfl) rfl ?_)
          refine AO.op rfl (AOp.makeIfc rfl rfl (ltb rfl) rfl conc52 ?_)
          refine AO.op rfl (AOp.move rfl rfl (ltb rfl) rfl ?_)
          refine AO.op rfl (AOp.move rfl rfl (ltb rfl) rfl ?_)
          refine AO.op rfl (AOp.inlE [1, 2, 8] (EntersS.meth (by kernel_rfl) rfl rfl rfl meth52_pub_orthodrome_pub_gonum_spatial_curve_do rfl rfl) Tryd.func27 rfl Tryd.ntmps27 rfl (ltb rfl) (leb rfl) rfl ?_)
          intro fr815
          refine AC.seq ?_
          refine AC.region ?_
          refine AO.op rfl (AOp.box rfl rfl (ltb rfl) rfl rfl ?_)
          refine AO.nil ?_
          change AC _ _ _ _
          obtain ⟨q816, h1⟩ := need_elim h1
          obtain ⟨x817, q818, h1⟩ := idx_elim h1
          obtain ⟨q819, h1⟩ := need_elim h1
          obtain ⟨q820, h1⟩ := need_elim h1
          obtain ⟨q821, h1⟩ := need_elim h1
          obtain ⟨x822, q823, h1⟩ := idx_elim h1
          obtain ⟨q824, h1⟩ := need_elim h1
          obtain ⟨q825, h1⟩ := need_elim h1
          obtain ⟨q826, h1⟩ := need_elim h1
          obtain ⟨q827, h1⟩ := need_elim h1
          refine AC.drawS [0, 1, 2, 3, 4, 5, 6, 7, 8, 9, 10, 11, 12, 13, 14, 15, 16, 17, 18, 19, 20, 21, 22, 23, 24, 25] [25] [26, 27] (fun L => [.fix 25 [.d (.v (.slice none 0 0))], .fix 4 [.d (dbool false)], .dead, .fix 41 [.d (di .i64 a1)], .fix 41 [.d (di .i64 a1)], .fix 41 [.d (di .i64 a1)], .frame fr425 [(6, .ptr 0 0), (7, .ptr 1 0)], .fix 41 [.d (di .i64 a1)], bif L 25 then .fix 3 (List.map sS0 (g431.2.2.set ((0 : Int)).toNat (bits .xor .i64 x817 (m1 g431.2.1)))) else .fix 3 (List.map sS0 g431.2.2), .frame fr437 [(1, .sl 8 1 0 (((4 : Int)).toNat) (((4 : Int)).toNat)), (2, .d (di .i64 g431.1)), (3, .ptr 7 0), (7, .d (di .i64 (4 : Int))), (8, .d (di .i64 g431.2.1)), (9, .d (di .i64 (m4 g431.1)))], .fix 41 [.d (di .i64 a1)], .frame fr814 [], .fix 52 [.d (di .i64 (1 : Int)), .d (di .i64 (3 : Int))], .fix 52 [.d (di .i64 (0 : Int)), .d (di .i64 (3 : Int))], .frame fr815 [(1, .d (di .i64 g431.2.1)), (2, .sl 8 1 0 (((4 : Int)).toNat) (((4 : Int)).toNat)), (8, .ptr 12 0)], .fix 52 [.d (di .i64 (0 : Int)), .d (di .i64 (3 : Int))]]) [(25, (fun _ => true))] mixed (by kernel_rfl) (fun L L' h => by simp only [h 25 (by decide)]) rfl ?_
          refine AS.op [2] [] [25] [] rfl rfl rfl (by kernel_rfl) (by kernel_rfl) rfl rfl (fun _ _ _ h => AOp.move rfl rfl (ltb rfl) rfl h) (by kernel_rfl) ?_
          refine AS.op [3] [] [25] [] rfl rfl rfl (by kernel_rfl) (by kernel_rfl) rfl rfl (fun _ _ _ h => AOp.fieldAddr rfl rfl (ltb rfl) rfl fo52_0 h) (by kernel_rfl) ?_
          refine AS.op [7] [] [25] [] rfl rfl rfl (by kernel_rfl) (by kernel_rfl) rfl rfl (fun _ _ _ h => AOp.load1 rfl rfl (ltb rfl) rfl agg3 rfl rfl h) (by kernel_rfl) ?_
          refine AS.op [2] [] [] [25] rfl rfl rfl (by kernel_rfl) (by kernel_rfl) rfl rfl (fun _ _ _ h => AOp.move rfl rfl (ltb rfl) rfl h) (by kernel_rfl) ?_
          refine AS.op [3] [] [] [25] rfl rfl rfl (by kernel_rfl) (by kernel_rfl) rfl rfl (fun _ _ _ h => AOp.fieldAddr rfl rfl (ltb rfl) rfl fo52_1 h) (by kernel_rfl) ?_
          refine AS.op [10] [] [] [25] rfl rfl rfl (by kernel_rfl) (by kernel_rfl) rfl rfl (fun _ _ _ h => AOp.load1 rfl rfl (ltb rfl) rfl agg3 rfl rfl h) (by kernel_rfl) ?_
          refine AS.op [2] [] [25] [] rfl rfl rfl (by kernel_rfl) (by kernel_rfl) rfl rfl (fun _ _ _ h => AOp.move rfl rfl (ltb rfl) rfl h) (by kernel_rfl) ?_
          refine AS.op [3] [] [25] [] rfl rfl rfl (by kernel_rfl) (by kernel_rfl) rfl rfl (fun _ _ _ h => AOp.fieldAddr rfl rfl (ltb rfl) rfl fo52_1 h) (by kernel_rfl) ?_
          refine AS.op [13] [] [25] [] rfl rfl rfl (by kernel_rfl) (by kernel_rfl) rfl rfl (fun _ _ _ h => AOp.load1 rfl rfl (ltb rfl) rfl agg3 rfl rfl h) (by kernel_rfl) ?_
          refine AS.op [12, 14] [] [25] [] rfl rfl rfl (by kernel_rfl) (by kernel_rfl) rfl rfl (fun _ _ _ h => AOp.indexSl rfl rfl (ltb rfl) rfl rfl el25 q816.1 q816.2 h) (by kernel_rfl) ?_
          refine AS.op [15] [] [25] [] rfl rfl rfl (by kernel_rfl) (by kernel_rfl) rfl rfl (fun _ _ _ h => AOp.load1 rfl rfl (ltb rfl) rfl agg3 rfl (atO q818.2) h) (by kernel_rfl) ?_
          refine AS.op [1] [] [25] [] rfl rfl rfl (by kernel_rfl) (by kernel_rfl) rfl rfl (fun _ _ _ h => AOp.move rfl rfl (ltb rfl) rfl h) (by kernel_rfl) ?_
          refine AS.op [17] [] [25] [] rfl rfl rfl (by kernel_rfl) (by kernel_rfl) rfl rfl (fun _ _ _ h => AOp.ishl' rfl rfl (ltb rfl) rfl rfl q819 h) (by kernel_rfl) ?_
          refine AS.op [18] [] [25] [] rfl rfl rfl (by kernel_rfl) (by kernel_rfl) rfl rfl (fun _ _ _ h => AOp.isub rfl rfl (ltb rfl) rfl rfl rfl q820.1 q820.2 h) (by kernel_rfl) ?_
          refine AS.op [16, 19] [] [25] [] rfl rfl rfl (by kernel_rfl) (by kernel_rfl) rfl rfl (fun _ _ _ h => AOp.ibits (by simp) rfl rfl (ltb rfl) rfl rfl rfl h) (by kernel_rfl) ?_
          refine AS.op [2] [] [25] [] rfl rfl rfl (by kernel_rfl) (by kernel_rfl) rfl rfl (fun _ _ _ h => AOp.move rfl rfl (ltb rfl) rfl h) (by kernel_rfl) ?_
          refine AS.op [3] [] [25] [] rfl rfl rfl (by kernel_rfl) (by kernel_rfl) rfl rfl (fun _ _ _ h => AOp.fieldAddr rfl rfl (ltb rfl) rfl fo52_0 h) (by kernel_rfl) ?_
          refine AS.op [22] [] [25] [] rfl rfl rfl (by kernel_rfl) (by kernel_rfl) rfl rfl (fun _ _ _ h => AOp.load1 rfl rfl (ltb rfl) rfl agg3 rfl rfl h) (by kernel_rfl) ?_
          refine AS.op [21, 23] [] [25] [] rfl rfl rfl (by kernel_rfl) (by kernel_rfl) rfl rfl (fun _ _ _ h => AOp.indexSl rfl rfl (ltb rfl) rfl rfl el25 q821.1 q821.2 h) (by kernel_rfl) ?_
          refine AS.op [24] [] [25] [] rfl rfl rfl (by kernel_rfl) (by kernel_rfl) rfl rfl (fun _ _ _ h => AOp.load1 rfl rfl (ltb rfl) rfl agg3 rfl (atO q823.2) h) (by kernel_rfl) ?_
          refine AS.op [1] [] [] [25] rfl rfl rfl (by kernel_rfl) (by kernel_rfl) rfl rfl (fun _ _ _ h => AOp.move rfl rfl (ltb rfl) rfl h) (by kernel_rfl) ?_
          refine AS.op [26] [] [] [25] rfl rfl rfl (by kernel_rfl) (by kernel_rfl) rfl rfl (fun _ _ _ h => AOp.ishl' rfl rfl (ltb rfl) rfl rfl q824 h) (by kernel_rfl) ?_
          refine AS.op [27] [] [] [25] rfl rfl rfl (by kernel_rfl) (by kernel_rfl) rfl rfl (fun _ _ _ h => AOp.isub rfl rfl (ltb rfl) rfl rfl rfl q825.1 q825.2 h) (by kernel_rfl) ?_
          refine AS.op [25, 28] [] [] [25] rfl rfl rfl (by kernel_rfl) (by kernel_rfl) rfl rfl (fun _ _ _ h => AOp.ibits (by simp) rfl rfl (ltb rfl) rfl rfl rfl h) (by kernel_rfl) ?_
          refine AS.op [6, 8] [] [25] [] rfl rfl rfl (by kernel_rfl) (by kernel_rfl) rfl rfl (fun _ _ _ h => AOp.indexSl rfl rfl (ltb rfl) rfl rfl el25 q826.1 q826.2 h) (by kernel_rfl) ?_
          refine AS.mid0 [20, 30] [] [25] [] rfl rfl rfl rfl (by kernel_rfl) (by kernel_rfl) rfl rfl (fun _ _ _ h => AOp.storeL (f := fun z => SV.d (keS0 z)) (l := g431.2.2) (i := ((0 : Int)).toNat) (v := (bits .xor .i64 x817 (m1 g431.2.1))) rfl rfl rfl rfl size3 rfl rfl rfl q827 (AO.dropT h)) (by kernel_rfl) rfl ?_
          refine AS.done ?_
          refine AO.objs (obs' := [.fix 25 [.d (.v (.slice none 0 0))], .fix 4 [.d (dbool false)], .dead, .fix 41 [.d (di .i64 a1)], .fix 41 [.d (di .i64 a1)], .fix 41 [.d (di .i64 a1)], .frame fr425 [(6, .ptr 0 0), (7, .ptr 1 0)], .fix 41 [.d (di .i64 a1)], .fix 3 (List.map sS0 (g431.2.2.set ((0 : Int)).toNat (bits .xor .i64 x817 (m1 g431.2.1)))), .frame fr437 [(1, .sl 8 1 0 (((4 : Int)).toNat) (((4 : Int)).toNat)), (2, .d (di .i64 g431.1)), (3, .ptr 7 0), (7, .d (di .i64 (4 : Int))), (8, .d (di .i64 g431.2.1)), (9, .d (di .i64 (m4 g431.1)))], .fix 41 [.d (di .i64 a1)], .frame fr814 [], .fix 52 [.d (di .i64 (1 : Int)), .d (di .i64 (3 : Int))], .fix 52 [.d (di .i64 (0 : Int)), .d (di .i64 (3 : Int))], .frame fr815 [(1, .d (di .i64 g431.2.1)), (2, .sl 8 1 0 (((4 : Int)).toNat) (((4 : Int)).toNat)), (8, .ptr 12 0)], .fix 52 [.d (di .i64 (0 : Int)), .d (di .i64 (3 : Int))]]) rfl ?_
          obtain ⟨q828, h1⟩ := need_elim h1
          refine AO.op rfl (AOp.indexSl rfl rfl (ltb rfl) rfl rfl el25 q828.1 q828.2 ?_)
          obtain ⟨q829, h1⟩ := need_elim h1
          refine AO.op rfl (AOp.storeL (f := fun z => SV.d (keS0 z)) (l := (g431.2.2.set ((0 : Int)).toNat (bits .xor .i64 x817 (m1 g431.2.1)))) (i := ((3 : Int)).toNat) (v := (bits .xor .i64 x822 (m1 g431.2.1))) rfl rfl rfl rfl size3 rfl rfl rfl q829 ?_)
          refine AO.nil ?_
          refine inlend (ob' := [.fix 25 [.d (.v (.slice none 0 0))], .fix 4 [.d (dbool false)], .dead, .fix 41 [.d (di .i64 a1)], .fix 41 [.d (di .i64 a1)], .fix 41 [.d (di .i64 a1)], .frame fr425 [(6, .ptr 0 0), (7, .ptr 1 0)], .fix 41 [.d (di .i64 a1)], .fix 3 (List.map sS0 ((g431.2.2.set ((0 : Int)).toNat (bits .xor .i64 x817 (m1 g431.2.1))).set ((3 : Int)).toNat (bits .xor .i64 x822 (m1 g431.2.1)))), .frame fr437 [(1, .sl 8 1 0 (((4 : Int)).toNat) (((4 : Int)).toNat)), (2, .d (di .i64 g431.1)), (3, .ptr 7 0), (7, .d (di .i64 (4 : Int))), (8, .d (di .i64 g431.2.1)), (9, .d (di .i64 (m4 g431.1)))], .fix 41 [.d (di .i64 a1)], .frame fr814 [], .fix 52 [.d (di .i64 (1 : Int)), .d (di .i64 (3 : Int))], .fix 52 [.d (di .i64 (0 : Int)), .d (di .i64 (3 : Int))], .dead, .fix 52 [.d (di .i64 (0 : Int)), .d (di .i64 (3 : Int))]]) (e' := [(1, .d (di .i64 g431.2.1)), (2, .sl 8 1 0 (((4 : Int)).toNat) (((4 : Int)).toNat)), (8, .ptr 12 0)]) (r := .tu []) rfl rfl rfl ?_
          change AO _ _ _ _ _
          refine AO.nil ?_
          change AC _ _ _ _
          refine AC.region ?_
          refine AO.op rfl (AOp.loadN rfl rfl (ltb rfl) rfl agg52 size52 rfl (leb rfl) rfl ?_)
          refine AO.op rfl (AOp.makeIfc rfl rfl (ltb rfl) rfl conc52 ?_)
          refine AO.op rfl (AOp.move rfl rfl (ltb rfl) rfl ?_)
          refine AO.op rfl (AOp.move rfl rfl (ltb rfl) rfl ?_)
          refine AO.op rfl (AOp.inlE [] (EntersS.meth (by kernel_rfl) rfl rfl rfl meth52_pub_orthodrome_pub_gonum_spatial_curve_do rfl rfl) Tryd.func27 rfl Tryd.ntmps27 rfl (ltb rfl) (leb rfl) rfl ?_)
          intro fr830
          refine AC.seq ?_
          refine AC.region ?_
          refine AO.op rfl (AOp.box rfl rfl (ltb rfl) rfl rfl ?_)
          refine AO.nil ?_
          change AC _ _ _ _
          obtain ⟨q831, h1⟩ := need_elim h1
          obtain ⟨x832, q833, h1⟩ := idx_elim h1
          obtain ⟨q834, h1⟩ := need_elim h1
          obtain ⟨q835, h1⟩ := need_elim h1
          obtain ⟨q836, h1⟩ := need_elim h1
          obtain ⟨x837, q838, h1⟩ := idx_elim h1
          obtain ⟨q839, h1⟩ := need_elim h1
          obtain ⟨q840, h1⟩ := need_elim h1
          obtain ⟨q841, h1⟩ := need_elim h1
          obtain ⟨q842, h1⟩ := need_elim h1
          refine AC.drawS [0, 1, 2, 3, 4, 5, 6, 7, 8, 9, 10, 11, 12, 13, 14, 15, 16, 17, 18, 19, 20, 21, 22, 23, 24, 25] [25] [26, 27] (fun L => [.fix 25 [.d (.v (.slice none 0 0))], .fix 4 [.d (dbool false)], .dead, .fix 41 [.d (di .i64 a1)], .fix 41 [.d (di .i64 a1)], .fix 41 [.d (di .i64 a1)], .frame fr425 [(6, .ptr 0 0), (7, .ptr 1 0)], .fix 41 [.d (di .i64 a1)], bif L 25 then .fix 3 (List.map sS0 (((g431.2.2.set ((0 : Int)).toNat (bits .xor .i64 x817 (m1 g431.2.1))).set ((3 : Int)).toNat (bits .xor .i64 x822 (m1 g431.2.1))).set ((1 : Int)).toNat (bits .xor .i64 x832 (m1 g431.2.1)))) else .fix 3 (List.map sS0 ((g431.2.2.set ((0 : Int)).toNat (bits .xor .i64 x817 (m1 g431.2.1))).set ((3 : Int)).toNat (bits .xor .i64 x822 (m1 g431.2.1)))), .frame fr437 [(1, .sl 8 1 0 (((4 : Int)).toNat) (((4 : Int)).toNat)), (2, .d (di .i64 g431.1)), (3, .ptr 7 0), (7, .d (di .i64 (4 : Int))), (8, .d (di .i64 g431.2.1)), (9, .d (di .i64 (m4 g431.1)))], .fix 41 [.d (di .i64 a1)], .frame fr814 [], .fix 52 [.d (di .i64 (1 : Int)), .d (di .i64 (3 : Int))], .fix 52 [.d (di .i64 (0 : Int)), .d (di .i64 (3 : Int))], .dead, .fix 52 [.d (di .i64 (0 : Int)), .d (di .i64 (3 : Int))], .frame fr830 [], .fix 52 [.d (di .i64 (1 : Int)), .d (di .i64 (3 : Int))]]) [(25, (fun _ => true))] mixed (by kernel_rfl) (fun L L' h => by simp only [h 25 (by decide)]) rfl ?_
          refine AS.op [2] [] [25] [] rfl rfl rfl (by kernel_rfl) (by kernel_rfl) rfl rfl (fun _ _ _ h => AOp.move rfl rfl (ltb rfl) rfl h) (by kernel_rfl) ?_
          refine AS.op [3] [] [25] [] rfl rfl rfl (by kernel_rfl) (by kernel_rfl) rfl rfl (fun _ _ _ h => AOp.fieldAddr rfl rfl (ltb rfl) rfl fo52_0 h) (by kernel_rfl) ?_
          refine AS.op [7] [] [25] [] rfl rfl rfl (by kernel_rfl) (by kernel_rfl) rfl rfl (fun _ _ _ h => AOp.load1 rfl rfl (ltb rfl) rfl agg3 rfl rfl h) (by kernel_rfl) ?_
          refine AS.op [2] [] [] [25] rfl rfl rfl (by kernel_rfl) (by kernel_rfl) rfl rfl (fun _ _ _ h => AOp.move rfl rfl (ltb rfl) rfl h) (by kernel_rfl) ?_
          refine AS.op [3] [] [] [25] rfl rfl rfl (by kernel_rfl) (by kernel_rfl) rfl rfl (fun _ _ _ h => AOp.fieldAddr rfl rfl (ltb rfl) rfl fo52_1 h) (by kernel_rfl) ?_
          refine AS.op [10] [] [] [25] rfl rfl rfl (by kernel_rfl) (by kernel_rfl) rfl rfl (fun _ _ _ h => AOp.load1 rfl rfl (ltb rfl) rfl agg3 rfl rfl h) (by kernel_rfl) ?_
          refine AS.op [2] [] [25] [] rfl rfl rfl (by kernel_rfl) (by kernel_rfl) rfl rfl (fun _ _ _ h => AOp.move rfl rfl (ltb rfl) rfl h) (by kernel_rfl) ?_
          refine AS.op [3] [] [25] [] rfl rfl rfl (by kernel_rfl) (by kernel_rfl) rfl rfl (fun _ _ _ h => AOp.fieldAddr rfl rfl (ltb rfl) rfl fo52_1 h) (by kernel_rfl) ?_
          refine AS.op [13] [] [25] [] rfl rfl rfl (by kernel_rfl) (by kernel_rfl) rfl rfl (fun _ _ _ h => AOp.load1 rfl rfl (ltb rfl) rfl agg3 rfl rfl h) (by kernel_rfl) ?_
          refine AS.op [12, 14] [] [25] [] rfl rfl rfl (by kernel_rfl) (by kernel_rfl) rfl rfl (fun _ _ _ h => AOp.indexSl rfl rfl (ltb rfl) rfl rfl el25 q831.1 q831.2 h) (by kernel_rfl) ?_
          refine AS.op [15] [] [25] [] rfl rfl rfl (by kernel_rfl) (by kernel_rfl) rfl rfl (fun _ _ _ h => AOp.load1 rfl rfl (ltb rfl) rfl agg3 rfl (atO q833.2) h) (by kernel_rfl) ?_
          refine AS.op [1] [] [25] [] rfl rfl rfl (by kernel_rfl) (by kernel_rfl) rfl rfl (fun _ _ _ h => AOp.move rfl rfl (ltb rfl) rfl h) (by kernel_rfl) ?_
          refine AS.op [17] [] [25] [] rfl rfl rfl (by kernel_rfl) (by kernel_rfl) rfl rfl (fun _ _ _ h => AOp.ishl' rfl rfl (ltb rfl) rfl rfl q834 h) (by kernel_rfl) ?_
          refine AS.op [18] [] [25] [] rfl rfl rfl (by kernel_rfl) (by kernel_rfl) rfl rfl (fun _ _ _ h => AOp.isub rfl rfl (ltb rfl) rfl rfl rfl q835.1 q835.2 h) (by kernel_rfl) ?_
          refine AS.op [16, 19] [] [25] [] rfl rfl rfl (by kernel_rfl) (by kernel_rfl) rfl rfl (fun _ _ _ h => AOp.ibits (by simp) rfl rfl (ltb rfl) rfl rfl rfl h) (by kernel_rfl) ?_
          refine AS.op [2] [] [25] [] rfl rfl rfl (by kernel_rfl) (by kernel_rfl) rfl rfl (fun _ _ _ h => AOp.move rfl rfl (ltb rfl) rfl h) (by kernel_rfl) ?_
          refine AS.op [3] [] [25] [] rfl rfl rfl (by kernel_rfl) (by kernel_rfl) rfl rfl (fun _ _ _ h => AOp.fieldAddr rfl rfl (ltb rfl) rfl fo52_0 h) (by kernel_rfl) ?_
          refine AS.op [22] [] [25] [] rfl rfl rfl (by kernel_rfl) (by kernel_rfl) rfl rfl (fun _ _ _ h => AOp.load1 rfl rfl (ltb rfl) rfl agg3 rfl rfl h) (by kernel_rfl) ?_
          refine AS.op [21, 23] [] [25] [] rfl rfl rfl (by kernel_rfl) (by kernel_rfl) rfl rfl (fun _ _ _ h => AOp.indexSl rfl rfl (ltb rfl) rfl rfl el25 q836.1 q836.2 h) (by kernel_rfl) ?_
          refine AS.op [24] [] [25] [] rfl rfl rfl (by kernel_rfl) (by kernel_rfl) rfl rfl (fun _ _ _ h => AOp.load1 rfl rfl (ltb rfl) rfl agg3 rfl (atO q838.2) h) (by kernel_rfl) ?_
          refine AS.op [1] [] [] [25] rfl rfl rfl (by kernel_rfl) (by kernel_rfl) rfl rfl (fun _ _ _ h => AOp.move rfl rfl (ltb rfl) rfl h) (by kernel_rfl) ?_
          refine AS.op [26] [] [] [25] rfl rfl rfl (by kernel_rfl) (by kernel_rfl) rfl rfl (fun _ _ _ h => AOp.ishl' rfl rfl (ltb rfl) rfl rfl q839 h) (by kernel_rfl) ?_
          refine AS.op [27] [] [] [25] rfl rfl rfl (by kernel_rfl) (by kernel_rfl) rfl rfl (fun _ _ _ h => AOp.isub rfl rfl (ltb rfl) rfl rfl rfl q840.1 q840.2 h) (by kernel_rfl) ?_
          refine AS.op [25, 28] [] [] [25] rfl rfl rfl (by kernel_rfl) (by kernel_rfl) rfl rfl (fun _ _ _ h => AOp.ibits (by simp) rfl rfl (ltb rfl) rfl rfl rfl h) (by kernel_rfl) ?_
          refine AS.op [6, 8] [] [25] [] rfl rfl rfl (by kernel_rfl) (by kernel_rfl) rfl rfl (fun _ _ _ h => AOp.indexSl rfl rfl (ltb rfl) rfl rfl el25 q841.1 q841.2 h) (by kernel_rfl) ?_
          refine AS.mid0 [20, 30] [] [25] [] rfl rfl rfl rfl (by kernel_rfl) (by kernel_rfl) rfl rfl (fun _ _ _ h => AOp.storeL (f := fun z => SV.d (keS0 z)) (l := ((g431.2.2.set ((0 : Int)).toNat (bits .xor .i64 x817 (m1 g431.2.1))).set ((3 : Int)).toNat (bits .xor .i64 x822 (m1 g431.2.1)))) (i := ((1 : Int)).toNat) (v := (bits .xor .i64 x832 (m1 g431.2.1))) rfl rfl rfl rfl size3 rfl rfl rfl q842 (AO.dropT h)) (by kernel_rfl) rfl ?_
          refine AS.done ?_
          refine AO.objs (obs' := [.fix 25 [.d (.v (.slice none 0 0))], .fix 4 [.d (dbool false)], .dead, .fix 41 [.d (di .i64 a1)], .fix 41 [.d (di .i64 a1)], .fix 41 [.d (di .i64 a1)], .frame fr425 [(6, .ptr 0 0), (7, .ptr 1 0)], .fix 41 [.d (di .i64 a1)], .fix 3 (List.map sS0 (((g431.2.2.set ((0 : Int)).toNat (bits .xor .i64 x817 (m1 g431.2.1))).set ((3 : Int)).toNat (bits .xor .i64 x822 (m1 g431.2.1))).set ((1 : Int)).toNat (bits .xor .i64 x832 (m1 g431.2.1)))), .frame fr437 [(1, .sl 8 1 0 (((4 : Int)).toNat) (((4 : Int)).toNat)), (2, .d (di .i64 g431.1)), (3, .ptr 7 0), (7, .d (di .i64 (4 : Int))), (8, .d (di .i64 g431.2.1)), (9, .d (di .i64 (m4 g431.1)))], .fix 41 [.d (di .i64 a1)], .frame fr814 [], .fix 52 [.d (di .i64 (1 : Int)), .d (di .i64 (3 : Int))], .fix 52 [.d (di .i64 (0 : Int)), .d (di .i64 (3 : Int))], .dead, .fix 52 [.d (di .i64 (0 : Int)), .d (di .i64 (3 : Int))], .frame fr830 [], .fix 52 [.d (di .i64 (1 : Int)), .d (di .i64 (3 : Int))]]) rfl ?_
          obtain ⟨q843, h1⟩ := need_elim h1
          refine AO.op rfl (AOp.indexSl rfl rfl (ltb rfl) rfl rfl el25 q843.1 q843.2 ?_)
          obtain ⟨q844, h1⟩ := need_elim h1
          refine AO.op rfl (AOp.storeL (f := fun z => SV.d (keS0 z)) (l := (((g431.2.2.set ((0 : Int)).toNat (bits .xor .i64 x817 (m1 g431.2.1))).set ((3 : Int)).toNat (bits .xor .i64 x822 (m1 g431.2.1))).set ((1 : Int)).toNat (bits .xor .i64 x832 (m1 g431.2.1)))) (i := ((3 : Int)).toNat) (v := (bits .xor .i64 x837 (m1 g431.2.1))) rfl rfl rfl rfl size3 rfl rfl rfl q844 ?_)
          refine AO.nil ?_
          refine inlend (ob' := [.fix 25 [.d (.v (.slice none 0 0))], .fix 4 [.d (dbool false)], .dead, .fix 41 [.d (di .i64 a1)], .fix 41 [.d (di .i64 a1)], .fix 41 [.d (di .i64 a1)], .frame fr425 [(6, .ptr 0 0), (7, .ptr 1 0)], .fix 41 [.d (di .i64 a1)], .fix 3 (List.map sS0 ((((g431.2.2.set ((0 : Int)).toNat (bits .xor .i64 x817 (m1 g431.2.1))).set ((3 : Int)).toNat (bits .xor .i64 x822 (m1 g431.2.1))).set ((1 : Int)).toNat (bits .xor .i64 x832 (m1 g431.2.1))).set ((3 : Int)).toNat (bits .xor .i64 x837 (m1 g431.2.1)))), .frame fr437 [(1, .sl 8 1 0 (((4 : Int)).toNat) (((4 : Int)).toNat)), (2, .d (di .i64 g431.1)), (3, .ptr 7 0), (7, .d (di .i64 (4 : Int))), (8, .d (di .i64 g431.2.1)), (9, .d (di .i64 (m4 g431.1)))], .fix 41 [.d (di .i64 a1)], .frame fr814 [], .fix 52 [.d (di .i64 (1 : Int)), .d (di .i64 (3 : Int))], .fix 52 [.d (di .i64 (0 : Int)), .d (di .i64 (3 : Int))], .dead, .fix 52 [.d (di .i64 (0 : Int)), .d (di .i64 (3 : Int))], .dead, .fix 52 [.d (di .i64 (1 : Int)), .d (di .i64 (3 : Int))]]) (e' := []) (r := .tu []) rfl rfl rfl ?_
          change AO _ _ _ _ _
          refine AO.nil ?_
          refine inlend (ob' := [.fix 25 [.d (.v (.slice none 0 0))], .fix 4 [.d (dbool false)], .dead, .fix 41 [.d (di .i64 a1)], .fix 41 [.d (di .i64 a1)], .fix 41 [.d (di .i64 a1)], .frame fr425 [(6, .ptr 0 0), (7, .ptr 1 0)], .fix 41 [.d (di .i64 a1)], .fix 3 (List.map sS0 ((((g431.2.2.set ((0 : Int)).toNat (bits .xor .i64 x817 (m1 g431.2.1))).set ((3 : Int)).toNat (bits .xor .i64 x822 (m1 g431.2.1))).set ((1 : Int)).toNat (bits .xor .i64 x832 (m1 g431.2.1))).set ((3 : Int)).toNat (bits .xor .i64 x837 (m1 g431.2.1)))), .frame fr437 [(1, .sl 8 1 0 (((4 : Int)).toNat) (((4 : Int)).toNat)), (2, .d (di .i64 g431.1)), (3, .ptr 7 0), (7, .d (di .i64 (4 : Int))), (8, .d (di .i64 g431.2.1)), (9, .d (di .i64 (m4 g431.1)))], .fix 41 [.d (di .i64 a1)], .dead, .fix 52 [.d (di .i64 (1 : Int)), .d (di .i64 (3 : Int))], .fix 52 [.d (di .i64 (0 : Int)), .d (di .i64 (3 : Int))], .dead, .fix 52 [.d (di .i64 (0 : Int)), .d (di .i64 (3 : Int))], .dead, .fix 52 [.d (di .i64 (1 : Int)), .d (di .i64 (3 : Int))]]) (e' := []) (r := .tu []) rfl rfl rfl ?_
          change AO _ _ _ _ _
          refine AO.nil ?_
          refine inlend (ob' := [.fix 25 [.d (.v (.slice none 0 0))], .fix 4 [.d (dbool false)], .dead, .fix 41 [.d (di .i64 a1)], .fix 41 [.d (di .i64 a1)], .fix 41 [.d (di .i64 a1)], .frame fr425 [(6, .ptr 0 0), (7, .ptr 1 0)], .fix 41 [.d (di .i64 a1)], .fix 3 (List.map sS0 ((((g431.2.2.set ((0 : Int)).toNat (bits .xor .i64 x817 (m1 g431.2.1))).set ((3 : Int)).toNat (bits .xor .i64 x822 (m1 g431.2.1))).set ((1 : Int)).toNat (bits .xor .i64 x832 (m1 g431.2.1))).set ((3 : Int)).toNat (bits .xor .i64 x837 (m1 g431.2.1)))), .dead, .fix 41 [.d (di .i64 a1)], .dead, .fix 52 [.d (di .i64 (1 : Int)), .d (di .i64 (3 : Int))], .fix 52 [.d (di .i64 (0 : Int)), .d (di .i64 (3 : Int))], .dead, .fix 52 [.d (di .i64 (0 : Int)), .d (di .i64 (3 : Int))], .dead, .fix 52 [.d (di .i64 (1 : Int)), .d (di .i64 (3 : Int))]]) (e' := [(1, .sl 8 1 0 (((4 : Int)).toNat) (((4 : Int)).toNat)), (2, .d (di .i64 g431.1)), (3, .ptr 7 0), (7, .d (di .i64 (4 : Int))), (8, .d (di .i64 g431.2.1)), (9, .d (di .i64 (m4 g431.1)))]) (r := .tu []) rfl rfl rfl ?_
          change AO _ _ _ _ _
          refine AO.nil ?_
          change AC _ _ _ _
          refine AC.seq ?_
          refine AC.seq ?_
          refine AC.region ?_
          refine AO.op rfl (AOp.move rfl rfl (ltb rfl) rfl ?_)
          refine AO.op rfl (AOp.assign rfl rfl (ltb rfl) rfl ?_)
          refine AO.op rfl (AOp.assign rfl rfl (ltb rfl) rfl ?_)
          refine AO.nil ?_
          change AC _ _ _ _
          obtain ⟨o845, l846, h1⟩ := bind_elim h1
          refine AC.joinE (V := (List Int)) [1, 2, 3, 7, 8] [] 18 (fun g847 => []) (fun g847 => [.fix 25 [.d (.v (.slice none 0 0))], .fix 4 [.d (dbool false)], .dead, .fix 41 [.d (di .i64 a1)], .fix 41 [.d (di .i64 a1)], .fix 41 [.d (di .i64 a1)], .frame fr425 [(6, .ptr 0 0), (7, .ptr 1 0)], .fix 41 [.d (di .i64 a1)], .fix 3 (List.map sS0 g847), .dead, .fix 41 [.d (di .i64 a1)], .dead, .fix 52 [.d (di .i64 (1 : Int)), .d (di .i64 (3 : Int))], .fix 52 [.d (di .i64 (0 : Int)), .d (di .i64 (3 : Int))], .dead, .fix 52 [.d (di .i64 (0 : Int)), .d (di .i64 (3 : Int))], .dead, .fix 52 [.d (di .i64 (1 : Int)), .d (di .i64 (3 : Int))]]) (fun g847 => (p_HCoord_k33 g431 (iter (p_HCoord_l9 a1 F) n433)) g847 = some o427) rfl ?_ ?_
          · refine AC.block ?_
            refine AC.loopP (V := (Int × Int × (List Int))) (p_HCoord_l34 g431) o845 [1, 2, 3, 7, 8] [10, 11] 18 (fun g850 => [(10, .d (di .i64 g850.1)), (11, .d (di .i64 g850.2.1))]) (fun g850 => [.fix 25 [.d (.v (.slice none 0 0))], .fix 4 [.d (dbool false)], .dead, .fix 41 [.d (di .i64 a1)], .fix 41 [.d (di .i64 a1)], .fix 41 [.d (di .i64 a1)], .frame fr425 [(6, .ptr 0 0), (7, .ptr 1 0)], .fix 41 [.d (di .i64 a1)], .fix 3 (List.map sS0 g850.2.2), .dead, .fix 41 [.d (di .i64 a1)], .dead, .fix 52 [.d (di .i64 (1 : Int)), .d (di .i64 (3 : Int))], .fix 52 [.d (di .i64 (0 : Int)), .d (di .i64 (3 : Int))], .dead, .fix 52 [.d (di .i64 (0 : Int)), .d (di .i64 (3 : Int))], .dead, .fix 52 [.d (di .i64 (1 : Int)), .d (di .i64 (3 : Int))]]) F ((0 : Int), (m4 g431.1), ((((g431.2.2.set ((0 : Int)).toNat (bits .xor .i64 x817 (m1 g431.2.1))).set ((3 : Int)).toNat (bits .xor .i64 x822 (m1 g431.2.1))).set ((1 : Int)).toNat (bits .xor .i64 x832 (m1 g431.2.1))).set ((3 : Int)).toNat (bits .xor .i64 x837 (m1 g431.2.1)))) l846 rfl rfl (LeL.refl _) rfl (okU_mk rfl (okU_cons rfl (okU_cons rfl (okU_cons rfl (okU_cons rfl (okU_cons rfl (okU_cons rfl (okU_cons rfl (okU_cons rfl (okU_cons (okU_fixl (fun _ => rfl)) (okU_cons rfl (okU_cons rfl (okU_cons rfl (okU_cons rfl (okU_cons rfl (okU_cons rfl (okU_cons rfl (okU_cons rfl (okU_cons rfl okU_nil))))))))))))))))))) ?_
            intro n852 g850 h2
            unfold p_HCoord_l34 at h2
            refine AC.seq ?_
            refine AC.seq ?_
            refine AC.region ?_
            refine AO.op rfl (AOp.move rfl rfl (ltb rfl) rfl ?_)
            refine AO.op rfl (AOp.move rfl rfl (ltb rfl) rfl ?_)
            refine AO.op rfl (AOp.ilss rfl rfl (ltb rfl) rfl rfl ?_)
            refine AO.nil ?_
            change AC _ _ _ _
            refine AC.cond rfl (fun q853 => ?_) (fun q853 => ?_)
            · replace h2 := cT h2 q853
              refine AC.skip ?_
              change AC _ _ _ _
              refine AC.seq ?_
              refine AC.block ?_
              refine AC.seq ?_
              refine AC.draw 13 mixed (by kernel_rfl) ?_
              refine AD.op [1] rfl (by kernel_rfl) rfl rfl (fun _ _ h => AOp.move rfl rfl (ltb rfl) rfl h) ?_
              refine AD.op [10] rfl (by kernel_rfl) rfl rfl (fun _ _ h => AOp.move rfl rfl (ltb rfl) rfl h) ?_
              obtain ⟨q854, h2⟩ := need_elim h2
              refine AD.op [42, 43] rfl (by kernel_rfl) rfl rfl (fun _ _ h => AOp.indexSl rfl rfl (ltb rfl) rfl rfl el25 q854.1 q854.2 h) ?_
              obtain ⟨x855, q856, h2⟩ := idx_elim h2
              refine AD.op [44] rfl (by kernel_rfl) rfl rfl (fun _ _ h => AOp.load1 rfl rfl (ltb rfl) rfl agg3 rfl (atO q856.2) h) ?_
              refine AD.op [11] rfl (by kernel_rfl) rfl rfl (fun _ _ h => AOp.move rfl rfl (ltb rfl) rfl h) ?_
              refine AD.op [11] rfl (by kernel_rfl) rfl rfl (fun _ _ h => AOp.move rfl rfl (ltb rfl) rfl h) ?_
              obtain ⟨q857, h2⟩ := need_elim h2
              refine AD.op [47] rfl (by kernel_rfl) rfl rfl (fun _ _ h => AOp.ishr (n := 1) rfl rfl (ltb rfl) rfl rfl (by decide) q857 rfl h) ?_
              refine AD.op [46, 48] rfl (by kernel_rfl) rfl rfl (fun _ _ h => AOp.ibits (by simp) rfl rfl (ltb rfl) rfl rfl rfl h) ?_
              refine AD.op [49] rfl (by kernel_rfl) rfl rfl (fun _ _ h => AOp.ibits (by simp) rfl rfl (ltb rfl) rfl rfl rfl h) ?_
              refine AD.op [8] rfl (by kernel_rfl) rfl rfl (fun _ _ h => AOp.move rfl rfl (ltb rfl) rfl h) ?_
              obtain ⟨q858, h2⟩ := need_elim h2
              refine AD.op [50, 51] rfl (by kernel_rfl) rfl rfl (fun _ _ h => AOp.ishl' rfl rfl (ltb rfl) rfl rfl q858 h) ?_
              obtain ⟨q859, h2⟩ := need_elim h2
              refine AD.op [45, 52] rfl (by kernel_rfl) rfl rfl (fun _ _ h => AOp.iadd rfl rfl (ltb rfl) rfl rfl rfl q859.1 q859.2 h) ?_
              obtain ⟨q860, h2⟩ := need_elim h2
              refine AD.op [42, 43] rfl (by kernel_rfl) rfl rfl (fun _ _ h => AOp.indexSl rfl rfl (ltb rfl) rfl rfl el25 q860.1 q860.2 h) ?_
              refine AD.done ?_
              obtain ⟨q861, h2⟩ := need_elim h2
              refine AO.op rfl (AOp.storeL (f := fun z => SV.d (keS0 z)) (l := g850.2.2) (i := (g850.1).toNat) (v := (x855 + (IntKind.i64.wrap ((bits .and .i64 (bits .xor .i64 g850.2.1 (g850.2.1 / 2 ^ 1)) (1 : Int)) * 2 ^ (g431.2.1).toNat)))) rfl rfl rfl rfl size3 rfl rfl rfl q861 ?_)
              refine AO.nil ?_
              change AC _ _ _ _
              refine AC.region ?_
              refine AO.op rfl (AOp.move rfl rfl (ltb rfl) rfl ?_)
              obtain ⟨q862, h2⟩ := need_elim h2
              refine AO.op rfl (AOp.ishr (n := 1) rfl rfl (ltb rfl) rfl rfl (by decide) q862 rfl ?_)
              refine AO.op rfl (AOp.assign rfl rfl (ltb rfl) rfl ?_)
              refine AO.nil ?_
              change AC _ _ _ _
              refine AC.region ?_
              refine AO.op rfl (AOp.move rfl rfl (ltb rfl) rfl ?_)
              obtain ⟨q863, h2⟩ := need_elim h2
              refine AO.op rfl (AOp.iadd rfl rfl (ltb rfl) rfl rfl rfl q863.1 q863.2 ?_)
              refine AO.op rfl (AOp.assign rfl rfl (ltb rfl) rfl ?_)
              refine AO.nil ?_
              exact ⟨((g850.1 + (1 : Int)), (g850.2.1 / 2 ^ 1), (g850.2.2.set (g850.1).toNat (x855 + (IntKind.i64.wrap ((bits .and .i64 (bits .xor .i64 g850.2.1 (g850.2.1 / 2 ^ 1)) (1 : Int)) * 2 ^ (g431.2.1).toNat))))), _, rfl, (LeL.refl _), rfl, (okU_mk rfl (okU_cons rfl (okU_cons rfl (okU_cons rfl (okU_cons rfl (okU_cons rfl (okU_cons rfl (okU_cons rfl (okU_cons rfl (okU_cons (okU_fixl (fun _ => rfl)) (okU_cons rfl (okU_cons rfl (okU_cons rfl (okU_cons rfl (okU_cons rfl (okU_cons rfl (okU_cons rfl (okU_cons rfl (okU_cons rfl okU_nil))))))))))))))))))), h2⟩
            replace h2 := cF h2 q853
            refine AC.exit ?_
            obtain rfl := Option.some.inj h2
            exact ⟨g850.2.2, _, rfl, (LeL.refl _), rfl, (okU_mk rfl (okU_cons rfl (okU_cons rfl (okU_cons rfl (okU_cons rfl (okU_cons rfl (okU_cons rfl (okU_cons rfl (okU_cons rfl (okU_cons (okU_fixl (fun _ => rfl)) (okU_cons rfl (okU_cons rfl (okU_cons rfl (okU_cons rfl (okU_cons rfl (okU_cons rfl (okU_cons rfl (okU_cons rfl (okU_cons rfl okU_nil))))))))))))))))))), aftL h1⟩
          intro g847 h1
          unfold p_HCoord_k33 at h1
          change AC _ _ _ _
          refine AC.region ?_
          refine AO.op rfl (AOp.move rfl rfl (ltb rfl) rfl ?_)
          refine AO.op rfl (AOp.move rfl rfl (ltb rfl) rfl ?_)
          obtain ⟨q848, h1⟩ := need_elim h1
          refine AO.op rfl (AOp.ishr' rfl rfl (ltb rfl) rfl rfl q848.1 q848.2 ?_)
          refine AO.op rfl (AOp.assign rfl rfl (ltb rfl) rfl ?_)
          refine AO.nil ?_
          change AC _ _ _ _
          refine AC.region ?_
          refine AO.op rfl (AOp.move rfl rfl (ltb rfl) rfl ?_)
          obtain ⟨q849, h1⟩ := need_elim h1
          refine AO.op rfl (AOp.iadd rfl rfl (ltb rfl) rfl rfl rfl q849.1 q849.2 ?_)
          refine AO.op rfl (AOp.assign rfl rfl (ltb rfl) rfl ?_)
          refine AO.nil ?_
          exact ⟨((g431.1 / 2 ^ ((4 : Int)).toNat), (g431.2.1 + (1 : Int)), g847), _, rfl, (LeL.refl _), rfl, (okU_mk rfl (okU_cons rfl (okU_cons rfl (okU_cons rfl (okU_cons rfl (okU_cons rfl (okU_cons rfl (okU_cons rfl (okU_cons rfl (okU_cons (okU_fixl (fun _ => rfl)) okU_nil)))))))))), h1⟩
        replace h1 := cF h1 q813
        refine AC.skip ?_
        refine inlend (ob' := [.fix 25 [.d (.v (.slice none 0 0))], .fix 4 [.d (dbool false)], .dead, .fix 41 [.d (di .i64 a1)], .fix 41 [.d (di .i64 a1)], .fix 41 [.d (di .i64 a1)], .frame fr425 [(6, .ptr 0 0), (7, .ptr 1 0)], .fix 41 [.d (di .i64 a1)], .fix 3 (List.map sS0 g431.2.2), .dead, .fix 41 [.d (di .i64 a1)]]) (e' := [(1, .sl 8 1 0 (((4 : Int)).toNat) (((4 : Int)).toNat)), (2, .d (di .i64 g431.1)), (3, .ptr 7 0), (7, .d (di .i64 (4 : Int))), (8, .d (di .i64 g431.2.1)), (9, .d (di .i64 (m4 g431.1)))]) (r := .tu []) rfl rfl rfl ?_
        change AO _ _ _ _ _
        refine AO.nil ?_
        change AC _ _ _ _
        refine AC.seq ?_
        refine AC.seq ?_
        refine AC.region ?_
        refine AO.op rfl (AOp.move rfl rfl (ltb rfl) rfl ?_)
        refine AO.op rfl (AOp.assign rfl rfl (ltb rfl) rfl ?_)
        refine AO.op rfl (AOp.assign rfl rfl (ltb rfl) rfl ?_)
        refine AO.nil ?_
        change AC _ _ _ _
        obtain ⟨o864, l865, h1⟩ := bind_elim h1
        refine AC.joinE (V := (List Int)) [1, 2, 3, 7, 8] [] 11 (fun g866 => []) (fun g866 => [.fix 25 [.d (.v (.slice none 0 0))], .fix 4 [.d (dbool false)], .dead, .fix 41 [.d (di .i64 a1)], .fix 41 [.d (di .i64 a1)], .fix 41 [.d (di .i64 a1)], .frame fr425 [(6, .ptr 0 0), (7, .ptr 1 0)], .fix 41 [.d (di .i64 a1)], .fix 3 (List.map sS0 g866), .dead, .fix 41 [.d (di .i64 a1)]]) (fun g866 => (p_HCoord_k35 g431 (iter (p_HCoord_l9 a1 F) n433)) g866 = some o427) rfl ?_ ?_
        · refine AC.block ?_
          refine AC.loopP (V := (Int × Int × (List Int))) (p_HCoord_l36 g431) o864 [1, 2, 3, 7, 8] [10, 11] 11 (fun g869 => [(10, .d (di .i64 g869.1)), (11, .d (di .i64 g869.2.1))]) (fun g869 => [.fix 25 [.d (.v (.slice none 0 0))], .fix 4 [.d (dbool false)], .dead, .fix 41 [.d (di .i64 a1)], .fix 41 [.d (di .i64 a1)], .fix 41 [.d (di .i64 a1)], .frame fr425 [(6, .ptr 0 0), (7, .ptr 1 0)], .fix 41 [.d (di .i64 a1)], .fix 3 (List.map sS0 g869.2.2), .dead, .fix 41 [.d (di .i64 a1)]]) F ((0 : Int), (m4 g431.1), g431.2.2) l865 rfl rfl (LeL.refl _) rfl (okU_mk rfl (okU_cons rfl (okU_cons rfl (okU_cons rfl (okU_cons rfl (okU_cons rfl (okU_cons rfl (okU_cons rfl (okU_cons rfl (okU_cons (okU_fixl (fun _ => rfl)) (okU_cons rfl (okU_cons rfl okU_nil)))))))))))) ?_
          intro n871 g869 h2
          unfold p_HCoord_l36 at h2
          refine AC.seq ?_
          refine AC.seq ?_
          refine AC.region ?_
          refine AO.op rfl (AOp.move rfl rfl (ltb rfl) rfl ?_)
          refine AO.op rfl (AOp.move rfl rfl (ltb rfl) rfl ?_)
          refine AO.op rfl (AOp.ilss rfl rfl (ltb rfl) rfl rfl ?_)
          refine AO.nil ?_
          change AC _ _ _ _
          refine AC.cond rfl (fun q872 => ?_) (fun q872 => ?_)
          · replace h2 := cT h2 q872
            refine AC.skip ?_
            change AC _ _ _ _
            refine AC.seq ?_
            refine AC.block ?_
            refine AC.seq ?_
            refine AC.draw 13 mixed (by kernel_rfl) ?_
            refine AD.op [1] rfl (by kernel_rfl) rfl rfl (fun _ _ h => AOp.move rfl rfl (ltb rfl) rfl h) ?_
            refine AD.op [10] rfl (by kernel_rfl) rfl rfl (fun _ _ h => AOp.move rfl rfl (ltb rfl) rfl h) ?_
            obtain ⟨q873, h2⟩ := need_elim h2
            refine AD.op [42, 43] rfl (by kernel_rfl) rfl rfl (fun _ _ h => AOp.indexSl rfl rfl (ltb rfl) rfl rfl el25 q873.1 q873.2 h) ?_
            obtain ⟨x874, q875, h2⟩ := idx_elim h2
            refine AD.op [44] rfl (by kernel_rfl) rfl rfl (fun _ _ h => AOp.load1 rfl rfl (ltb rfl) rfl agg3 rfl (atO q875.2) h) ?_
            refine AD.op [11] rfl (by kernel_rfl) rfl rfl (fun _ _ h => AOp.move rfl rfl (ltb rfl) rfl h) ?_
            refine AD.op [11] rfl (by kernel_rfl) rfl rfl (fun _ _ h => AOp.move rfl rfl (ltb rfl) rfl h) ?_
            obtain ⟨q876, h2⟩ := need_elim h2
            refine AD.op [47] rfl (by kernel_rfl) rfl rfl (fun _ _ h => AOp.ishr (n := 1) rfl rfl (ltb rfl) rfl rfl (by decide) q876 rfl h) ?_
            refine AD.op [46, 48] rfl (by kernel_rfl) rfl rfl (fun _ _ h => AOp.ibits (by simp) rfl rfl (ltb rfl) rfl rfl rfl h) ?_
            refine AD.op [49] rfl (by kernel_rfl) rfl rfl (fun _ _ h => AOp.ibits (by simp) rfl rfl (ltb rfl) rfl rfl rfl h) ?_
            refine AD.op [8] rfl (by kernel_rfl) rfl rfl (fun _ _ h => AOp.move rfl rfl (ltb rfl) rfl h) ?_
            obtain ⟨q877, h2⟩ := need_elim h2
            refine AD.op [50, 51] rfl (by kernel_rfl) rfl rfl (fun _ _ h => AOp.ishl' rfl rfl (ltb rfl) rfl rfl q877 h) ?_
            obtain ⟨q878, h2⟩ := need_elim h2
            refine AD.op [45, 52] rfl (by kernel_rfl) rfl rfl (fun _ _ h => AOp.iadd rfl rfl (ltb rfl) rfl rfl rfl q878.1 q878.2 h) ?_
            obtain ⟨q879, h2⟩ := need_elim h2
            refine AD.op [42, 43] rfl (by kernel_rfl) rfl rfl (fun _ _ h => AOp.indexSl rfl rfl (ltb rfl) rfl rfl el25 q879.1 q879.2 h) ?_
            refine AD.done ?_
            obtain ⟨q880, h2⟩ := need_elim h2
            refine AO.op rfl (AOp.storeL (f := fun z => SV.d (keS0 z)) (l := g869.2.2) (i := (g869.1).toNat) (v := (x874 + (IntKind.i64.wrap ((bits .and .i64 (bits .xor .i64 g869.2.1 (g869.2.1 / 2 ^ 1)) (1 : Int)) * 2 ^ (g431.2.1).toNat)))) rfl rfl rfl rfl size3 rfl rfl rfl q880 ?_)
            refine AO.nil ?_
            change AC _ _ _ _
            refine AC.region ?_
            refine AO.op rfl (AOp.move rfl rfl (ltb rfl) rfl ?_)
            obtain ⟨q881, h2⟩ := need_elim h2
            refine AO.op rfl (AOp.ishr (n := 1) rfl rfl (ltb rfl) rfl rfl (by decide) q881 rfl ?_)
            refine AO.op rfl (AOp.assign rfl rfl (ltb rfl) rfl ?_)
            refine AO.nil ?_
            change AC _ _ _ _
            refine AC.region ?_
            refine AO.op rfl (AOp.move rfl rfl (ltb rfl) rfl ?_)
            obtain ⟨q882, h2⟩ := need_elim h2
            refine AO.op rfl (AOp.iadd rfl rfl (ltb rfl) rfl rfl rfl q882.1 q882.2 ?_)
            refine AO.op rfl (AOp.assign rfl rfl (ltb rfl) rfl ?_)
            refine AO.nil ?_
            exact ⟨((g869.1 + (1 : Int)), (g869.2.1 / 2 ^ 1), (g869.2.2.set (g869.1).toNat (x874 + (IntKind.i64.wrap ((bits .and .i64 (bits .xor .i64 g869.2.1 (g869.2.1 / 2 ^ 1)) (1 : Int)) * 2 ^ (g431.2.1).toNat))))), _, rfl, (LeL.refl _), rfl, (okU_mk rfl (okU_cons rfl (okU_cons rfl (okU_cons rfl (okU_cons rfl (okU_cons rfl (okU_cons rfl (okU_cons rfl (okU_cons rfl (okU_cons (okU_fixl (fun _ => rfl)) (okU_cons rfl (okU_cons rfl okU_nil)))))))))))), h2⟩
          replace h2 := cF h2 q872
          refine AC.exit ?_
          obtain rfl := Option.some.inj h2
          exact ⟨g869.2.2, _, rfl, (LeL.refl _), rfl, (okU_mk rfl (okU_cons rfl (okU_cons rfl (okU_cons rfl (okU_cons rfl (okU_cons rfl (okU_cons rfl (okU_cons rfl (okU_cons rfl (okU_cons (okU_fixl (fun _ => rfl)) (okU_cons rfl (okU_cons rfl okU_nil)))))))))))), aftL h1⟩
        intro g866 h1
        unfold p_HCoord_k35 at h1
        change AC _ _ _ _
        refine AC.region ?_
        refine AO.op rfl (AOp.move rfl rfl (ltb rfl) rfl ?_)
        refine AO.op rfl (AOp.move rfl rfl (ltb rfl) rfl ?_)
        obtain ⟨q867, h1⟩ := need_elim h1
        refine AO.op rfl (AOp.ishr' rfl rfl (ltb rfl) rfl rfl q867.1 q867.2 ?_)
        refine AO.op rfl (AOp.assign rfl rfl (ltb rfl) rfl ?_)
        refine AO.nil ?_
        change AC _ _ _ _
        refine AC.region ?_
        refine AO.op rfl (AOp.move rfl rfl (ltb rfl) rfl ?_)
        obtain ⟨q868, h1⟩ := need_elim h1
        refine AO.op rfl (AOp.iadd rfl rfl (ltb rfl) rfl rfl rfl q868.1 q868.2 ?_)
        refine AO.op rfl (AOp.assign rfl rfl (ltb rfl) rfl ?_)
        refine AO.nil ?_
        exact ⟨((g431.1 / 2 ^ ((4 : Int)).toNat), (g431.2.1 + (1 : Int)), g866), _, rfl, (LeL.refl _), rfl, (okU_mk rfl (okU_cons rfl (okU_cons rfl (okU_cons rfl (okU_cons rfl (okU_cons rfl (okU_cons rfl (okU_cons rfl (okU_cons rfl (okU_cons (okU_fixl (fun _ => rfl)) okU_nil)))))))))), h1⟩
      replace h1 := cF h1 q434
      refine AC.exit ?_
      obtain rfl := Option.some.inj h1
      exact ⟨g431.2.2, _, rfl, (LeL.refl _), rfl, (okU_mk rfl (okU_cons rfl (okU_cons rfl (okU_cons rfl (okU_cons rfl (okU_cons rfl (okU_cons rfl (okU_cons rfl (okU_cons rfl (okU_cons (okU_fixl (fun _ => rfl)) okU_nil)))))))))), aftL h0⟩
    intro g429 h0
    unfold p_HCoord_k8 at h0
    change AC _ _ _ _
    refine AC.seq ?_
    refine AC.region ?_
    refine AO.op rfl (AOp.move rfl rfl (ltb rfl) rfl ?_)
    refine AO.op rfl (AOp.assign rfl rfl (ltb rfl) rfl ?_)
    refine AO.nil ?_
    change AC _ _ _ _
    refine AC.ret ?_
    refine inlret (ob' := [.fix 25 [.d (.v (.slice none 0 0))], .fix 4 [.d (dbool false)], .dead, .fix 41 [.d (di .i64 a1)], .fix 41 [.d (di .i64 a1)], .fix 41 [.d (di .i64 a1)], .dead, .fix 41 [.d (di .i64 a1)], .fix 3 (List.map sS0 g429)]) (e' := [(6, .ptr 0 0), (7, .ptr 1 0)]) (r := .sl 8 1 0 (((4 : Int)).toNat) (((4 : Int)).toNat)) rfl rfl rfl ?_
    change AO _ _ _ _ _
    obtain ⟨q430, h0⟩ := need_elim h0
    refine AO.freezeF (ds := (List.map keS0 g429)) 51 8 rfl rfl rfl (by rw [List.map_map]; rfl) (lenq q430 (len1 _ _)) (Nat.le_refl _) ?_
    refine AO.op rfl (AOp.store rfl rfl rfl rfl size25 rfl rfl rfl (leb rfl) ?_)
    refine AO.op rfl (AOp.store rfl rfl rfl rfl size4 rfl rfl rfl (leb rfl) ?_)
    refine AO.nil ?_
    change AC _ _ _ _
    refine AC.ret ?_
    change RetQ _ _ _ .ret _
    obtain rfl := Option.some.inj h0
    refine retq rfl rfl
  exact absurd (hp2.symm.trans q420) (by decide)

end Go.Proofs.YtkajoiehicpnlaaDoor.Wk
