/- Proved: more of it. -/
import Derived.Test.YtjhdpnjlphpboaaDoorWRd_0
namespace Go.Proofs.YtjhdpnjlphpboaaDoor.Wk
open Go.Vm
set_option linter.unusedVariables false
set_option linter.unusedSimpArgs false
set_option maxRecDepth 100000 in
set_option maxHeartbeats 4000000 in
/-- pub-orthodrome/impl.ReadFlat1 -/
theorem w_ReadFlat1_c0 (F : Nat) (a0 : (List Int)) (a1 : Bool) (a2 : Int) (r0 : ((List Nat) × Int × Bool)) (h0 : p_ReadFlat1 F a0 a1 a2 = some r0) (hp0 : a1 = true) : FnD Tryd.prog 7 [eS0 a0, dbool a1, di .i64 a2] (fun r => r = .tu [eS1 r0.1, di .i64 r0.2.1, dbool r0.2.2]) := by
  refine FnD.wrap (g := 19) (m := 3) (fun vs w h => idle19 vs w h) (by kernel_rfl) Tryd.func7 rfl Tryd.ntmps7 rfl (leb rfl) fun W ok => ?_
  unfold p_ReadFlat1 at h0
  refine AW.seq ?_
  refine AC.region ?_
  refine AO.op rfl (AOp.alloc rfl rfl (ltb rfl) zero24 rfl ?_)
  refine AO.op rfl (AOp.alloc rfl rfl (ltb rfl) zero3 rfl ?_)
  refine AO.op rfl (AOp.alloc rfl rfl (ltb rfl) zero4 rfl ?_)
  refine AO.nil ?_
  refine ⟨rfl, ?_⟩
  refine AW.defer (caps := [.tmp 6, .tmp 7, .tmp 8]) rfl rfl rfl (ltb rfl) rfl rfl rfl rfl (by kernel_rfl) rfl fun df => ?_
  refine AC.seq ?_
  refine AC.region ?_
  refine AO.op rfl (AOp.move rfl rfl (ltb rfl) rfl ?_)
  refine AO.op rfl (AOp.inl [1, 2, 6, 7, 8] (by kernel_rfl) Tryd.func20 rfl Tryd.ntmps20 rfl rfl (ltb rfl) rfl (leb rfl) rfl ?_)
  intro fr1
  refine AC.seq ?_
  refine AC.region ?_
  refine AO.op rfl (AOp.assign rfl rfl (ltb rfl) rfl ?_)
  refine AO.nil ?_
  change AC _ _ _ _
  refine AC.seq ?_
  refine AC.region ?_
  refine AO.op rfl (AOp.move rfl rfl (ltb rfl) rfl ?_)
  refine AO.op rfl (AOp.build rfl rfl (ltb rfl) zero71 rfl places71 rfl rfl ?_)
  refine AO.op rfl (AOp.box rfl rfl (ltb rfl) rfl rfl ?_)
  refine AO.op rfl (AOp.assign rfl rfl (ltb rfl) rfl ?_)
  refine AO.nil ?_
  change AC _ _ _ _
  refine AC.ret ?_
  refine inlret (ob' := [.fix 24 [.d (.v (.slice none 0 0))], .fix 3 [.d (di .i64 (0 : Int))], .fix 4 [.d (dbool false)], .dead, .fix 71 [.d (eS0 a0), .d (di .i64 (0 : Int)), .d (di .i8 (0 : Int))]]) (e' := [(1, .d (dbool a1)), (2, .d (di .i64 a2)), (6, .ptr 0 0), (7, .ptr 1 0), (8, .ptr 2 0)]) (r := .ptr 4 0) rfl rfl rfl ?_
  change AO _ _ _ _ _
  refine AO.op rfl (AOp.assign rfl rfl (ltb rfl) rfl ?_)
  refine AO.nil ?_
  change AC _ _ _ _
  refine AC.seq ?_
  refine AC.region ?_
  refine AO.op rfl (AOp.move rfl rfl (ltb rfl) rfl ?_)
  refine AO.op rfl (AOp.makeIfc rfl rfl (ltb rfl) rfl conc54 ?_)
  refine AO.op rfl (AOp.move rfl rfl (ltb rfl) rfl ?_)
  refine AO.op rfl (AOp.inl [2, 6, 7, 8, 9, 16] (by kernel_rfl) Tryd.func22 rfl Tryd.ntmps22 rfl rfl (ltb rfl) rfl (leb rfl) rfl ?_)
  intro fr2
  refine AC.seq ?_
  refine AC.region ?_
  refine AO.op rfl (AOp.assign rfl rfl (ltb rfl) rfl ?_)
  refine AO.objs (obs' := [.fix 24 [.d (.v (.slice none 0 0))], .fix 3 [.d (di .i64 (0 : Int))], .fix 4 [.d (dbool false)], .dead, .fix 71 [.d (eS0 a0), .d (di .i64 (0 : Int)), .d (di .i8 (0 : Int))], .frame fr2 [(2, .d (di .i64 a2)), (6, .ptr 0 0), (7, .ptr 1 0), (8, .ptr 2 0), (9, .ptr 4 0), (16, .ifc 54 (.ptr 4 0))]]) rfl ?_
  refine AO.nil ?_
  change AC _ _ _ _
  refine AC.seq ?_
  refine AC.seq ?_
  refine AC.region ?_
  refine AO.op rfl (AOp.move rfl rfl (ltb rfl) rfl ?_)
  refine AO.nil ?_
  change AC _ _ _ _
  refine AC.cond rfl (fun q3 => ?_) (fun q3 => ?_)
  · replace h0 := cT h0 q3
    refine AC.seq ?_
    refine AC.region ?_
    refine AO.op rfl (AOp.loadG0 rfl rfl (ltb rfl) agg94 size94 ?_)
    refine AO.op rfl (AOp.makeIfc rfl rfl (ltb rfl) rfl conc94 ?_)
    refine AO.op rfl (AOp.assign rfl rfl (ltb rfl) rfl ?_)
    refine AO.nil ?_
    change AC _ _ _ _
    refine AC.ret ?_
    refine inlret (ob' := [.fix 24 [.d (.v (.slice none 0 0))], .fix 3 [.d (di .i64 (0 : Int))], .fix 4 [.d (dbool false)], .dead, .fix 71 [.d (eS0 a0), .d (di .i64 (0 : Int)), .d (di .i8 (0 : Int))], .dead]) (e' := [(2, .d (di .i64 a2)), (6, .ptr 0 0), (7, .ptr 1 0), (8, .ptr 2 0), (9, .ptr 4 0), (16, .ifc 54 (.ptr 4 0))]) (r := .ifc 94 (.ag [])) rfl rfl rfl ?_
    change AO _ _ _ _ _
    refine AO.op rfl (AOp.move rfl rfl (ltb rfl) rfl ?_)
    refine AO.op rfl (AOp.inl [6, 7, 8, 9] (by kernel_rfl) Tryd.func21 rfl Tryd.ntmps21 rfl rfl (ltb rfl) rfl (leb rfl) rfl ?_)
    intro fr4
    refine AC.seq ?_
    refine AC.region ?_
    refine AO.op rfl (AOp.assign rfl rfl (ltb rfl) rfl ?_)
    refine AO.op rfl (AOp.assign rfl rfl (ltb rfl) rfl ?_)
    refine AO.objs (obs' := [.fix 24 [.d (.v (.slice none 0 0))], .fix 3 [.d (di .i64 (0 : Int))], .fix 4 [.d (dbool false)], .dead, .fix 71 [.d (eS0 a0), .d (di .i64 (0 : Int)), .d (di .i8 (0 : Int))], .dead, .frame fr4 [(6, .ptr 0 0), (7, .ptr 1 0), (8, .ptr 2 0), (9, .ptr 4 0)]]) rfl ?_
    refine AO.nil ?_
    change AC _ _ _ _
    refine AC.seq ?_
    refine AC.region ?_
    refine AO.op rfl (AOp.move rfl rfl (ltb rfl) rfl ?_)
    refine AO.op rfl (AOp.move rfl rfl (ltb rfl) rfl ?_)
    refine AO.op rfl (AOp.inl [0, 1, 2] (by kernel_rfl) Tryd.func38 rfl Tryd.ntmps38 rfl rfl (ltb rfl) rfl (leb rfl) rfl ?_)
    intro fr5
    refine AC.seq ?_
    refine AC.region ?_
    refine AO.op rfl (AOp.assign rfl rfl (ltb rfl) rfl ?_)
    refine AO.op rfl (AOp.assign rfl rfl (ltb rfl) rfl ?_)
    refine AO.objs (obs' := [.fix 24 [.d (.v (.slice none 0 0))], .fix 3 [.d (di .i64 (0 : Int))], .fix 4 [.d (dbool false)], .dead, .fix 71 [.d (eS0 a0), .d (di .i64 (0 : Int)), .d (di .i8 (0 : Int))], .dead, .frame fr4 [(6, .ptr 0 0), (7, .ptr 1 0), (8, .ptr 2 0), (9, .ptr 4 0)], .frame fr5 [(0, .ifc 54 (.ptr 4 0)), (1, .ifc 94 (.ag [])), (2, .d (di .i64 a2))]]) rfl ?_
    refine AO.nil ?_
    change AC _ _ _ _
    refine AC.seq ?_
    refine AC.region ?_
    refine AO.op rfl (AOp.alloc rfl rfl (ltb rfl) zero102 rfl ?_)
    refine AO.nil ?_
    change AC _ _ _ _
    refine AC.seq ?_
    refine AC.seq ?_
    refine AC.region ?_
    refine AO.op rfl (AOp.move rfl rfl (ltb rfl) rfl ?_)
    refine AO.op rfl (AOp.sliceArr rfl rfl (ltb rfl) rfl ar102 ⟨_, _, rfl⟩ ?_)
    refine AO.op rfl (AOp.inl [1, 6] (by kernel_rfl) Tryd.func45 rfl Tryd.ntmps45 rfl rfl (ltb rfl) rfl (leb rfl) rfl ?_)
    intro fr6
    refine AC.seq ?_
    refine AC.region ?_
    refine AO.op rfl (AOp.assign rfl rfl (ltb rfl) rfl ?_)
    refine AO.op rfl (AOp.assign rfl rfl (ltb rfl) rfl ?_)
    refine AO.objs (obs' := [.fix 24 [.d (.v (.slice none 0 0))], .fix 3 [.d (di .i64 (0 : Int))], .fix 4 [.d (dbool false)], .dead, .fix 71 [.d (eS0 a0), .d (di .i64 (0 : Int)), .d (di .i8 (0 : Int))], .dead, .frame fr4 [(6, .ptr 0 0), (7, .ptr 1 0), (8, .ptr 2 0), (9, .ptr 4 0)], .frame fr5 [(0, .ifc 54 (.ptr 4 0)), (1, .ifc 94 (.ag [])), (2, .d (di .i64 a2))], .fix 102 (List.map (fun z => SV.d (keS0 z)) [(0 : Int), (0 : Int), (0 : Int), (0 : Int)]), .frame fr6 [(1, .ifc 94 (.ag [])), (6, .ptr 8 0)]]) rfl ?_
    refine AO.nil ?_
    change AC _ _ _ _
    refine AC.seq ?_
    refine AC.region ?_
    refine AO.op rfl (AOp.move rfl rfl (ltb rfl) rfl ?_)
    refine AO.op rfl (AOp.move rfl rfl (ltb rfl) rfl ?_)
    refine AO.op rfl (AOp.move rfl rfl (ltb rfl) rfl ?_)
    refine AO.op rfl (AOp.lenSl rfl rfl (ltb rfl) rfl el22 ?_)
    refine AO.op rfl (AOp.inl [4, 5] (by kernel_rfl) Tryd.func53 rfl Tryd.ntmps53 rfl rfl (ltb rfl) rfl (leb rfl) rfl ?_)
    intro fr7
    refine AC.seq ?_
    refine AC.region ?_
    refine AO.op rfl (AOp.assign rfl rfl (ltb rfl) rfl ?_)
    refine AO.op rfl (AOp.assign rfl rfl (ltb rfl) rfl ?_)
    refine AO.objs (obs' := [.fix 24 [.d (.v (.slice none 0 0))], .fix 3 [.d (di .i64 (0 : Int))], .fix 4 [.d (dbool false)], .dead, .fix 71 [.d (eS0 a0), .d (di .i64 (0 : Int)), .d (di .i8 (0 : Int))], .dead, .frame fr4 [(6, .ptr 0 0), (7, .ptr 1 0), (8, .ptr 2 0), (9, .ptr 4 0)], .frame fr5 [(0, .ifc 54 (.ptr 4 0)), (1, .ifc 94 (.ag [])), (2, .d (di .i64 a2))], .fix 102 (List.map (fun z => SV.d (keS0 z)) [(0 : Int), (0 : Int), (0 : Int), (0 : Int)]), .frame fr6 [(1, .ifc 94 (.ag [])), (6, .ptr 8 0)], .frame fr7 [(4, .d (di .i64 (0 : Int))), (5, .d (.v (.nilIface)))]]) rfl ?_
    refine AO.nil ?_
    change AC _ _ _ _
    refine AC.seq ?_
    refine AC.seq ?_
    refine AC.region ?_
    refine AO.op rfl (AOp.move rfl rfl (ltb rfl) rfl ?_)
    refine AO.op rfl (AOp.lenSl rfl rfl (ltb rfl) rfl el22 ?_)
    refine AO.op rfl (AOp.move rfl rfl (ltb rfl) rfl ?_)
    refine AO.op rfl (AOp.ilss rfl rfl (ltb rfl) rfl rfl ?_)
    refine AO.nil ?_
    change AC _ _ _ _
    refine AC.condF rfl rfl ?_
    refine AC.skip ?_
    change AC _ _ _ _
    refine AC.seq ?_
    refine AC.block ?_
    refine AC.loopU ?_
    refine ACL.round ?_
    refine AC.seq ?_
    refine AC.seq ?_
    refine AC.region ?_
    refine AO.op rfl (AOp.move rfl rfl (ltb rfl) rfl ?_)
    refine AO.op rfl (AOp.move rfl rfl (ltb rfl) rfl ?_)
    refine AO.op rfl (AOp.ilss rfl rfl (ltb rfl) rfl rfl ?_)
    refine AO.op rfl (AOp.move rfl rfl (ltb rfl) rfl ?_)
    refine AO.guardY rfl rfl rfl rfl (AOp.move rfl rfl (ltb rfl) rfl ?_)
    refine AO.guardY rfl rfl rfl rfl (AOp.nilEq rfl rfl (ltb rfl) rfl imeth57 ?_)
    refine AO.op rfl (AOp.pick rfl rfl (ltb rfl) rfl rfl rfl ?_)
    refine AO.nil ?_
    change AC _ _ _ _
    refine AC.condT rfl rfl ?_
    refine AC.skip ?_
    change AC _ _ _ _
    refine AC.block ?_
    refine AC.seq ?_
    refine AC.region ?_
    refine AO.op rfl (AOp.assign rfl rfl (ltb rfl) rfl ?_)
    refine AO.nil ?_
    change AC _ _ _ _
    refine AC.seq ?_
    refine AC.drawC 7 mixed (by kernel_rfl) rfl ?_
    refine AD.op [0] rfl (by kernel_rfl) rfl rfl (fun _ _ h => AOp.move rfl rfl (ltb rfl) rfl h) ?_
    refine AD.op [1] rfl (by kernel_rfl) rfl rfl (fun _ _ h => AOp.move rfl rfl (ltb rfl) rfl h) ?_
    refine AD.op [6] rfl (by kernel_rfl) rfl rfl (fun _ _ h => AOp.move rfl rfl (ltb rfl) rfl h) ?_
    refine AD.op [23, 24] rfl (by kernel_rfl) rfl rfl (fun _ _ h => AOp.sliceSl0 rfl rfl (ltb rfl) rfl rfl el22 h) ?_
    refine AD.op [22] rfl (by kernel_rfl) rfl rfl (fun _ _ h => AOp.makeMeth rfl rfl (ltb rfl) rfl h) ?_
    refine AD.op [26] rfl (by kernel_rfl) rfl rfl (fun _ _ h => AOp.nilMeth rfl rfl (ltb rfl) rfl rfl nilm54_Read h) ?_
    refine AD.op [22] rfl (by kernel_rfl) rfl rfl (fun _ _ h => AOp.move rfl rfl (ltb rfl) rfl h) ?_
    refine AD.done ?_
    refine AO.op rfl (AOp.inlE [0, 1, 2, 6, 7, 8] (EntersS.meth (by kernel_rfl) rfl rfl rfl meth54_Read rfl rfl) Tryd.func71 rfl Tryd.ntmps71 rfl (ltb rfl) (leb rfl) rfl ?_)
    intro fr8
    refine AC.seq ?_
    refine AC.region ?_
    refine AO.op rfl (AOp.assign rfl rfl (ltb rfl) rfl ?_)
    refine AO.op rfl (AOp.assign rfl rfl (ltb rfl) rfl ?_)
    refine AO.objs (obs' := [.fix 24 [.d (.v (.slice none 0 0))], .fix 3 [.d (di .i64 (0 : Int))], .fix 4 [.d (dbool false)], .dead, .fix 71 [.d (eS0 a0), .d (di .i64 (0 : Int)), .d (di .i8 (0 : Int))], .dead, .frame fr4 [(6, .ptr 0 0), (7, .ptr 1 0), (8, .ptr 2 0), (9, .ptr 4 0)], .frame fr5 [(0, .ifc 54 (.ptr 4 0)), (1, .ifc 94 (.ag [])), (2, .d (di .i64 a2))], .fix 102 (List.map (fun z => SV.d (keS0 z)) [(0 : Int), (0 : Int), (0 : Int), (0 : Int)]), .frame fr6 [(1, .ifc 94 (.ag [])), (6, .ptr 8 0)], .frame fr7 [(4, .d (di .i64 (0 : Int))), (5, .d (.v (.nilIface)))], .frame fr8 [(0, .ifc 54 (.ptr 4 0)), (1, .sl 8 1 0 4 4), (2, .d (di .i64 (4 : Int))), (6, .d (di .i64 (0 : Int))), (7, .d (.v (.nilIface))), (8, .d (di .i64 (0 : Int)))]]) rfl ?_
    refine AO.nil ?_
    change AC _ _ _ _
    refine AC.seq ?_
    refine AC.region ?_
    refine AO.op rfl (AOp.move rfl rfl (ltb rfl) rfl ?_)
    refine AO.op rfl (AOp.nilCheck rfl rfl (ltb rfl) rfl rfl ?_)
    refine AO.op rfl (AOp.fieldAddr rfl rfl (ltb rfl) rfl fo71_2 ?_)
    refine AO.op rfl (AOp.store rfl rfl rfl rfl size69 rfl rfl rfl (leb rfl) ?_)
    refine AO.nil ?_
    change AC _ _ _ _
    refine AC.seq ?_
    refine AC.seq ?_
    refine AC.region ?_
    refine AO.op rfl (AOp.move rfl rfl (ltb rfl) rfl ?_)
    refine AO.op rfl (AOp.inl [0, 1] (by kernel_rfl) Tryd.func75 rfl Tryd.ntmps75 rfl rfl (ltb rfl) rfl (leb rfl) rfl ?_)
    intro fr9
    refine AC.seq ?_
    refine AC.region ?_
    refine AO.op rfl (AOp.assign rfl rfl (ltb rfl) rfl ?_)
    refine AO.objs (obs' := [.fix 24 [.d (.v (.slice none 0 0))], .fix 3 [.d (di .i64 (0 : Int))], .fix 4 [.d (dbool false)], .dead, .fix 71 [.d (eS0 a0), .d (di .i64 (0 : Int)), .d (di .i8 (0 : Int))], .dead, .frame fr4 [(6, .ptr 0 0), (7, .ptr 1 0), (8, .ptr 2 0), (9, .ptr 4 0)], .frame fr5 [(0, .ifc 54 (.ptr 4 0)), (1, .ifc 94 (.ag [])), (2, .d (di .i64 a2))], .fix 102 (List.map (fun z => SV.d (keS0 z)) [(0 : Int), (0 : Int), (0 : Int), (0 : Int)]), .frame fr6 [(1, .ifc 94 (.ag [])), (6, .ptr 8 0)], .frame fr7 [(4, .d (di .i64 (0 : Int))), (5, .d (.v (.nilIface)))], .frame fr8 [(0, .ifc 54 (.ptr 4 0)), (1, .sl 8 1 0 4 4), (2, .d (di .i64 (4 : Int))), (6, .d (di .i64 (0 : Int))), (7, .d (.v (.nilIface))), (8, .d (di .i64 (0 : Int)))], .frame fr9 [(0, .ptr 4 0), (1, .sl 8 1 0 4 4)]]) rfl ?_
    refine AO.nil ?_
    change AC _ _ _ _
    refine AC.seq ?_
    refine AC.draw 11 mixed (by kernel_rfl) ?_
    refine AD.op [0] rfl (by kernel_rfl) rfl rfl (fun _ _ h => AOp.move rfl rfl (ltb rfl) rfl h) ?_
    refine AD.op [3] rfl (by kernel_rfl) rfl rfl (fun _ _ h => AOp.nilCheck rfl rfl (ltb rfl) rfl rfl h) ?_
    refine AD.op [4] rfl (by kernel_rfl) rfl rfl (fun _ _ h => AOp.fieldAddr rfl rfl (ltb rfl) rfl fo71_0 h) ?_
    refine AD.op [5] rfl (by kernel_rfl) rfl rfl (fun _ _ h => AOp.load1 rfl rfl (ltb rfl) rfl agg22 rfl rfl h) ?_
    refine AD.op [6] rfl (by kernel_rfl) rfl rfl (fun _ _ h => AOp.lenDs (n := a0.length) (cells := (List.map keS0 a0)) rfl rfl (ltb rfl) rfl el22 (by decide) (len1 _ _) h) ?_
    refine AD.op [0] rfl (by kernel_rfl) rfl rfl (fun _ _ h => AOp.move rfl rfl (ltb rfl) rfl h) ?_
    refine AD.op [8] rfl (by kernel_rfl) rfl rfl (fun _ _ h => AOp.nilCheck rfl rfl (ltb rfl) rfl rfl h) ?_
    refine AD.op [9] rfl (by kernel_rfl) rfl rfl (fun _ _ h => AOp.fieldAddr rfl rfl (ltb rfl) rfl fo71_1 h) ?_
    refine AD.op [10] rfl (by kernel_rfl) rfl rfl (fun _ _ h => AOp.load1 rfl rfl (ltb rfl) rfl agg3 rfl rfl h) ?_
    refine AD.op [7, 11] rfl (by kernel_rfl) rfl rfl (fun _ _ h => AOp.ileq rfl rfl (ltb rfl) rfl rfl h) ?_
    refine AD.op [12] rfl (by kernel_rfl) rfl rfl (fun _ _ h => AOp.assign rfl rfl (ltb rfl) rfl h) ?_
    refine AD.done ?_
    refine AO.nil ?_
    change AC _ _ _ _
    refine AC.ret ?_
    refine inlret (ob' := [.fix 24 [.d (.v (.slice none 0 0))], .fix 3 [.d (di .i64 (0 : Int))], .fix 4 [.d (dbool false)], .dead, .fix 71 [.d (eS0 a0), .d (di .i64 (0 : Int)), .d (di .i8 (0 : Int))], .dead, .frame fr4 [(6, .ptr 0 0), (7, .ptr 1 0), (8, .ptr 2 0), (9, .ptr 4 0)], .frame fr5 [(0, .ifc 54 (.ptr 4 0)), (1, .ifc 94 (.ag [])), (2, .d (di .i64 a2))], .fix 102 (List.map (fun z => SV.d (keS0 z)) [(0 : Int), (0 : Int), (0 : Int), (0 : Int)]), .frame fr6 [(1, .ifc 94 (.ag [])), (6, .ptr 8 0)], .frame fr7 [(4, .d (di .i64 (0 : Int))), (5, .d (.v (.nilIface)))], .frame fr8 [(0, .ifc 54 (.ptr 4 0)), (1, .sl 8 1 0 4 4), (2, .d (di .i64 (4 : Int))), (6, .d (di .i64 (0 : Int))), (7, .d (.v (.nilIface))), (8, .d (di .i64 (0 : Int)))], .dead]) (e' := [(0, .ptr 4 0), (1, .sl 8 1 0 4 4)]) (r := .d (dbool (decide (((a0.length : Nat) : Int) ≤ (0 : Int))))) rfl rfl rfl ?_
    change AO _ _ _ _ _
    refine AO.objs (obs' := [.fix 24 [.d (.v (.slice none 0 0))], .fix 3 [.d (di .i64 (0 : Int))], .fix 4 [.d (dbool false)], .dead, .fix 71 [.d (eS0 a0), .d (di .i64 (0 : Int)), .d (di .i8 (0 : Int))], .dead, .frame fr4 [(6, .ptr 0 0), (7, .ptr 1 0), (8, .ptr 2 0), (9, .ptr 4 0)], .frame fr5 [(0, .ifc 54 (.ptr 4 0)), (1, .ifc 94 (.ag [])), (2, .d (di .i64 a2))], .fix 102 (List.map (fun z => SV.d (keS0 z)) [(0 : Int), (0 : Int), (0 : Int), (0 : Int)]), .frame fr6 [(1, .ifc 94 (.ag [])), (6, .ptr 8 0)], .frame fr7 [(4, .d (di .i64 (0 : Int))), (5, .d (.v (.nilIface)))], .frame fr8 [(0, .ifc 54 (.ptr 4 0)), (1, .sl 8 1 0 4 4), (2, .d (di .i64 (4 : Int))), (6, .d (di .i64 (0 : Int))), (7, .d (.v (.nilIface))), (8, .d (di .i64 (0 : Int)))], .dead]) rfl ?_
    refine AO.nil ?_
    change AC _ _ _ _
    refine AC.cond rfl (fun q10 => ?_) (fun q10 => ?_)
    · replace h0 := cT h0 q10
      refine AC.seq ?_
      refine AC.region ?_
      refine AO.op rfl (AOp.move rfl rfl (ltb rfl) rfl ?_)
      refine AO.op rfl (AOp.inl [1] (by kernel_rfl) Tryd.func72 rfl Tryd.ntmps72 rfl rfl (ltb rfl) rfl (leb rfl) rfl ?_)
      intro fr11
      refine AC.seq ?_
      refine AC.region ?_
      refine AO.op rfl (AOp.move rfl rfl (ltb rfl) rfl ?_)
      refine AO.op rfl (AOp.move rfl rfl (ltb rfl) rfl ?_)
      refine AO.op rfl (AOp.nilCheck rfl rfl (ltb rfl) rfl rfl ?_)
      refine AO.op rfl (AOp.fieldAddr rfl rfl (ltb rfl) rfl fo71_0 ?_)
      refine AO.op rfl (AOp.load1 rfl rfl (ltb rfl) rfl agg22 rfl rfl ?_)
      obtain ⟨q12, h0⟩ := need_elim h0
      refine AO.op rfl (AOp.sliceD (cells := (List.map keS0 a0)) (n := a0.length) (l := 0) (hh := ((0 : Int)).toNat) rfl rfl (ltb rfl) rfl (.inl ⟨rfl, rfl⟩) (.inr ⟨_, _, _, rfl, rfl, q12.1.2, rfl⟩) el22 (by decide) (len1 _ _) q12.2.1 q12.2.2 (sub1 _ _ _ _) ?_)
      refine AO.op rfl (AOp.nilCheck rfl rfl (ltb rfl) rfl rfl ?_)
      refine AO.op rfl (AOp.fieldAddr rfl rfl (ltb rfl) rfl fo71_0 ?_)
      refine AO.op rfl (AOp.store rfl rfl rfl rfl size22 rfl rfl rfl (leb rfl) ?_)
      refine AO.objs (obs' := [.fix 24 [.d (.v (.slice none 0 0))], .fix 3 [.d (di .i64 (0 : Int))], .fix 4 [.d (dbool false)], .dead, .fix 71 [.d (eS0 ((a0.drop 0).take (((0 : Int)).toNat - 0))), .d (di .i64 (0 : Int)), .d (di .i8 (0 : Int))], .dead, .frame fr4 [(6, .ptr 0 0), (7, .ptr 1 0), (8, .ptr 2 0), (9, .ptr 4 0)], .frame fr5 [(0, .ifc 54 (.ptr 4 0)), (1, .ifc 94 (.ag [])), (2, .d (di .i64 a2))], .fix 102 (List.map (fun z => SV.d (keS0 z)) [(0 : Int), (0 : Int), (0 : Int), (0 : Int)]), .frame fr6 [(1, .ifc 94 (.ag [])), (6, .ptr 8 0)], .frame fr7 [(4, .d (di .i64 (0 : Int))), (5, .d (.v (.nilIface)))], .frame fr8 [(0, .ifc 54 (.ptr 4 0)), (1, .sl 8 1 0 4 4), (2, .d (di .i64 (4 : Int))), (6, .d (di .i64 (0 : Int))), (7, .d (.v (.nilIface))), (8, .d (di .i64 (0 : Int)))], .dead, .frame fr11 [(1, .sl 8 1 0 4 4)]]) rfl ?_
      refine AO.nil ?_
      change AC _ _ _ _
      refine AC.seq ?_
      refine AC.region ?_
      refine AO.op rfl (AOp.move rfl rfl (ltb rfl) rfl ?_)
      refine AO.op rfl (AOp.nilCheck rfl rfl (ltb rfl) rfl rfl ?_)
      refine AO.op rfl (AOp.fieldAddr rfl rfl (ltb rfl) rfl fo71_1 ?_)
      refine AO.op rfl (AOp.store rfl rfl rfl rfl size3 rfl rfl rfl (leb rfl) ?_)
      refine AO.nil ?_
      change AC _ _ _ _
      refine AC.region ?_
      refine AO.op rfl (AOp.move rfl rfl (ltb rfl) rfl ?_)
      refine AO.op rfl (AOp.nilCheck rfl rfl (ltb rfl) rfl rfl ?_)
      refine AO.op rfl (AOp.fieldAddr rfl rfl (ltb rfl) rfl fo71_2 ?_)
      refine AO.op rfl (AOp.store rfl rfl rfl rfl size69 rfl rfl rfl (leb rfl) ?_)
      refine AO.nil ?_
      refine inlend (ob' := [.fix 24 [.d (.v (.slice none 0 0))], .fix 3 [.d (di .i64 (0 : Int))], .fix 4 [.d (dbool false)], .dead, .fix 71 [.d (eS0 ((a0.drop 0).take (((0 : Int)).toNat - 0))), .d (di .i64 (0 : Int)), .d (di .i8 (0 : Int))], .dead, .frame fr4 [(6, .ptr 0 0), (7, .ptr 1 0), (8, .ptr 2 0), (9, .ptr 4 0)], .frame fr5 [(0, .ifc 54 (.ptr 4 0)), (1, .ifc 94 (.ag [])), (2, .d (di .i64 a2))], .fix 102 (List.map (fun z => SV.d (keS0 z)) [(0 : Int), (0 : Int), (0 : Int), (0 : Int)]), .frame fr6 [(1, .ifc 94 (.ag [])), (6, .ptr 8 0)], .frame fr7 [(4, .d (di .i64 (0 : Int))), (5, .d (.v (.nilIface)))], .frame fr8 [(0, .ifc 54 (.ptr 4 0)), (1, .sl 8 1 0 4 4), (2, .d (di .i64 (4 : Int))), (6, .d (di .i64 (0 : Int))), (7, .d (.v (.nilIface))), (8, .d (di .i64 (0 : Int)))], .dead, .dead]) (e' := [(1, .sl 8 1 0 4 4)]) (r := .tu []) rfl rfl rfl ?_
      change AO _ _ _ _ _
      refine AO.objs (obs' := [.fix 24 [.d (.v (.slice none 0 0))], .fix 3 [.d (di .i64 (0 : Int))], .fix 4 [.d (dbool false)], .dead, .fix 71 [.d (eS0 ((a0.drop 0).take (((0 : Int)).toNat - 0))), .d (di .i64 (0 : Int)), .d (di .i8 (0 : Int))], .dead, .frame fr4 [(6, .ptr 0 0), (7, .ptr 1 0), (8, .ptr 2 0), (9, .ptr 4 0)], .frame fr5 [(0, .ifc 54 (.ptr 4 0)), (1, .ifc 94 (.ag [])), (2, .d (di .i64 a2))], .fix 102 (List.map (fun z => SV.d (keS0 z)) [(0 : Int), (0 : Int), (0 : Int), (0 : Int)]), .frame fr6 [(1, .ifc 94 (.ag [])), (6, .ptr 8 0)], .frame fr7 [(4, .d (di .i64 (0 : Int))), (5, .d (.v (.nilIface)))], .frame fr8 [(0, .ifc 54 (.ptr 4 0)), (1, .sl 8 1 0 4 4), (2, .d (di .i64 (4 : Int))), (6, .d (di .i64 (0 : Int))), (7, .d (.v (.nilIface))), (8, .d (di .i64 (0 : Int)))], .dead, .dead]) rfl ?_
      refine AO.nil ?_
      change AC _ _ _ _
      refine AC.seq ?_
      refine AC.seq ?_
      refine AC.region ?_
      refine AO.op rfl (AOp.move rfl rfl (ltb rfl) rfl ?_)
      refine AO.op rfl (AOp.lenSl rfl rfl (ltb rfl) rfl el22 ?_)
      refine AO.op rfl (AOp.ieql rfl rfl (ltb rfl) rfl rfl ?_)
      refine AO.nil ?_
      change AC _ _ _ _
      refine AC.condF rfl rfl ?_
      refine AC.skip ?_
      change AC _ _ _ _
      refine AC.seq ?_
      refine AC.draw 3 mixed (by kernel_rfl) ?_
      refine AD.op [] rfl (by kernel_rfl) rfl rfl (fun _ _ h => AOp.loadEV rfl rfl (ltb rfl) rfl agg57 (by simp [GlobsP]) h) ?_
      refine AD.op [] rfl (by kernel_rfl) rfl rfl (fun _ _ h => AOp.assign rfl rfl (ltb rfl) rfl h) ?_
      refine AD.op [16] rfl (by kernel_rfl) rfl rfl (fun _ _ h => AOp.assign rfl rfl (ltb rfl) rfl h) ?_
      refine AD.done ?_
      refine AO.nil ?_
      change AC _ _ _ _
      refine AC.ret ?_
      refine inlret (ob' := [.fix 24 [.d (.v (.slice none 0 0))], .fix 3 [.d (di .i64 (0 : Int))], .fix 4 [.d (dbool false)], .dead, .fix 71 [.d (eS0 ((a0.drop 0).take (((0 : Int)).toNat - 0))), .d (di .i64 (0 : Int)), .d (di .i8 (0 : Int))], .dead, .frame fr4 [(6, .ptr 0 0), (7, .ptr 1 0), (8, .ptr 2 0), (9, .ptr 4 0)], .frame fr5 [(0, .ifc 54 (.ptr 4 0)), (1, .ifc 94 (.ag [])), (2, .d (di .i64 a2))], .fix 102 (List.map (fun z => SV.d (keS0 z)) [(0 : Int), (0 : Int), (0 : Int), (0 : Int)]), .frame fr6 [(1, .ifc 94 (.ag [])), (6, .ptr 8 0)], .frame fr7 [(4, .d (di .i64 (0 : Int))), (5, .d (.v (.nilIface)))], .dead, .dead, .dead]) (e' := [(0, .ifc 54 (.ptr 4 0)), (1, .sl 8 1 0 4 4), (2, .d (di .i64 (4 : Int))), (6, .d (di .i64 (0 : Int))), (7, .d (.v (.nilIface))), (8, .d (di .i64 (0 : Int)))]) (r := .tu [.d (di .i64 (0 : Int)), .d (.v (errV W 5))]) rfl rfl rfl ?_
      change AO _ _ _ _ _
      refine AO.objs (obs' := [.fix 24 [.d (.v (.slice none 0 0))], .fix 3 [.d (di .i64 (0 : Int))], .fix 4 [.d (dbool false)], .dead, .fix 71 [.d (eS0 ((a0.drop 0).take (((0 : Int)).toNat - 0))), .d (di .i64 (0 : Int)), .d (di .i8 (0 : Int))], .dead, .frame fr4 [(6, .ptr 0 0), (7, .ptr 1 0), (8, .ptr 2 0), (9, .ptr 4 0)], .frame fr5 [(0, .ifc 54 (.ptr 4 0)), (1, .ifc 94 (.ag [])), (2, .d (di .i64 a2))], .fix 102 (List.map (fun z => SV.d (keS0 z)) [(0 : Int), (0 : Int), (0 : Int), (0 : Int)]), .frame fr6 [(1, .ifc 94 (.ag [])), (6, .ptr 8 0)], .frame fr7 [(4, .d (di .i64 (0 : Int))), (5, .d (.v (.nilIface)))], .dead, .dead, .dead]) rfl ?_
      refine AO.nil ?_
      change AD _ _ _ _ _
      refine AD.op [29] rfl (by kernel_rfl) rfl rfl (fun _ _ h => AOp.move rfl rfl (ltb rfl) rfl h) ?_
      first | refine AD.op [21] rfl (by kernel_rfl) rfl rfl (fun _ _ h => AOp.extractD rfl rfl (ltb rfl) rfl rfl h) ?_ | refine AD.op [21] rfl (by kernel_rfl) rfl rfl (fun _ _ h => AOp.extract rfl rfl (ltb rfl) rfl rfl h) ?_
      first | refine AD.op [21] rfl (by kernel_rfl) rfl rfl (fun _ _ h => AOp.extractD rfl rfl (ltb rfl) rfl rfl h) ?_ | refine AD.op [21] rfl (by kernel_rfl) rfl rfl (fun _ _ h => AOp.extract rfl rfl (ltb rfl) rfl rfl h) ?_
      refine AD.op [30] rfl (by kernel_rfl) rfl rfl (fun _ _ h => AOp.assign rfl rfl (ltb rfl) rfl h) ?_
      refine AD.op [31] rfl (by kernel_rfl) rfl rfl (fun _ _ h => AOp.assign rfl rfl (ltb rfl) rfl h) ?_
      refine AD.done ?_
      refine AO.nil ?_
      change AC _ _ _ _
      refine AC.region ?_
      refine AO.op rfl (AOp.move rfl rfl (ltb rfl) rfl ?_)
      refine AO.op rfl (AOp.move rfl rfl (ltb rfl) rfl ?_)
      refine AO.op rfl (AOp.iadd rfl rfl (ltb rfl) rfl rfl (show (0 : Int) + (0 : Int) = (0 : Int) by decide) (by decide) (by decide) ?_)
      refine AO.op rfl (AOp.assign rfl rfl (ltb rfl) rfl ?_)
      refine AO.nil ?_
      change ACL _ _ _ _
      refine ACL.round ?_
      refine AC.seq ?_
      refine AC.seq ?_
      refine AC.region ?_
      refine AO.op rfl (AOp.move rfl rfl (ltb rfl) rfl ?_)
      refine AO.op rfl (AOp.move rfl rfl (ltb rfl) rfl ?_)
      refine AO.op rfl (AOp.ilss rfl rfl (ltb rfl) rfl rfl ?_)
      refine AO.op rfl (AOp.move rfl rfl (ltb rfl) rfl ?_)
      refine AO.guardY rfl rfl rfl rfl (AOp.move rfl rfl (ltb rfl) rfl ?_)
      refine AO.guardY rfl rfl rfl rfl (AOp.errEql rfl rfl (ltb rfl) rfl (by simp [GlobsP]) imeth57 ?_)
      refine AO.op rfl (AOp.pick rfl rfl (ltb rfl) rfl rfl rfl ?_)
      refine AO.nil ?_
      change AC _ _ _ _
      refine AC.condF rfl rfl ?_
      refine AC.exit ?_
      change AC _ _ _ _
      refine AC.seq ?_
      refine AC.seq ?_
      refine AC.region ?_
      refine AO.op rfl (AOp.move rfl rfl (ltb rfl) rfl ?_)
      refine AO.op rfl (AOp.move rfl rfl (ltb rfl) rfl ?_)
      refine AO.op rfl (AOp.igeq rfl rfl (ltb rfl) rfl rfl ?_)
      refine AO.nil ?_
      change AC _ _ _ _
      refine AC.condF rfl rfl ?_
      refine AC.seq ?_
      refine AC.region ?_
      refine AO.op rfl (AOp.move rfl rfl (ltb rfl) rfl ?_)
      refine AO.op rfl (AOp.igtr rfl rfl (ltb rfl) rfl rfl ?_)
      refine AO.op rfl (AOp.move rfl rfl (ltb rfl) rfl ?_)
      refine AO.guardN rfl rfl rfl (ltb rfl) rfl rfl ?_
      refine AO.guardN rfl rfl rfl (ltb rfl) rfl rfl ?_
      refine AO.guardN rfl rfl rfl (ltb rfl) rfl rfl ?_
      refine AO.op rfl (AOp.pickN rfl rfl (ltb rfl) rfl rfl rfl ?_)
      refine AO.nil ?_
      change AC _ _ _ _
      refine AC.condF rfl rfl ?_
      refine AC.skip ?_
      change AC _ _ _ _
      refine AC.ret ?_
      refine inlret (ob' := [.fix 24 [.d (.v (.slice none 0 0))], .fix 3 [.d (di .i64 (0 : Int))], .fix 4 [.d (dbool false)], .dead, .fix 71 [.d (eS0 ((a0.drop 0).take (((0 : Int)).toNat - 0))), .d (di .i64 (0 : Int)), .d (di .i8 (0 : Int))], .dead, .frame fr4 [(6, .ptr 0 0), (7, .ptr 1 0), (8, .ptr 2 0), (9, .ptr 4 0)], .frame fr5 [(0, .ifc 54 (.ptr 4 0)), (1, .ifc 94 (.ag [])), (2, .d (di .i64 a2))], .fix 102 (List.map (fun z => SV.d (keS0 z)) [(0 : Int), (0 : Int), (0 : Int), (0 : Int)]), .frame fr6 [(1, .ifc 94 (.ag [])), (6, .ptr 8 0)], .dead, .dead, .dead, .dead]) (e' := [(4, .d (di .i64 (0 : Int))), (5, .d (.v (.nilIface)))]) (r := .tu [.d (di .i64 (0 : Int)), .d (.v (errV W 5))]) rfl rfl rfl ?_
      change AO _ _ _ _ _
      first | refine AO.op rfl (AOp.extractD rfl rfl (ltb rfl) rfl rfl ?_) | refine AO.op rfl (AOp.extract rfl rfl (ltb rfl) rfl rfl ?_)
      first | refine AO.op rfl (AOp.extractD rfl rfl (ltb rfl) rfl rfl ?_) | refine AO.op rfl (AOp.extract rfl rfl (ltb rfl) rfl rfl ?_)
      refine AO.op rfl (AOp.assign rfl rfl (ltb rfl) rfl ?_)
      refine AO.op rfl (AOp.assign rfl rfl (ltb rfl) rfl ?_)
      refine AO.objs (obs' := [.fix 24 [.d (.v (.slice none 0 0))], .fix 3 [.d (di .i64 (0 : Int))], .fix 4 [.d (dbool false)], .dead, .fix 71 [.d (eS0 ((a0.drop 0).take (((0 : Int)).toNat - 0))), .d (di .i64 (0 : Int)), .d (di .i8 (0 : Int))], .dead, .frame fr4 [(6, .ptr 0 0), (7, .ptr 1 0), (8, .ptr 2 0), (9, .ptr 4 0)], .frame fr5 [(0, .ifc 54 (.ptr 4 0)), (1, .ifc 94 (.ag [])), (2, .d (di .i64 a2))], .fix 102 (List.map (fun z => SV.d (keS0 z)) [(0 : Int), (0 : Int), (0 : Int), (0 : Int)]), .frame fr6 [(1, .ifc 94 (.ag [])), (6, .ptr 8 0)], .dead, .dead, .dead, .dead]) rfl ?_
      refine AO.nil ?_
      change AC _ _ _ _
      refine AC.ret ?_
      refine inlret (ob' := [.fix 24 [.d (.v (.slice none 0 0))], .fix 3 [.d (di .i64 (0 : Int))], .fix 4 [.d (dbool false)], .dead, .fix 71 [.d (eS0 ((a0.drop 0).take (((0 : Int)).toNat - 0))), .d (di .i64 (0 : Int)), .d (di .i8 (0 : Int))], .dead, .frame fr4 [(6, .ptr 0 0), (7, .ptr 1 0), (8, .ptr 2 0), (9, .ptr 4 0)], .frame fr5 [(0, .ifc 54 (.ptr 4 0)), (1, .ifc 94 (.ag [])), (2, .d (di .i64 a2))], .fix 102 (List.map (fun z => SV.d (keS0 z)) [(0 : Int), (0 : Int), (0 : Int), (0 : Int)]), .dead, .dead, .dead, .dead, .dead]) (e' := [(1, .ifc 94 (.ag [])), (6, .ptr 8 0)]) (r := .tu [.d (di .i64 (0 : Int)), .d (.v (errV W 5))]) rfl rfl rfl ?_
      change AO _ _ _ _ _
      refine AO.op rfl (AOp.move rfl rfl (ltb rfl) rfl ?_)
      first | refine AO.op rfl (AOp.extractD rfl rfl (ltb rfl) rfl rfl ?_) | refine AO.op rfl (AOp.extract rfl rfl (ltb rfl) rfl rfl ?_)
      first | refine AO.op rfl (AOp.extractD rfl rfl (ltb rfl) rfl rfl ?_) | refine AO.op rfl (AOp.extract rfl rfl (ltb rfl) rfl rfl ?_)
      refine AO.op rfl (AOp.assign rfl rfl (ltb rfl) rfl ?_)
      refine AO.op rfl (AOp.assign rfl rfl (ltb rfl) rfl ?_)
      refine AO.objs (obs' := [.fix 24 [.d (.v (.slice none 0 0))], .fix 3 [.d (di .i64 (0 : Int))], .fix 4 [.d (dbool false)], .dead, .fix 71 [.d (eS0 ((a0.drop 0).take (((0 : Int)).toNat - 0))), .d (di .i64 (0 : Int)), .d (di .i8 (0 : Int))], .dead, .frame fr4 [(6, .ptr 0 0), (7, .ptr 1 0), (8, .ptr 2 0), (9, .ptr 4 0)], .frame fr5 [(0, .ifc 54 (.ptr 4 0)), (1, .ifc 94 (.ag [])), (2, .d (di .i64 a2))], .fix 102 (List.map (fun z => SV.d (keS0 z)) [(0 : Int), (0 : Int), (0 : Int), (0 : Int)]), .dead, .dead, .dead, .dead, .dead]) rfl ?_
      refine AO.nil ?_
      change AC _ _ _ _
      refine AC.seq ?_
      refine AC.region ?_
      refine AO.op rfl (AOp.move rfl rfl (ltb rfl) rfl ?_)
      refine AO.op rfl (AOp.errNeq rfl rfl (ltb rfl) rfl (by simp [GlobsP]) imeth57 ?_)
      refine AO.nil ?_
      change AC _ _ _ _
      refine AC.condT rfl rfl ?_
      refine AC.seq ?_
      refine AC.region ?_
      refine AO.op rfl (AOp.move rfl rfl (ltb rfl) rfl ?_)
      refine AO.op rfl (AOp.assign rfl rfl (ltb rfl) rfl ?_)
      refine AO.op rfl (AOp.assign rfl rfl (ltb rfl) rfl ?_)
      refine AO.nil ?_
      change AC _ _ _ _
      refine AC.ret ?_
      refine inlret (ob' := [.fix 24 [.d (.v (.slice none 0 0))], .fix 3 [.d (di .i64 (0 : Int))], .fix 4 [.d (dbool false)], .dead, .fix 71 [.d (eS0 ((a0.drop 0).take (((0 : Int)).toNat - 0))), .d (di .i64 (0 : Int)), .d (di .i8 (0 : Int))], .dead, .frame fr4 [(6, .ptr 0 0), (7, .ptr 1 0), (8, .ptr 2 0), (9, .ptr 4 0)], .dead, .fix 102 (List.map (fun z => SV.d (keS0 z)) [(0 : Int), (0 : Int), (0 : Int), (0 : Int)]), .dead, .dead, .dead, .dead, .dead]) (e' := [(0, .ifc 54 (.ptr 4 0)), (1, .ifc 94 (.ag [])), (2, .d (di .i64 a2))]) (r := .tu [.d (di .u32 (0 : Int)), .d (.v (errV W 5))]) rfl rfl rfl ?_
      change AO _ _ _ _ _
      refine AO.op rfl (AOp.move rfl rfl (ltb rfl) rfl ?_)
      first | refine AO.op rfl (AOp.extractD rfl rfl (ltb rfl) rfl rfl ?_) | refine AO.op rfl (AOp.extract rfl rfl (ltb rfl) rfl rfl ?_)
      first | refine AO.op rfl (AOp.extractD rfl rfl (ltb rfl) rfl rfl ?_) | refine AO.op rfl (AOp.extract rfl rfl (ltb rfl) rfl rfl ?_)
      refine AO.op rfl (AOp.assign rfl rfl (ltb rfl) rfl ?_)
      refine AO.op rfl (AOp.assign rfl rfl (ltb rfl) rfl ?_)
      refine AO.objs (obs' := [.fix 24 [.d (.v (.slice none 0 0))], .fix 3 [.d (di .i64 (0 : Int))], .fix 4 [.d (dbool false)], .dead, .fix 71 [.d (eS0 ((a0.drop 0).take (((0 : Int)).toNat - 0))), .d (di .i64 (0 : Int)), .d (di .i8 (0 : Int))], .dead, .frame fr4 [(6, .ptr 0 0), (7, .ptr 1 0), (8, .ptr 2 0), (9, .ptr 4 0)], .dead, .fix 102 (List.map (fun z => SV.d (keS0 z)) [(0 : Int), (0 : Int), (0 : Int), (0 : Int)]), .dead, .dead, .dead, .dead, .dead]) rfl ?_
      refine AO.nil ?_
      change AC _ _ _ _
      refine AC.seq ?_
      refine AC.seq ?_
      refine AC.region ?_
      refine AO.op rfl (AOp.move rfl rfl (ltb rfl) rfl ?_)
      refine AO.op rfl (AOp.errNeq rfl rfl (ltb rfl) rfl (by simp [GlobsP]) imeth57 ?_)
      refine AO.nil ?_
      change AC _ _ _ _
      refine AC.condT rfl rfl ?_
      refine AC.seq ?_
      refine AC.region ?_
      refine AO.op rfl (AOp.move rfl rfl (ltb rfl) rfl ?_)
      refine AO.op rfl (AOp.assign rfl rfl (ltb rfl) rfl ?_)
      refine AO.op rfl (AOp.assign rfl rfl (ltb rfl) rfl ?_)
      refine AO.nil ?_
      change AC _ _ _ _
      refine AC.ret ?_
      refine inlret (ob' := [.fix 24 [.d (.v (.slice none 0 0))], .fix 3 [.d (di .i64 (0 : Int))], .fix 4 [.d (dbool false)], .dead, .fix 71 [.d (eS0 ((a0.drop 0).take (((0 : Int)).toNat - 0))), .d (di .i64 (0 : Int)), .d (di .i8 (0 : Int))], .dead, .dead, .dead, .fix 102 (List.map (fun z => SV.d (keS0 z)) [(0 : Int), (0 : Int), (0 : Int), (0 : Int)]), .dead, .dead, .dead, .dead, .dead]) (e' := [(6, .ptr 0 0), (7, .ptr 1 0), (8, .ptr 2 0), (9, .ptr 4 0)]) (r := .tu [.d (.v (.slice none 0 0)), .d (.v (errV W 5))]) rfl rfl rfl ?_
      change AO _ _ _ _ _
      refine AO.op rfl (AOp.move rfl rfl (ltb rfl) rfl ?_)
      first | refine AO.op rfl (AOp.extractD rfl rfl (ltb rfl) rfl rfl ?_) | refine AO.op rfl (AOp.extract rfl rfl (ltb rfl) rfl rfl ?_)
      first | refine AO.op rfl (AOp.extractD rfl rfl (ltb rfl) rfl rfl ?_) | refine AO.op rfl (AOp.extract rfl rfl (ltb rfl) rfl rfl ?_)
      refine AO.op rfl (AOp.store rfl rfl rfl rfl size24 rfl rfl rfl (leb rfl) ?_)
      refine AO.op rfl (AOp.assign rfl rfl (ltb rfl) rfl ?_)
      refine AO.objs (obs' := [.fix 24 [.d (.v (.slice none 0 0))], .fix 3 [.d (di .i64 (0 : Int))], .fix 4 [.d (dbool false)], .dead, .fix 71 [.d (eS0 ((a0.drop 0).take (((0 : Int)).toNat - 0))), .d (di .i64 (0 : Int)), .d (di .i8 (0 : Int))], .dead, .dead, .dead, .fix 102 (List.map (fun z => SV.d (keS0 z)) [(0 : Int), (0 : Int), (0 : Int), (0 : Int)]), .dead, .dead, .dead, .dead, .dead]) rfl ?_
      refine AO.nil ?_
      change AC _ _ _ _
      refine AC.seq ?_
      refine AC.freezeP (ds := c_TBytes_Buffer (TBytes_Buffer.mk ((a0.drop 0).take (((0 : Int)).toNat - 0)) (0 : Int) (0 : Int))) 9 4 rfl rfl rfl rfl (Nat.zero_le _) ?_
      obtain ⟨y13, q14, h0⟩ := bind_elim h0
      refine AC.drawS [0, 1, 2, 3, 4, 5, 6] [5, 6] [7] (fun L => [.fix 24 [.d (.v (.slice none 0 0))], .fix 3 [(bif L 6 then .d (di .i64 y13) else .d (di .i64 (0 : Int)))], .fix 4 [.d (dbool false)], .dead, .dead, .dead, .dead, .dead, .fix 102 (List.map (fun z => SV.d (keS0 z)) [(0 : Int), (0 : Int), (0 : Int), (0 : Int)]), .dead, .dead, .dead, .dead, .dead]) [(5, (fun _ => true)), (6, (fun _ => true))] mixed (by kernel_rfl) (fun L L' h => by simp only [h 5 (by decide), h 6 (by decide)]) rfl ?_
      refine AS.op [6] [] [5, 6] [] rfl rfl rfl (by kernel_rfl) (by kernel_rfl) rfl rfl (fun _ _ _ h => AOp.load1 rfl rfl (ltb rfl) rfl agg24 rfl rfl h) (by kernel_rfl) ?_
      refine AS.op [9] [] [5, 6] [] rfl rfl rfl (by kernel_rfl) (by kernel_rfl) rfl rfl (fun _ _ _ h => AOp.move rfl rfl (ltb rfl) rfl h) (by kernel_rfl) ?_
      refine AS.op [24] [] [5, 6] [] rfl rfl rfl (by kernel_rfl) (by kernel_rfl) rfl rfl (fun _ _ _ h => AOp.callD rfl rfl (ltb rfl) rfl rfl (w_Buffer_Len (TBytes_Buffer.mk ((a0.drop 0).take (((0 : Int)).toNat - 0)) (0 : Int) (0 : Int)) y13 q14) (by rintro _ rfl; exact h)) (by kernel_rfl) ?_
      refine AS.op [10] [] [] [5, 6] rfl rfl rfl (by kernel_rfl) (by kernel_rfl) rfl rfl (fun _ _ _ h => AOp.move rfl rfl (ltb rfl) rfl h) (by kernel_rfl) ?_
      refine AS.op [26] [] [] [5, 6] rfl rfl rfl (by kernel_rfl) (by kernel_rfl) rfl rfl (fun _ _ _ h => AOp.errEql rfl rfl (ltb rfl) rfl (by simp [GlobsP]) imeth57 h) (by kernel_rfl) ?_
      refine AS.mid0 [6, 23] [] [6, 5] [] rfl rfl rfl rfl (by kernel_rfl) (by kernel_rfl) rfl rfl (fun _ _ _ h => AOp.store rfl rfl rfl rfl size24 rfl rfl rfl (leb rfl) (AO.dropT h)) (by kernel_rfl) rfl ?_
      refine AS.mid0 [7, 25] [5] [6] [] rfl rfl rfl rfl (by kernel_rfl) (by kernel_rfl) rfl rfl (fun _ _ _ h => AOp.store rfl rfl rfl rfl size3 rfl rfl rfl (leb rfl) (AO.dropT h)) (by kernel_rfl) rfl ?_
      refine AS.done ?_
      refine AO.objs (obs' := [.fix 24 [.d (.v (.slice none 0 0))], .fix 3 [.d (di .i64 y13)], .fix 4 [.d (dbool false)], .dead, .dead, .dead, .dead, .dead, .fix 102 (List.map (fun z => SV.d (keS0 z)) [(0 : Int), (0 : Int), (0 : Int), (0 : Int)]), .dead, .dead, .dead, .dead, .dead]) rfl ?_
      refine AO.op rfl (AOp.store rfl rfl rfl rfl size4 rfl rfl rfl (leb rfl) ?_)
      refine AO.nil ?_
      change AC _ _ _ _
      refine AC.subO 0 rfl (.cons (SVLe.nil 1) .nil) ?_
      refine AC.ret ?_
      change RetQ _ _ _ .ret _
      obtain rfl := Option.some.inj h0
      refine retq rfl rfl
    replace h0 := cF h0 q10
    refine AC.skip ?_
    change AC _ _ _ _
    refine AC.seq ?_
    refine AC.draw 10 mixed (by kernel_rfl) ?_
    refine AD.op [1] rfl (by kernel_rfl) rfl rfl (fun _ _ h => AOp.move rfl rfl (ltb rfl) rfl h) ?_
    refine AD.op [0] rfl (by kernel_rfl) rfl rfl (fun _ _ h => AOp.move rfl rfl (ltb rfl) rfl h) ?_
    refine AD.op [18] rfl (by kernel_rfl) rfl rfl (fun _ _ h => AOp.nilCheck rfl rfl (ltb rfl) rfl rfl h) ?_
    refine AD.op [19] rfl (by kernel_rfl) rfl rfl (fun _ _ h => AOp.fieldAddr rfl rfl (ltb rfl) rfl fo71_0 h) ?_
    refine AD.op [20] rfl (by kernel_rfl) rfl rfl (fun _ _ h => AOp.load1 rfl rfl (ltb rfl) rfl agg22 rfl rfl h) ?_
    refine AD.op [0] rfl (by kernel_rfl) rfl rfl (fun _ _ h => AOp.move rfl rfl (ltb rfl) rfl h) ?_
    refine AD.op [22] rfl (by kernel_rfl) rfl rfl (fun _ _ h => AOp.nilCheck rfl rfl (ltb rfl) rfl rfl h) ?_
    refine AD.op [23] rfl (by kernel_rfl) rfl rfl (fun _ _ h => AOp.fieldAddr rfl rfl (ltb rfl) rfl fo71_1 h) ?_
    refine AD.op [24] rfl (by kernel_rfl) rfl rfl (fun _ _ h => AOp.load1 rfl rfl (ltb rfl) rfl agg3 rfl rfl h) ?_
    obtain ⟨q15, h0⟩ := need_elim h0
    refine AD.op [21, 25] rfl (by kernel_rfl) rfl rfl (fun _ _ h => AOp.sliceD (cells := (List.map keS0 a0)) (n := a0.length) (l := ((0 : Int)).toNat) (hh := a0.length) rfl rfl (ltb rfl) rfl (.inr ⟨_, _, _, rfl, rfl, q15.1.1, rfl⟩) (.inl ⟨rfl, rfl⟩) el22 (by decide) (len1 _ _) q15.2.1 q15.2.2 (sub1 _ _ _ _) h) ?_
    refine AD.done ?_
    obtain ⟨q16, h0⟩ := need_elim h0
    obtain ⟨m17, q18, h0⟩ := bind_elim h0
    obtain ⟨c19, q20, h0⟩ := bind_elim h0
    refine AO.op rfl (AOp.copyL2 (k := keS0) (l := [(0 : Int), (0 : Int), (0 : Int), (0 : Int)]) (l2 := ((a0.drop ((0 : Int)).toNat).take (a0.length - ((0 : Int)).toNat))) (m := m17) rfl rfl (ltb rfl) rfl rfl el22 rfl q16 (fun _ => rfl) ((Option.some.inj q18).symm) (Option.some.inj q20) ?_)
    refine AO.op rfl (AOp.assign rfl rfl (ltb rfl) rfl ?_)
    refine AO.nil ?_
    change AC _ _ _ _
    refine AC.seq ?_
    refine AC.region ?_
    refine AO.op rfl (AOp.move rfl rfl (ltb rfl) rfl ?_)
    refine AO.op rfl (AOp.nilCheck rfl rfl (ltb rfl) rfl rfl ?_)
    refine AO.op rfl (AOp.fieldAddr rfl rfl (ltb rfl) rfl fo71_1 ?_)
    refine AO.op rfl (AOp.load1 rfl rfl (ltb rfl) rfl agg3 rfl rfl ?_)
    refine AO.op rfl (AOp.move rfl rfl (ltb rfl) rfl ?_)
    obtain ⟨q21, h0⟩ := need_elim h0
    refine AO.op rfl (AOp.iadd rfl rfl (ltb rfl) rfl rfl (Int.zero_add _) q21.1 q21.2 ?_)
    refine AO.op rfl (AOp.nilCheck rfl rfl (ltb rfl) rfl rfl ?_)
    refine AO.op rfl (AOp.fieldAddr rfl rfl (ltb rfl) rfl fo71_1 ?_)
    refine AO.op rfl (AOp.store rfl rfl rfl rfl size3 rfl rfl rfl (leb rfl) ?_)
    refine AO.nil ?_
    change AC _ _ _ _
    refine AC.joinP (V := Int) [4] [] 13 (fun g22 => []) (fun g22 => [.fix 24 [.d (.v (.slice none 0 0))], .fix 3 [.d (di .i64 (0 : Int))], .fix 4 [.d (dbool false)], .dead, .fix 71 [.d (eS0 a0), .d (di .i64 ((m17 : Nat) : Int)), .d (di .i8 g22)], .dead, .frame fr4 [(6, .ptr 0 0), (7, .ptr 1 0), (8, .ptr 2 0), (9, .ptr 4 0)], .frame fr5 [(0, .ifc 54 (.ptr 4 0)), (1, .ifc 94 (.ag [])), (2, .d (di .i64 a2))], .fix 102 (List.map (fun z => SV.d (keS0 z)) c19), .frame fr6 [(1, .ifc 94 (.ag [])), (6, .ptr 8 0)], .frame fr7 [(4, .d (di .i64 (0 : Int))), (5, .d (.v (.nilIface)))], .frame fr8 [(0, .ifc 54 (.ptr 4 0)), (1, .sl 8 1 0 4 4), (2, .d (di .i64 (4 : Int))), (6, .d (di .i64 (0 : Int))), (7, .d (.v (.nilIface))), (8, .d (di .i64 (0 : Int)))], .dead]) (fun g22 => (p_ReadFlat1_k1 a0 a2 F m17 c19) g22 = some r0) rfl ?_ ?_
    · refine AC.seq ?_
      refine AC.region ?_
      refine AO.op rfl (AOp.move rfl rfl (ltb rfl) rfl ?_)
      refine AO.op rfl (AOp.igtr rfl rfl (ltb rfl) rfl rfl ?_)
      refine AO.nil ?_
      change AC _ _ _ _
      refine AC.cond rfl (fun q136 => ?_) (fun q136 => ?_)
      · replace h0 := cT h0 q136
        refine AC.region ?_
        refine AO.op rfl (AOp.move rfl rfl (ltb rfl) rfl ?_)
        refine AO.op rfl (AOp.nilCheck rfl rfl (ltb rfl) rfl rfl ?_)
        refine AO.op rfl (AOp.fieldAddr rfl rfl (ltb rfl) rfl fo71_2 ?_)
        refine AO.op rfl (AOp.store rfl rfl rfl rfl size69 rfl rfl rfl (leb rfl) ?_)
        refine AO.nil ?_
        exact ⟨(-1 : Int), _, rfl, (LeL.refl _), rfl, (okU_mk rfl (okU_cons rfl (okU_cons rfl (okU_cons rfl (okU_cons rfl (okU_cons rfl (okU_cons rfl (okU_cons rfl (okU_cons rfl (okU_cons (okU_fixl (fun _ => rfl)) (okU_cons rfl (okU_cons rfl (okU_cons rfl (okU_cons rfl okU_nil)))))))))))))), h0⟩
      replace h0 := cF h0 q136
      refine AC.skip ?_
      exact ⟨(0 : Int), _, rfl, (LeL.refl _), rfl, (okU_mk rfl (okU_cons rfl (okU_cons rfl (okU_cons rfl (okU_cons rfl (okU_cons rfl (okU_cons rfl (okU_cons rfl (okU_cons rfl (okU_cons (okU_fixl (fun _ => rfl)) (okU_cons rfl (okU_cons rfl (okU_cons rfl (okU_cons rfl okU_nil)))))))))))))), h0⟩
    intro g22 h0
    unfold p_ReadFlat1_k1 at h0
    refine AC.seq ?_
    refine AC.region ?_
    refine AO.op rfl (AOp.move rfl rfl (ltb rfl) rfl ?_)
    refine AO.op rfl (AOp.assign rfl rfl (ltb rfl) rfl ?_)
    refine AO.op rfl (AOp.assign rfl rfl (ltb rfl) rfl ?_)
    refine AO.nil ?_
    change AC _ _ _ _
    refine AC.ret ?_
    refine inlret (ob' := [.fix 24 [.d (.v (.slice none 0 0))], .fix 3 [.d (di .i64 (0 : Int))], .fix 4 [.d (dbool false)], .dead, .fix 71 [.d (eS0 a0), .d (di .i64 ((m17 : Nat) : Int)), .d (di .i8 g22)], .dead, .frame fr4 [(6, .ptr 0 0), (7, .ptr 1 0), (8, .ptr 2 0), (9, .ptr 4 0)], .frame fr5 [(0, .ifc 54 (.ptr 4 0)), (1, .ifc 94 (.ag [])), (2, .d (di .i64 a2))], .fix 102 (List.map (fun z => SV.d (keS0 z)) c19), .frame fr6 [(1, .ifc 94 (.ag [])), (6, .ptr 8 0)], .frame fr7 [(4, .d (di .i64 (0 : Int))), (5, .d (.v (.nilIface)))], .dead, .dead]) (e' := [(0, .ifc 54 (.ptr 4 0)), (1, .sl 8 1 0 4 4), (2, .d (di .i64 (4 : Int))), (6, .d (di .i64 (0 : Int))), (7, .d (.v (.nilIface))), (8, .d (di .i64 (0 : Int)))]) (r := .tu [.d (di .i64 ((m17 : Nat) : Int)), .d (.v (.nilIface))]) rfl rfl rfl ?_
    change AO _ _ _ _ _
    refine AO.objs (obs' := [.fix 24 [.d (.v (.slice none 0 0))], .fix 3 [.d (di .i64 (0 : Int))], .fix 4 [.d (dbool false)], .dead, .fix 71 [.d (eS0 a0), .d (di .i64 ((m17 : Nat) : Int)), .d (di .i8 g22)], .dead, .frame fr4 [(6, .ptr 0 0), (7, .ptr 1 0), (8, .ptr 2 0), (9, .ptr 4 0)], .frame fr5 [(0, .ifc 54 (.ptr 4 0)), (1, .ifc 94 (.ag [])), (2, .d (di .i64 a2))], .fix 102 (List.map (fun z => SV.d (keS0 z)) c19), .frame fr6 [(1, .ifc 94 (.ag [])), (6, .ptr 8 0)], .frame fr7 [(4, .d (di .i64 (0 : Int))), (5, .d (.v (.nilIface)))], .dead, .dead]) rfl ?_
    refine AO.nil ?_
    change AD _ _ _ _ _
    refine AD.op [29] rfl (by kernel_rfl) rfl rfl (fun _ _ h => AOp.move rfl rfl (ltb rfl) rfl h) ?_
    first | refine AD.op [21] rfl (by kernel_rfl) rfl rfl (fun _ _ h => AOp.extractD rfl rfl (ltb rfl) rfl rfl h) ?_ | refine AD.op [21] rfl (by kernel_rfl) rfl rfl (fun _ _ h => AOp.extract rfl rfl (ltb rfl) rfl rfl h) ?_
    first | refine AD.op [21] rfl (by kernel_rfl) rfl rfl (fun _ _ h => AOp.extractD rfl rfl (ltb rfl) rfl rfl h) ?_ | refine AD.op [21] rfl (by kernel_rfl) rfl rfl (fun _ _ h => AOp.extract rfl rfl (ltb rfl) rfl rfl h) ?_
    refine AD.op [30] rfl (by kernel_rfl) rfl rfl (fun _ _ h => AOp.assign rfl rfl (ltb rfl) rfl h) ?_
    refine AD.op [31] rfl (by kernel_rfl) rfl rfl (fun _ _ h => AOp.assign rfl rfl (ltb rfl) rfl h) ?_
    refine AD.done ?_
    refine AO.nil ?_
    change AC _ _ _ _
    refine AC.region ?_
    refine AO.op rfl (AOp.move rfl rfl (ltb rfl) rfl ?_)
    refine AO.op rfl (AOp.move rfl rfl (ltb rfl) rfl ?_)
    obtain ⟨q23, h0⟩ := need_elim h0
    refine AO.op rfl (AOp.iadd rfl rfl (ltb rfl) rfl rfl (Int.zero_add _) q23.1 q23.2 ?_)
    refine AO.op rfl (AOp.assign rfl rfl (ltb rfl) rfl ?_)
    refine AO.nil ?_
    change ACL _ _ _ _
    refine ACL.round ?_
    refine AC.seq ?_
    refine AC.seq ?_
    refine AC.region ?_
    refine AO.op rfl (AOp.move rfl rfl (ltb rfl) rfl ?_)
    refine AO.op rfl (AOp.move rfl rfl (ltb rfl) rfl ?_)
    refine AO.op rfl (AOp.ilss rfl rfl (ltb rfl) rfl rfl ?_)
    refine AO.op rfl (AOp.move rfl rfl (ltb rfl) rfl ?_)
    refine AO.dec (decide (((m17 : Nat) : Int) < (4 : Int))) (fun q24 => ?_) (fun q24 => ?_)
    · replace h0 := cT h0 q24
      refine AO.guardY rfl rfl rfl q24 (AOp.move rfl rfl (ltb rfl) rfl ?_)
      refine AO.guardY rfl rfl rfl q24 (AOp.nilEq rfl rfl (ltb rfl) rfl imeth57 ?_)
      refine AO.op rfl (AOp.pick rfl rfl (ltb rfl) rfl q24 rfl ?_)
      refine AO.nil ?_
      change AC _ _ _ _
      refine AC.condT rfl rfl ?_
      refine AC.skip ?_
      change AC _ _ _ _
      refine AC.block ?_
      refine AC.seq ?_
      refine AC.region ?_
      refine AO.op rfl (AOp.assign rfl rfl (ltb rfl) rfl ?_)
      refine AO.nil ?_
      change AC _ _ _ _
      refine AC.seq ?_
      refine AC.drawC 7 mixed (by kernel_rfl) rfl ?_
      refine AD.op [0] rfl (by kernel_rfl) rfl rfl (fun _ _ h => AOp.move rfl rfl (ltb rfl) rfl h) ?_
      refine AD.op [1] rfl (by kernel_rfl) rfl rfl (fun _ _ h => AOp.move rfl rfl (ltb rfl) rfl h) ?_
      refine AD.op [6] rfl (by kernel_rfl) rfl rfl (fun _ _ h => AOp.move rfl rfl (ltb rfl) rfl h) ?_
      obtain ⟨q25, h0⟩ := need_elim h0
      refine AD.op [23, 24] rfl (by kernel_rfl) rfl rfl (fun _ _ h => AOp.sliceSl (cap := 4) rfl rfl (ltb rfl) rfl rfl el22 q25.1 q25.2 h) ?_
      refine AD.op [22] rfl (by kernel_rfl) rfl rfl (fun _ _ h => AOp.makeMeth rfl rfl (ltb rfl) rfl h) ?_
      refine AD.op [26] rfl (by kernel_rfl) rfl rfl (fun _ _ h => AOp.nilMeth rfl rfl (ltb rfl) rfl rfl nilm54_Read h) ?_
      refine AD.op [22] rfl (by kernel_rfl) rfl rfl (fun _ _ h => AOp.move rfl rfl (ltb rfl) rfl h) ?_
      refine AD.done ?_
      refine AO.op rfl (AOp.inlE [0, 1, 2, 6, 7, 8, 21, 29, 30, 31] (EntersS.meth (by kernel_rfl) rfl rfl rfl meth54_Read rfl rfl) Tryd.func71 rfl Tryd.ntmps71 rfl (ltb rfl) (leb rfl) rfl ?_)
      intro fr26
      refine AC.seq ?_
      refine AC.region ?_
      refine AO.op rfl (AOp.assign rfl rfl (ltb rfl) rfl ?_)
      refine AO.op rfl (AOp.assign rfl rfl (ltb rfl) rfl ?_)
      refine AO.objs (obs' := [.fix 24 [.d (.v (.slice none 0 0))], .fix 3 [.d (di .i64 (0 : Int))], .fix 4 [.d (dbool false)], .dead, .fix 71 [.d (eS0 a0), .d (di .i64 ((m17 : Nat) : Int)), .d (di .i8 g22)], .dead, .frame fr4 [(6, .ptr 0 0), (7, .ptr 1 0), (8, .ptr 2 0), (9, .ptr 4 0)], .frame fr5 [(0, .ifc 54 (.ptr 4 0)), (1, .ifc 94 (.ag [])), (2, .d (di .i64 a2))], .fix 102 (List.map (fun z => SV.d (keS0 z)) c19), .frame fr6 [(1, .ifc 94 (.ag [])), (6, .ptr 8 0)], .frame fr7 [(4, .d (di .i64 (0 : Int))), (5, .d (.v (.nilIface)))], .dead, .dead, .frame fr26 [(0, .ifc 54 (.ptr 4 0)), (1, .sl 8 1 0 4 4), (2, .d (di .i64 (4 : Int))), (6, .d (di .i64 ((m17 : Nat) : Int))), (7, .d (.v (.nilIface))), (8, .d (di .i64 (0 : Int))), (21, .tu [.d (di .i64 ((m17 : Nat) : Int)), .d (.v (.nilIface))]), (29, .tu [.d (di .i64 ((m17 : Nat) : Int)), .d (.v (.nilIface))]), (30, .d (di .i64 ((m17 : Nat) : Int))), (31, .d (.v (.nilIface)))]]) rfl ?_
      refine AO.nil ?_
      change AC _ _ _ _
      refine AC.seq ?_
      refine AC.region ?_
      refine AO.op rfl (AOp.move rfl rfl (ltb rfl) rfl ?_)
      refine AO.op rfl (AOp.nilCheck rfl rfl (ltb rfl) rfl rfl ?_)
      refine AO.op rfl (AOp.fieldAddr rfl rfl (ltb rfl) rfl fo71_2 ?_)
      refine AO.op rfl (AOp.store rfl rfl rfl rfl size69 rfl rfl rfl (leb rfl) ?_)
      refine AO.nil ?_
      change AC _ _ _ _
      refine AC.seq ?_
      refine AC.seq ?_
      refine AC.region ?_
      refine AO.op rfl (AOp.move rfl rfl (ltb rfl) rfl ?_)
      refine AO.op rfl (AOp.inl [0, 1] (by kernel_rfl) Tryd.func75 rfl Tryd.ntmps75 rfl rfl (ltb rfl) rfl (leb rfl) rfl ?_)
      intro fr27
      refine AC.seq ?_
      refine AC.region ?_
      refine AO.op rfl (AOp.assign rfl rfl (ltb rfl) rfl ?_)
      refine AO.objs (obs' := [.fix 24 [.d (.v (.slice none 0 0))], .fix 3 [.d (di .i64 (0 : Int))], .fix 4 [.d (dbool false)], .dead, .fix 71 [.d (eS0 a0), .d (di .i64 ((m17 : Nat) : Int)), .d (di .i8 (0 : Int))], .dead, .frame fr4 [(6, .ptr 0 0), (7, .ptr 1 0), (8, .ptr 2 0), (9, .ptr 4 0)], .frame fr5 [(0, .ifc 54 (.ptr 4 0)), (1, .ifc 94 (.ag [])), (2, .d (di .i64 a2))], .fix 102 (List.map (fun z => SV.d (keS0 z)) c19), .frame fr6 [(1, .ifc 94 (.ag [])), (6, .ptr 8 0)], .frame fr7 [(4, .d (di .i64 (0 : Int))), (5, .d (.v (.nilIface)))], .dead, .dead, .frame fr26 [(0, .ifc 54 (.ptr 4 0)), (1, .sl 8 1 0 4 4), (2, .d (di .i64 (4 : Int))), (6, .d (di .i64 ((m17 : Nat) : Int))), (7, .d (.v (.nilIface))), (8, .d (di .i64 (0 : Int))), (21, .tu [.d (di .i64 ((m17 : Nat) : Int)), .d (.v (.nilIface))]), (29, .tu [.d (di .i64 ((m17 : Nat) : Int)), .d (.v (.nilIface))]), (30, .d (di .i64 ((m17 : Nat) : Int))), (31, .d (.v (.nilIface)))], .frame fr27 [(0, .ptr 4 0), (1, .sl 8 1 (if 4 = (((m17 : Nat) : Int)).toNat then 0 else 0 + (((m17 : Nat) : Int)).toNat * 1) (4 - (((m17 : Nat) : Int)).toNat) (4 - (((m17 : Nat) : Int)).toNat))]]) rfl ?_
      refine AO.nil ?_
      change AC _ _ _ _
      refine AC.seq ?_
      refine AC.draw 11 mixed (by kernel_rfl) ?_
      refine AD.op [0] rfl (by kernel_rfl) rfl rfl (fun _ _ h => AOp.move rfl rfl (ltb rfl) rfl h) ?_
      refine AD.op [3] rfl (by kernel_rfl) rfl rfl (fun _ _ h => AOp.nilCheck rfl rfl (ltb rfl) rfl rfl h) ?_
      refine AD.op [4] rfl (by kernel_rfl) rfl rfl (fun _ _ h => AOp.fieldAddr rfl rfl (ltb rfl) rfl fo71_0 h) ?_
      refine AD.op [5] rfl (by kernel_rfl) rfl rfl (fun _ _ h => AOp.load1 rfl rfl (ltb rfl) rfl agg22 rfl rfl h) ?_
      refine AD.op [6] rfl (by kernel_rfl) rfl rfl (fun _ _ h => AOp.lenDs (n := a0.length) (cells := (List.map keS0 a0)) rfl rfl (ltb rfl) rfl el22 (by decide) (len1 _ _) h) ?_
      refine AD.op [0] rfl (by kernel_rfl) rfl rfl (fun _ _ h => AOp.move rfl rfl (ltb rfl) rfl h) ?_
      refine AD.op [8] rfl (by kernel_rfl) rfl rfl (fun _ _ h => AOp.nilCheck rfl rfl (ltb rfl) rfl rfl h) ?_
      refine AD.op [9] rfl (by kernel_rfl) rfl rfl (fun _ _ h => AOp.fieldAddr rfl rfl (ltb rfl) rfl fo71_1 h) ?_
      refine AD.op [10] rfl (by kernel_rfl) rfl rfl (fun _ _ h => AOp.load1 rfl rfl (ltb rfl) rfl agg3 rfl rfl h) ?_
      refine AD.op [7, 11] rfl (by kernel_rfl) rfl rfl (fun _ _ h => AOp.ileq rfl rfl (ltb rfl) rfl rfl h) ?_
      refine AD.op [12] rfl (by kernel_rfl) rfl rfl (fun _ _ h => AOp.assign rfl rfl (ltb rfl) rfl h) ?_
      refine AD.done ?_
      refine AO.nil ?_
      change AC _ _ _ _
      refine AC.ret ?_
      refine inlret (ob' := [.fix 24 [.d (.v (.slice none 0 0))], .fix 3 [.d (di .i64 (0 : Int))], .fix 4 [.d (dbool false)], .dead, .fix 71 [.d (eS0 a0), .d (di .i64 ((m17 : Nat) : Int)), .d (di .i8 (0 : Int))], .dead, .frame fr4 [(6, .ptr 0 0), (7, .ptr 1 0), (8, .ptr 2 0), (9, .ptr 4 0)], .frame fr5 [(0, .ifc 54 (.ptr 4 0)), (1, .ifc 94 (.ag [])), (2, .d (di .i64 a2))], .fix 102 (List.map (fun z => SV.d (keS0 z)) c19), .frame fr6 [(1, .ifc 94 (.ag [])), (6, .ptr 8 0)], .frame fr7 [(4, .d (di .i64 (0 : Int))), (5, .d (.v (.nilIface)))], .dead, .dead, .frame fr26 [(0, .ifc 54 (.ptr 4 0)), (1, .sl 8 1 0 4 4), (2, .d (di .i64 (4 : Int))), (6, .d (di .i64 ((m17 : Nat) : Int))), (7, .d (.v (.nilIface))), (8, .d (di .i64 (0 : Int))), (21, .tu [.d (di .i64 ((m17 : Nat) : Int)), .d (.v (.nilIface))]), (29, .tu [.d (di .i64 ((m17 : Nat) : Int)), .d (.v (.nilIface))]), (30, .d (di .i64 ((m17 : Nat) : Int))), (31, .d (.v (.nilIface)))], .dead]) (e' := [(0, .ptr 4 0), (1, .sl 8 1 (if 4 = (((m17 : Nat) : Int)).toNat then 0 else 0 + (((m17 : Nat) : Int)).toNat * 1) (4 - (((m17 : Nat) : Int)).toNat) (4 - (((m17 : Nat) : Int)).toNat))]) (r := .d (dbool (decide (((a0.length : Nat) : Int) ≤ ((m17 : Nat) : Int))))) rfl rfl rfl ?_
      change AO _ _ _ _ _
      refine AO.objs (obs' := [.fix 24 [.d (.v (.slice none 0 0))], .fix 3 [.d (di .i64 (0 : Int))], .fix 4 [.d (dbool false)], .dead, .fix 71 [.d (eS0 a0), .d (di .i64 ((m17 : Nat) : Int)), .d (di .i8 (0 : Int))], .dead, .frame fr4 [(6, .ptr 0 0), (7, .ptr 1 0), (8, .ptr 2 0), (9, .ptr 4 0)], .frame fr5 [(0, .ifc 54 (.ptr 4 0)), (1, .ifc 94 (.ag [])), (2, .d (di .i64 a2))], .fix 102 (List.map (fun z => SV.d (keS0 z)) c19), .frame fr6 [(1, .ifc 94 (.ag [])), (6, .ptr 8 0)], .frame fr7 [(4, .d (di .i64 (0 : Int))), (5, .d (.v (.nilIface)))], .dead, .dead, .frame fr26 [(0, .ifc 54 (.ptr 4 0)), (1, .sl 8 1 0 4 4), (2, .d (di .i64 (4 : Int))), (6, .d (di .i64 ((m17 : Nat) : Int))), (7, .d (.v (.nilIface))), (8, .d (di .i64 (0 : Int))), (21, .tu [.d (di .i64 ((m17 : Nat) : Int)), .d (.v (.nilIface))]), (29, .tu [.d (di .i64 ((m17 : Nat) : Int)), .d (.v (.nilIface))]), (30, .d (di .i64 ((m17 : Nat) : Int))), (31, .d (.v (.nilIface)))], .dead]) rfl ?_
      refine AO.nil ?_
      change AC _ _ _ _
      refine AC.cond rfl (fun q28 => ?_) (fun q28 => ?_)
      · replace h0 := cT h0 q28
        refine AC.seq ?_
        refine AC.region ?_
        refine AO.op rfl (AOp.move rfl rfl (ltb rfl) rfl ?_)
        refine AO.op rfl (AOp.inl [1] (by kernel_rfl) Tryd.func72 rfl Tryd.ntmps72 rfl rfl (ltb rfl) rfl (leb rfl) rfl ?_)
        intro fr29
        refine AC.seq ?_
        refine AC.region ?_
        refine AO.op rfl (AOp.move rfl rfl (ltb rfl) rfl ?_)
        refine AO.op rfl (AOp.move rfl rfl (ltb rfl) rfl ?_)
        refine AO.op rfl (AOp.nilCheck rfl rfl (ltb rfl) rfl rfl ?_)
        refine AO.op rfl (AOp.fieldAddr rfl rfl (ltb rfl) rfl fo71_0 ?_)
        refine AO.op rfl (AOp.load1 rfl rfl (ltb rfl) rfl agg22 rfl rfl ?_)
        obtain ⟨q30, h0⟩ := need_elim h0
        refine AO.op rfl (AOp.sliceD (cells := (List.map keS0 a0)) (n := a0.length) (l := 0) (hh := ((0 : Int)).toNat) rfl rfl (ltb rfl) rfl (.inl ⟨rfl, rfl⟩) (.inr ⟨_, _, _, rfl, rfl, q30.1.2, rfl⟩) el22 (by decide) (len1 _ _) q30.2.1 q30.2.2 (sub1 _ _ _ _) ?_)
        refine AO.op rfl (AOp.nilCheck rfl rfl (ltb rfl) rfl rfl ?_)
        refine AO.op rfl (AOp.fieldAddr rfl rfl (ltb rfl) rfl fo71_0 ?_)
        refine AO.op rfl (AOp.store rfl rfl rfl rfl size22 rfl rfl rfl (leb rfl) ?_)
        refine AO.objs (obs' := [.fix 24 [.d (.v (.slice none 0 0))], .fix 3 [.d (di .i64 (0 : Int))], .fix 4 [.d (dbool false)], .dead, .fix 71 [.d (eS0 ((a0.drop 0).take (((0 : Int)).toNat - 0))), .d (di .i64 ((m17 : Nat) : Int)), .d (di .i8 (0 : Int))], .dead, .frame fr4 [(6, .ptr 0 0), (7, .ptr 1 0), (8, .ptr 2 0), (9, .ptr 4 0)], .frame fr5 [(0, .ifc 54 (.ptr 4 0)), (1, .ifc 94 (.ag [])), (2, .d (di .i64 a2))], .fix 102 (List.map (fun z => SV.d (keS0 z)) c19), .frame fr6 [(1, .ifc 94 (.ag [])), (6, .ptr 8 0)], .frame fr7 [(4, .d (di .i64 (0 : Int))), (5, .d (.v (.nilIface)))], .dead, .dead, .frame fr26 [(0, .ifc 54 (.ptr 4 0)), (1, .sl 8 1 0 4 4), (2, .d (di .i64 (4 : Int))), (6, .d (di .i64 ((m17 : Nat) : Int))), (7, .d (.v (.nilIface))), (8, .d (di .i64 (0 : Int))), (21, .tu [.d (di .i64 ((m17 : Nat) : Int)), .d (.v (.nilIface))]), (29, .tu [.d (di .i64 ((m17 : Nat) : Int)), .d (.v (.nilIface))]), (30, .d (di .i64 ((m17 : Nat) : Int))), (31, .d (.v (.nilIface)))], .dead, .frame fr29 [(1, .sl 8 1 (if 4 = (((m17 : Nat) : Int)).toNat then 0 else 0 + (((m17 : Nat) : Int)).toNat * 1) (4 - (((m17 : Nat) : Int)).toNat) (4 - (((m17 : Nat) : Int)).toNat))]]) rfl ?_
        refine AO.nil ?_
        change AC _ _ _ _
        refine AC.seq ?_
        refine AC.region ?_
        refine AO.op rfl (AOp.move rfl rfl (ltb rfl) rfl ?_)
        refine AO.op rfl (AOp.nilCheck rfl rfl (ltb rfl) rfl rfl ?_)
        refine AO.op rfl (AOp.fieldAddr rfl rfl (ltb rfl) rfl fo71_1 ?_)
        refine AO.op rfl (AOp.store rfl rfl rfl rfl size3 rfl rfl rfl (leb rfl) ?_)
        refine AO.nil ?_
        change AC _ _ _ _
        refine AC.region ?_
        refine AO.op rfl (AOp.move rfl rfl (ltb rfl) rfl ?_)
        refine AO.op rfl (AOp.nilCheck rfl rfl (ltb rfl) rfl rfl ?_)
        refine AO.op rfl (AOp.fieldAddr rfl rfl (ltb rfl) rfl fo71_2 ?_)
        refine AO.op rfl (AOp.store rfl rfl rfl rfl size69 rfl rfl rfl (leb rfl) ?_)
        refine AO.nil ?_
        refine inlend (ob' := [.fix 24 [.d (.v (.slice none 0 0))], .fix 3 [.d (di .i64 (0 : Int))], .fix 4 [.d (dbool false)], .dead, .fix 71 [.d (eS0 ((a0.drop 0).take (((0 : Int)).toNat - 0))), .d (di .i64 (0 : Int)), .d (di .i8 (0 : Int))], .dead, .frame fr4 [(6, .ptr 0 0), (7, .ptr 1 0), (8, .ptr 2 0), (9, .ptr 4 0)], .frame fr5 [(0, .ifc 54 (.ptr 4 0)), (1, .ifc 94 (.ag [])), (2, .d (di .i64 a2))], .fix 102 (List.map (fun z => SV.d (keS0 z)) c19), .frame fr6 [(1, .ifc 94 (.ag [])), (6, .ptr 8 0)], .frame fr7 [(4, .d (di .i64 (0 : Int))), (5, .d (.v (.nilIface)))], .dead, .dead, .frame fr26 [(0, .ifc 54 (.ptr 4 0)), (1, .sl 8 1 0 4 4), (2, .d (di .i64 (4 : Int))), (6, .d (di .i64 ((m17 : Nat) : Int))), (7, .d (.v (.nilIface))), (8, .d (di .i64 (0 : Int))), (21, .tu [.d (di .i64 ((m17 : Nat) : Int)), .d (.v (.nilIface))]), (29, .tu [.d (di .i64 ((m17 : Nat) : Int)), .d (.v (.nilIface))]), (30, .d (di .i64 ((m17 : Nat) : Int))), (31, .d (.v (.nilIface)))], .dead, .dead]) (e' := [(1, .sl 8 1 (if 4 = (((m17 : Nat) : Int)).toNat then 0 else 0 + (((m17 : Nat) : Int)).toNat * 1) (4 - (((m17 : Nat) : Int)).toNat) (4 - (((m17 : Nat) : Int)).toNat))]) (r := .tu []) rfl rfl rfl ?_
        change AO _ _ _ _ _
        refine AO.objs (obs' := [.fix 24 [.d (.v (.slice none 0 0))], .fix 3 [.d (di .i64 (0 : Int))], .fix 4 [.d (dbool false)], .dead, .fix 71 [.d (eS0 ((a0.drop 0).take (((0 : Int)).toNat - 0))), .d (di .i64 (0 : Int)), .d (di .i8 (0 : Int))], .dead, .frame fr4 [(6, .ptr 0 0), (7, .ptr 1 0), (8, .ptr 2 0), (9, .ptr 4 0)], .frame fr5 [(0, .ifc 54 (.ptr 4 0)), (1, .ifc 94 (.ag [])), (2, .d (di .i64 a2))], .fix 102 (List.map (fun z => SV.d (keS0 z)) c19), .frame fr6 [(1, .ifc 94 (.ag [])), (6, .ptr 8 0)], .frame fr7 [(4, .d (di .i64 (0 : Int))), (5, .d (.v (.nilIface)))], .dead, .dead, .frame fr26 [(0, .ifc 54 (.ptr 4 0)), (1, .sl 8 1 0 4 4), (2, .d (di .i64 (4 : Int))), (6, .d (di .i64 ((m17 : Nat) : Int))), (7, .d (.v (.nilIface))), (8, .d (di .i64 (0 : Int))), (21, .tu [.d (di .i64 ((m17 : Nat) : Int)), .d (.v (.nilIface))]), (29, .tu [.d (di .i64 ((m17 : Nat) : Int)), .d (.v (.nilIface))]), (30, .d (di .i64 ((m17 : Nat) : Int))), (31, .d (.v (.nilIface)))], .dead, .dead]) rfl ?_
        refine AO.nil ?_
        change AC _ _ _ _
        refine AC.seq ?_
        refine AC.seq ?_
        refine AC.region ?_
        refine AO.op rfl (AOp.move rfl rfl (ltb rfl) rfl ?_)
        refine AO.op rfl (AOp.lenSl rfl rfl (ltb rfl) rfl el22 ?_)
        refine AO.op rfl (AOp.ieql rfl rfl (ltb rfl) rfl rfl ?_)
        refine AO.nil ?_
        change AC _ _ _ _
        refine AC.cond rfl (fun q31 => ?_) (fun q31 => ?_)
        · replace h0 := cT h0 q31
          cases h0
        replace h0 := cF h0 q31
        refine AC.skip ?_
        change AC _ _ _ _
        refine AC.seq ?_
        refine AC.draw 3 mixed (by kernel_rfl) ?_
        refine AD.op [] rfl (by kernel_rfl) rfl rfl (fun _ _ h => AOp.loadEV rfl rfl (ltb rfl) rfl agg57 (by simp [GlobsP]) h) ?_
        refine AD.op [] rfl (by kernel_rfl) rfl rfl (fun _ _ h => AOp.assign rfl rfl (ltb rfl) rfl h) ?_
        refine AD.op [16] rfl (by kernel_rfl) rfl rfl (fun _ _ h => AOp.assign rfl rfl (ltb rfl) rfl h) ?_
        refine AD.done ?_
        refine AO.nil ?_
        change AC _ _ _ _
        refine AC.ret ?_
        refine inlret (ob' := [.fix 24 [.d (.v (.slice none 0 0))], .fix 3 [.d (di .i64 (0 : Int))], .fix 4 [.d (dbool false)], .dead, .fix 71 [.d (eS0 ((a0.drop 0).take (((0 : Int)).toNat - 0))), .d (di .i64 (0 : Int)), .d (di .i8 (0 : Int))], .dead, .frame fr4 [(6, .ptr 0 0), (7, .ptr 1 0), (8, .ptr 2 0), (9, .ptr 4 0)], .frame fr5 [(0, .ifc 54 (.ptr 4 0)), (1, .ifc 94 (.ag [])), (2, .d (di .i64 a2))], .fix 102 (List.map (fun z => SV.d (keS0 z)) c19), .frame fr6 [(1, .ifc 94 (.ag [])), (6, .ptr 8 0)], .frame fr7 [(4, .d (di .i64 (0 : Int))), (5, .d (.v (.nilIface)))], .dead, .dead, .dead, .dead, .dead]) (e' := [(0, .ifc 54 (.ptr 4 0)), (1, .sl 8 1 0 4 4), (2, .d (di .i64 (4 : Int))), (6, .d (di .i64 ((m17 : Nat) : Int))), (7, .d (.v (.nilIface))), (8, .d (di .i64 (0 : Int))), (21, .tu [.d (di .i64 ((m17 : Nat) : Int)), .d (.v (.nilIface))]), (29, .tu [.d (di .i64 ((m17 : Nat) : Int)), .d (.v (.nilIface))]), (30, .d (di .i64 ((m17 : Nat) : Int))), (31, .d (.v (.nilIface)))]) (r := .tu [.d (di .i64 (0 : Int)), .d (.v (errV W 5))]) rfl rfl rfl ?_
        change AO _ _ _ _ _
        refine AO.objs (obs' := [.fix 24 [.d (.v (.slice none 0 0))], .fix 3 [.d (di .i64 (0 : Int))], .fix 4 [.d (dbool false)], .dead, .fix 71 [.d (eS0 ((a0.drop 0).take (((0 : Int)).toNat - 0))), .d (di .i64 (0 : Int)), .d (di .i8 (0 : Int))], .dead, .frame fr4 [(6, .ptr 0 0), (7, .ptr 1 0), (8, .ptr 2 0), (9, .ptr 4 0)], .frame fr5 [(0, .ifc 54 (.ptr 4 0)), (1, .ifc 94 (.ag [])), (2, .d (di .i64 a2))], .fix 102 (List.map (fun z => SV.d (keS0 z)) c19), .frame fr6 [(1, .ifc 94 (.ag [])), (6, .ptr 8 0)], .frame fr7 [(4, .d (di .i64 (0 : Int))), (5, .d (.v (.nilIface)))], .dead, .dead, .dead, .dead, .dead]) rfl ?_
        refine AO.nil ?_
        change AD _ _ _ _ _
        refine AD.op [29] rfl (by kernel_rfl) rfl rfl (fun _ _ h => AOp.move rfl rfl (ltb rfl) rfl h) ?_
        first | refine AD.op [21] rfl (by kernel_rfl) rfl rfl (fun _ _ h => AOp.extractD rfl rfl (ltb rfl) rfl rfl h) ?_ | refine AD.op [21] rfl (by kernel_rfl) rfl rfl (fun _ _ h => AOp.extract rfl rfl (ltb rfl) rfl rfl h) ?_
        first | refine AD.op [21] rfl (by kernel_rfl) rfl rfl (fun _ _ h => AOp.extractD rfl rfl (ltb rfl) rfl rfl h) ?_ | refine AD.op [21] rfl (by kernel_rfl) rfl rfl (fun _ _ h => AOp.extract rfl rfl (ltb rfl) rfl rfl h) ?_
        refine AD.op [30] rfl (by kernel_rfl) rfl rfl (fun _ _ h => AOp.assign rfl rfl (ltb rfl) rfl h) ?_
        refine AD.op [31] rfl (by kernel_rfl) rfl rfl (fun _ _ h => AOp.assign rfl rfl (ltb rfl) rfl h) ?_
        refine AD.done ?_
        refine AO.nil ?_
        change AC _ _ _ _
        refine AC.region ?_
        refine AO.op rfl (AOp.move rfl rfl (ltb rfl) rfl ?_)
        refine AO.op rfl (AOp.move rfl rfl (ltb rfl) rfl ?_)
        obtain ⟨q32, h0⟩ := need_elim h0
        refine AO.op rfl (AOp.iadd rfl rfl (ltb rfl) rfl rfl (Int.add_zero _) q32.1 q32.2 ?_)
        refine AO.op rfl (AOp.assign rfl rfl (ltb rfl) rfl ?_)
        refine AO.nil ?_
        change ACL _ _ _ _
        refine ACL.round ?_
        refine AC.seq ?_
        refine AC.seq ?_
        refine AC.region ?_
        refine AO.op rfl (AOp.move rfl rfl (ltb rfl) rfl ?_)
        refine AO.op rfl (AOp.move rfl rfl (ltb rfl) rfl ?_)
        refine AO.op rfl (AOp.ilss rfl rfl (ltb rfl) rfl rfl ?_)
        refine AO.op rfl (AOp.move rfl rfl (ltb rfl) rfl ?_)
        refine AO.guardY rfl rfl rfl q24 (AOp.move rfl rfl (ltb rfl) rfl ?_)
        refine AO.guardY rfl rfl rfl q24 (AOp.errEql rfl rfl (ltb rfl) rfl (by simp [GlobsP]) imeth57 ?_)
        refine AO.op rfl (AOp.pick rfl rfl (ltb rfl) rfl q24 rfl ?_)
        refine AO.nil ?_
        change AC _ _ _ _
        refine AC.condF rfl rfl ?_
        refine AC.exit ?_
        change AC _ _ _ _
        refine AC.seq ?_
        refine AC.seq ?_
        refine AC.region ?_
        refine AO.op rfl (AOp.move rfl rfl (ltb rfl) rfl ?_)
        refine AO.op rfl (AOp.move rfl rfl (ltb rfl) rfl ?_)
        refine AO.op rfl (AOp.igeq rfl rfl (ltb rfl) rfl rfl ?_)
        refine AO.nil ?_
        change AC _ _ _ _
        refine AC.condF rfl (dlt_ge q24) ?_
        refine AC.seq ?_
        refine AC.region ?_
        refine AO.op rfl (AOp.move rfl rfl (ltb rfl) rfl ?_)
        refine AO.op rfl (AOp.igtr rfl rfl (ltb rfl) rfl rfl ?_)
        refine AO.op rfl (AOp.move rfl rfl (ltb rfl) rfl ?_)
        refine AO.dec (decide ((0 : Int) < ((m17 : Nat) : Int))) (fun q33 => ?_) (fun q33 => ?_)
        · replace h0 := cT h0 q33
          refine AO.guardY rfl rfl rfl q33 (AOp.move rfl rfl (ltb rfl) rfl ?_)
          refine AO.guardY rfl rfl rfl q33 (AOp.loadEV rfl rfl (ltb rfl) rfl agg57 (by simp [GlobsP]) ?_)
          refine AO.guardY rfl rfl rfl q33 (AOp.errSame rfl rfl (ltb rfl) rfl rfl (by simp [GlobsP]) cmpE imeth57 ?_)
          refine AO.op rfl (AOp.pick rfl rfl (ltb rfl) rfl q33 rfl ?_)
          refine AO.nil ?_
          change AC _ _ _ _
          refine AC.condT rfl rfl ?_
          refine AC.region ?_
          refine AO.op rfl (AOp.loadEV rfl rfl (ltb rfl) rfl agg57 (by simp [GlobsP]) ?_)
          refine AO.op rfl (AOp.assign rfl rfl (ltb rfl) rfl ?_)
          refine AO.nil ?_
          change AC _ _ _ _
          refine AC.ret ?_
          refine inlret (ob' := [.fix 24 [.d (.v (.slice none 0 0))], .fix 3 [.d (di .i64 (0 : Int))], .fix 4 [.d (dbool false)], .dead, .fix 71 [.d (eS0 ((a0.drop 0).take (((0 : Int)).toNat - 0))), .d (di .i64 (0 : Int)), .d (di .i8 (0 : Int))], .dead, .frame fr4 [(6, .ptr 0 0), (7, .ptr 1 0), (8, .ptr 2 0), (9, .ptr 4 0)], .frame fr5 [(0, .ifc 54 (.ptr 4 0)), (1, .ifc 94 (.ag [])), (2, .d (di .i64 a2))], .fix 102 (List.map (fun z => SV.d (keS0 z)) c19), .frame fr6 [(1, .ifc 94 (.ag [])), (6, .ptr 8 0)], .dead, .dead, .dead, .dead, .dead, .dead]) (e' := [(4, .d (di .i64 (0 : Int))), (5, .d (.v (.nilIface)))]) (r := .tu [.d (di .i64 ((m17 : Nat) : Int)), .d (.v (errV W 6))]) rfl rfl rfl ?_
          change AO _ _ _ _ _
          first | refine AO.op rfl (AOp.extractD rfl rfl (ltb rfl) rfl rfl ?_) | refine AO.op rfl (AOp.extract rfl rfl (ltb rfl) rfl rfl ?_)
          first | refine AO.op rfl (AOp.extractD rfl rfl (ltb rfl) rfl rfl ?_) | refine AO.op rfl (AOp.extract rfl rfl (ltb rfl) rfl rfl ?_)
          refine AO.op rfl (AOp.assign rfl rfl (ltb rfl) rfl ?_)
          refine AO.op rfl (AOp.assign rfl rfl (ltb rfl) rfl ?_)
          refine AO.objs (obs' := [.fix 24 [.d (.v (.slice none 0 0))], .fix 3 [.d (di .i64 (0 : Int))], .fix 4 [.d (dbool false)], .dead, .fix 71 [.d (eS0 ((a0.drop 0).take (((0 : Int)).toNat - 0))), .d (di .i64 (0 : Int)), .d (di .i8 (0 : Int))], .dead, .frame fr4 [(6, .ptr 0 0), (7, .ptr 1 0), (8, .ptr 2 0), (9, .ptr 4 0)], .frame fr5 [(0, .ifc 54 (.ptr 4 0)), (1, .ifc 94 (.ag [])), (2, .d (di .i64 a2))], .fix 102 (List.map (fun z => SV.d (keS0 z)) c19), .frame fr6 [(1, .ifc 94 (.ag [])), (6, .ptr 8 0)], .dead, .dead, .dead, .dead, .dead, .dead]) rfl ?_
          refine AO.nil ?_
          change AC _ _ _ _
          refine AC.ret ?_
          refine inlret (ob' := [.fix 24 [.d (.v (.slice none 0 0))], .fix 3 [.d (di .i64 (0 : Int))], .fix 4 [.d (dbool false)], .dead, .fix 71 [.d (eS0 ((a0.drop 0).take (((0 : Int)).toNat - 0))), .d (di .i64 (0 : Int)), .d (di .i8 (0 : Int))], .dead, .frame fr4 [(6, .ptr 0 0), (7, .ptr 1 0), (8, .ptr 2 0), (9, .ptr 4 0)], .frame fr5 [(0, .ifc 54 (.ptr 4 0)), (1, .ifc 94 (.ag [])), (2, .d (di .i64 a2))], .fix 102 (List.map (fun z => SV.d (keS0 z)) c19), .dead, .dead, .dead, .dead, .dead, .dead, .dead]) (e' := [(1, .ifc 94 (.ag [])), (6, .ptr 8 0)]) (r := .tu [.d (di .i64 ((m17 : Nat) : Int)), .d (.v (errV W 6))]) rfl rfl rfl ?_
          change AO _ _ _ _ _
          refine AO.op rfl (AOp.move rfl rfl (ltb rfl) rfl ?_)
          first | refine AO.op rfl (AOp.extractD rfl rfl (ltb rfl) rfl rfl ?_) | refine AO.op rfl (AOp.extract rfl rfl (ltb rfl) rfl rfl ?_)
          first | refine AO.op rfl (AOp.extractD rfl rfl (ltb rfl) rfl rfl ?_) | refine AO.op rfl (AOp.extract rfl rfl (ltb rfl) rfl rfl ?_)
          refine AO.op rfl (AOp.assign rfl rfl (ltb rfl) rfl ?_)
          refine AO.op rfl (AOp.assign rfl rfl (ltb rfl) rfl ?_)
          refine AO.objs (obs' := [.fix 24 [.d (.v (.slice none 0 0))], .fix 3 [.d (di .i64 (0 : Int))], .fix 4 [.d (dbool false)], .dead, .fix 71 [.d (eS0 ((a0.drop 0).take (((0 : Int)).toNat - 0))), .d (di .i64 (0 : Int)), .d (di .i8 (0 : Int))], .dead, .frame fr4 [(6, .ptr 0 0), (7, .ptr 1 0), (8, .ptr 2 0), (9, .ptr 4 0)], .frame fr5 [(0, .ifc 54 (.ptr 4 0)), (1, .ifc 94 (.ag [])), (2, .d (di .i64 a2))], .fix 102 (List.map (fun z => SV.d (keS0 z)) c19), .dead, .dead, .dead, .dead, .dead, .dead, .dead]) rfl ?_
          refine AO.nil ?_
          change AC _ _ _ _
          refine AC.seq ?_
          refine AC.region ?_
          refine AO.op rfl (AOp.move rfl rfl (ltb rfl) rfl ?_)
          refine AO.op rfl (AOp.errNeq rfl rfl (ltb rfl) rfl (by simp [GlobsP]) imeth57 ?_)
          refine AO.nil ?_
          change AC _ _ _ _
          refine AC.condT rfl rfl ?_
          refine AC.seq ?_
          refine AC.region ?_
          refine AO.op rfl (AOp.move rfl rfl (ltb rfl) rfl ?_)
          refine AO.op rfl (AOp.assign rfl rfl (ltb rfl) rfl ?_)
          refine AO.op rfl (AOp.assign rfl rfl (ltb rfl) rfl ?_)
          refine AO.nil ?_
          change AC _ _ _ _
          refine AC.ret ?_
          refine inlret (ob' := [.fix 24 [.d (.v (.slice none 0 0))], .fix 3 [.d (di .i64 (0 : Int))], .fix 4 [.d (dbool false)], .dead, .fix 71 [.d (eS0 ((a0.drop 0).take (((0 : Int)).toNat - 0))), .d (di .i64 (0 : Int)), .d (di .i8 (0 : Int))], .dead, .frame fr4 [(6, .ptr 0 0), (7, .ptr 1 0), (8, .ptr 2 0), (9, .ptr 4 0)], .dead, .fix 102 (List.map (fun z => SV.d (keS0 z)) c19), .dead, .dead, .dead, .dead, .dead, .dead, .dead]) (e' := [(0, .ifc 54 (.ptr 4 0)), (1, .ifc 94 (.ag [])), (2, .d (di .i64 a2))]) (r := .tu [.d (di .u32 (0 : Int)), .d (.v (errV W 6))]) rfl rfl rfl ?_
          change AO _ _ _ _ _
          refine AO.op rfl (AOp.move rfl rfl (ltb rfl) rfl ?_)
          first | refine AO.op rfl (AOp.extractD rfl rfl (ltb rfl) rfl rfl ?_) | refine AO.op rfl (AOp.extract rfl rfl (ltb rfl) rfl rfl ?_)
          first | refine AO.op rfl (AOp.extractD rfl rfl (ltb rfl) rfl rfl ?_) | refine AO.op rfl (AOp.extract rfl rfl (ltb rfl) rfl rfl ?_)
          refine AO.op rfl (AOp.assign rfl rfl (ltb rfl) rfl ?_)
          refine AO.op rfl (AOp.assign rfl rfl (ltb rfl) rfl ?_)
          refine AO.objs (obs' := [.fix 24 [.d (.v (.slice none 0 0))], .fix 3 [.d (di .i64 (0 : Int))], .fix 4 [.d (dbool false)], .dead, .fix 71 [.d (eS0 ((a0.drop 0).take (((0 : Int)).toNat - 0))), .d (di .i64 (0 : Int)), .d (di .i8 (0 : Int))], .dead, .frame fr4 [(6, .ptr 0 0), (7, .ptr 1 0), (8, .ptr 2 0), (9, .ptr 4 0)], .dead, .fix 102 (List.map (fun z => SV.d (keS0 z)) c19), .dead, .dead, .dead, .dead, .dead, .dead, .dead]) rfl ?_
          refine AO.nil ?_
          change AC _ _ _ _
          refine AC.seq ?_
          refine AC.seq ?_
          refine AC.region ?_
          refine AO.op rfl (AOp.move rfl rfl (ltb rfl) rfl ?_)
          refine AO.op rfl (AOp.errNeq rfl rfl (ltb rfl) rfl (by simp [GlobsP]) imeth57 ?_)
          refine AO.nil ?_
          change AC _ _ _ _
          refine AC.condT rfl rfl ?_
          refine AC.seq ?_
          refine AC.region ?_
          refine AO.op rfl (AOp.move rfl rfl (ltb rfl) rfl ?_)
          refine AO.op rfl (AOp.assign rfl rfl (ltb rfl) rfl ?_)
          refine AO.op rfl (AOp.assign rfl rfl (ltb rfl) rfl ?_)
          refine AO.nil ?_
          change AC _ _ _ _
          refine AC.ret ?_
          refine inlret (ob' := [.fix 24 [.d (.v (.slice none 0 0))], .fix 3 [.d (di .i64 (0 : Int))], .fix 4 [.d (dbool false)], .dead, .fix 71 [.d (eS0 ((a0.drop 0).take (((0 : Int)).toNat - 0))), .d (di .i64 (0 : Int)), .d (di .i8 (0 : Int))], .dead, .dead, .dead, .fix 102 (List.map (fun z => SV.d (keS0 z)) c19), .dead, .dead, .dead, .dead, .dead, .dead, .dead]) (e' := [(6, .ptr 0 0), (7, .ptr 1 0), (8, .ptr 2 0), (9, .ptr 4 0)]) (r := .tu [.d (.v (.slice none 0 0)), .d (.v (errV W 6))]) rfl rfl rfl ?_
          change AO _ _ _ _ _
          refine AO.op rfl (AOp.move rfl rfl (ltb rfl) rfl ?_)
          first | refine AO.op rfl (AOp.extractD rfl rfl (ltb rfl) rfl rfl ?_) | refine AO.op rfl (AOp.extract rfl rfl (ltb rfl) rfl rfl ?_)
          first | refine AO.op rfl (AOp.extractD rfl rfl (ltb rfl) rfl rfl ?_) | refine AO.op rfl (AOp.extract rfl rfl (ltb rfl) rfl rfl ?_)
          refine AO.op rfl (AOp.store rfl rfl rfl rfl size24 rfl rfl rfl (leb rfl) ?_)
          refine AO.op rfl (AOp.assign rfl rfl (ltb rfl) rfl ?_)
          refine AO.objs (obs' := [.fix 24 [.d (.v (.slice none 0 0))], .fix 3 [.d (di .i64 (0 : Int))], .fix 4 [.d (dbool false)], .dead, .fix 71 [.d (eS0 ((a0.drop 0).take (((0 : Int)).toNat - 0))), .d (di .i64 (0 : Int)), .d (di .i8 (0 : Int))], .dead, .dead, .dead, .fix 102 (List.map (fun z => SV.d (keS0 z)) c19), .dead, .dead, .dead, .dead, .dead, .dead, .dead]) rfl ?_
          refine AO.nil ?_
          change AC _ _ _ _
          refine AC.seq ?_
          refine AC.freezeP (ds := c_TBytes_Buffer (TBytes_Buffer.mk ((a0.drop 0).take (((0 : Int)).toNat - 0)) (0 : Int) (0 : Int))) 9 4 rfl rfl rfl rfl (Nat.zero_le _) ?_
          obtain ⟨y34, q35, h0⟩ := bind_elim h0
          refine AC.drawS [0, 1, 2, 3, 4, 5, 6] [5, 6] [7] (fun L => [.fix 24 [.d (.v (.slice none 0 0))], .fix 3 [(bif L 6 then .d (di .i64 y34) else .d (di .i64 (0 : Int)))], .fix 4 [.d (dbool false)], .dead, .dead, .dead, .dead, .dead, .fix 102 (List.map (fun z => SV.d (keS0 z)) c19), .dead, .dead, .dead, .dead, .dead, .dead, .dead]) [(5, (fun _ => true)), (6, (fun _ => true))] mixed (by kernel_rfl) (fun L L' h => by simp only [h 5 (by decide), h 6 (by decide)]) rfl ?_
          refine AS.op [6] [] [5, 6] [] rfl rfl rfl (by kernel_rfl) (by kernel_rfl) rfl rfl (fun _ _ _ h => AOp.load1 rfl rfl (ltb rfl) rfl agg24 rfl rfl h) (by kernel_rfl) ?_
          refine AS.op [9] [] [5, 6] [] rfl rfl rfl (by kernel_rfl) (by kernel_rfl) rfl rfl (fun _ _ _ h => AOp.move rfl rfl (ltb rfl) rfl h) (by kernel_rfl) ?_
          refine AS.op [24] [] [5, 6] [] rfl rfl rfl (by kernel_rfl) (by kernel_rfl) rfl rfl (fun _ _ _ h => AOp.callD rfl rfl (ltb rfl) rfl rfl (w_Buffer_Len (TBytes_Buffer.mk ((a0.drop 0).take (((0 : Int)).toNat - 0)) (0 : Int) (0 : Int)) y34 q35) (by rintro _ rfl; exact h)) (by kernel_rfl) ?_
          refine AS.op [10] [] [] [5, 6] rfl rfl rfl (by kernel_rfl) (by kernel_rfl) rfl rfl (fun _ _ _ h => AOp.move rfl rfl (ltb rfl) rfl h) (by kernel_rfl) ?_
          refine AS.op [26] [] [] [5, 6] rfl rfl rfl (by kernel_rfl) (by kernel_rfl) rfl rfl (fun _ _ _ h => AOp.errEql rfl rfl (ltb rfl) rfl (by simp [GlobsP]) imeth57 h) (by kernel_rfl) ?_
          refine AS.mid0 [6, 23] [] [6, 5] [] rfl rfl rfl rfl (by kernel_rfl) (by kernel_rfl) rfl rfl (fun _ _ _ h => AOp.store rfl rfl rfl rfl size24 rfl rfl rfl (leb rfl) (AO.dropT h)) (by kernel_rfl) rfl ?_
          refine AS.mid0 [7, 25] [5] [6] [] rfl rfl rfl rfl (by kernel_rfl) (by kernel_rfl) rfl rfl (fun _ _ _ h => AOp.store rfl rfl rfl rfl size3 rfl rfl rfl (leb rfl) (AO.dropT h)) (by kernel_rfl) rfl ?_
          refine AS.done ?_
          refine AO.objs (obs' := [.fix 24 [.d (.v (.slice none 0 0))], .fix 3 [.d (di .i64 y34)], .fix 4 [.d (dbool false)], .dead, .dead, .dead, .dead, .dead, .fix 102 (List.map (fun z => SV.d (keS0 z)) c19), .dead, .dead, .dead, .dead, .dead, .dead, .dead]) rfl ?_
          refine AO.op rfl (AOp.store rfl rfl rfl rfl size4 rfl rfl rfl (leb rfl) ?_)
          refine AO.nil ?_
          change AC _ _ _ _
          refine AC.subO 0 rfl (.cons (SVLe.nil 1) .nil) ?_
          refine AC.ret ?_
          change RetQ _ _ _ .ret _
          obtain rfl := Option.some.inj h0
          refine retq rfl rfl
        replace h0 := cF h0 q33
        refine AO.guardN rfl rfl rfl (ltb rfl) rfl q33 ?_
        refine AO.guardN rfl rfl rfl (ltb rfl) rfl q33 ?_
        refine AO.guardN rfl rfl rfl (ltb rfl) rfl q33 ?_
        refine AO.op rfl (AOp.pickN rfl rfl (ltb rfl) rfl q33 rfl ?_)
        refine AO.nil ?_
        change AC _ _ _ _
        refine AC.condF rfl rfl ?_
        refine AC.skip ?_
        change AC _ _ _ _
        refine AC.ret ?_
        refine inlret (ob' := [.fix 24 [.d (.v (.slice none 0 0))], .fix 3 [.d (di .i64 (0 : Int))], .fix 4 [.d (dbool false)], .dead, .fix 71 [.d (eS0 ((a0.drop 0).take (((0 : Int)).toNat - 0))), .d (di .i64 (0 : Int)), .d (di .i8 (0 : Int))], .dead, .frame fr4 [(6, .ptr 0 0), (7, .ptr 1 0), (8, .ptr 2 0), (9, .ptr 4 0)], .frame fr5 [(0, .ifc 54 (.ptr 4 0)), (1, .ifc 94 (.ag [])), (2, .d (di .i64 a2))], .fix 102 (List.map (fun z => SV.d (keS0 z)) c19), .frame fr6 [(1, .ifc 94 (.ag [])), (6, .ptr 8 0)], .dead, .dead, .dead, .dead, .dead, .dead]) (e' := [(4, .d (di .i64 (0 : Int))), (5, .d (.v (.nilIface)))]) (r := .tu [.d (di .i64 ((m17 : Nat) : Int)), .d (.v (errV W 5))]) rfl rfl rfl ?_
        change AO _ _ _ _ _
        first | refine AO.op rfl (AOp.extractD rfl rfl (ltb rfl) rfl rfl ?_) | refine AO.op rfl (AOp.extract rfl rfl (ltb rfl) rfl rfl ?_)
        first | refine AO.op rfl (AOp.extractD rfl rfl (ltb rfl) rfl rfl ?_) | refine AO.op rfl (AOp.extract rfl rfl (ltb rfl) rfl rfl ?_)
        refine AO.op rfl (AOp.assign rfl rfl (ltb rfl) rfl ?_)
        refine AO.op rfl (AOp.assign rfl rfl (ltb rfl) rfl ?_)
        refine AO.objs (obs' := [.fix 24 [.d (.v (.slice none 0 0))], .fix 3 [.d (di .i64 (0 : Int))], .fix 4 [.d (dbool false)], .dead, .fix 71 [.d (eS0 ((a0.drop 0).take (((0 : Int)).toNat - 0))), .d (di .i64 (0 : Int)), .d (di .i8 (0 : Int))], .dead, .frame fr4 [(6, .ptr 0 0), (7, .ptr 1 0), (8, .ptr 2 0), (9, .ptr 4 0)], .frame fr5 [(0, .ifc 54 (.ptr 4 0)), (1, .ifc 94 (.ag [])), (2, .d (di .i64 a2))], .fix 102 (List.map (fun z => SV.d (keS0 z)) c19), .frame fr6 [(1, .ifc 94 (.ag [])), (6, .ptr 8 0)], .dead, .dead, .dead, .dead, .dead, .dead]) rfl ?_
        refine AO.nil ?_
        change AC _ _ _ _
        refine AC.ret ?_
        refine inlret (ob' := [.fix 24 [.d (.v (.slice none 0 0))], .fix 3 [.d (di .i64 (0 : Int))], .fix 4 [.d (dbool false)], .dead, .fix 71 [.d (eS0 ((a0.drop 0).take (((0 : Int)).toNat - 0))), .d (di .i64 (0 : Int)), .d (di .i8 (0 : Int))], .dead, .frame fr4 [(6, .ptr 0 0), (7, .ptr 1 0), (8, .ptr 2 0), (9, .ptr 4 0)], .frame fr5 [(0, .ifc 54 (.ptr 4 0)), (1, .ifc 94 (.ag [])), (2, .d (di .i64 a2))], .fix 102 (List.map (fun z => SV.d (keS0 z)) c19), .dead, .dead, .dead, .dead, .dead, .dead, .dead]) (e' := [(1, .ifc 94 (.ag [])), (6, .ptr 8 0)]) (r := .tu [.d (di .i64 ((m17 : Nat) : Int)), .d (.v (errV W 5))]) rfl rfl rfl ?_
        change AO _ _ _ _ _
        refine AO.op rfl (AOp.move rfl rfl (ltb rfl) rfl ?_)
        first | refine AO.op rfl (AOp.extractD rfl rfl (ltb rfl) rfl rfl ?_) | refine AO.op rfl (AOp.extract rfl rfl (ltb rfl) rfl rfl ?_)
        first | refine AO.op rfl (AOp.extractD rfl rfl (ltb rfl) rfl rfl ?_) | refine AO.op rfl (AOp.extract rfl rfl (ltb rfl) rfl rfl ?_)
        refine AO.op rfl (AOp.assign rfl rfl (ltb rfl) rfl ?_)
        refine AO.op rfl (AOp.assign rfl rfl (ltb rfl) rfl ?_)
        refine AO.objs (obs' := [.fix 24 [.d (.v (.slice none 0 0))], .fix 3 [.d (di .i64 (0 : Int))], .fix 4 [.d (dbool false)], .dead, .fix 71 [.d (eS0 ((a0.drop 0).take (((0 : Int)).toNat - 0))), .d (di .i64 (0 : Int)), .d (di .i8 (0 : Int))], .dead, .frame fr4 [(6, .ptr 0 0), (7, .ptr 1 0), (8, .ptr 2 0), (9, .ptr 4 0)], .frame fr5 [(0, .ifc 54 (.ptr 4 0)), (1, .ifc 94 (.ag [])), (2, .d (di .i64 a2))], .fix 102 (List.map (fun z => SV.d (keS0 z)) c19), .dead, .dead, .dead, .dead, .dead, .dead, .dead]) rfl ?_
        refine AO.nil ?_
        change AC _ _ _ _
        refine AC.seq ?_
        refine AC.region ?_
        refine AO.op rfl (AOp.move rfl rfl (ltb rfl) rfl ?_)
        refine AO.op rfl (AOp.errNeq rfl rfl (ltb rfl) rfl (by simp [GlobsP]) imeth57 ?_)
        refine AO.nil ?_
        change AC _ _ _ _
        refine AC.condT rfl rfl ?_
        refine AC.seq ?_
        refine AC.region ?_
        refine AO.op rfl (AOp.move rfl rfl (ltb rfl) rfl ?_)
        refine AO.op rfl (AOp.assign rfl rfl (ltb rfl) rfl ?_)
        refine AO.op rfl (AOp.assign rfl rfl (ltb rfl) rfl ?_)
        refine AO.nil ?_
        change AC _ _ _ _
        refine AC.ret ?_
        refine inlret (ob' := [.fix 24 [.d (.v (.slice none 0 0))], .fix 3 [.d (di .i64 (0 : Int))], .fix 4 [.d (dbool false)], .dead, .fix 71 [.d (eS0 ((a0.drop 0).take (((0 : Int)).toNat - 0))), .d (di .i64 (0 : Int)), .d (di .i8 (0 : Int))], .dead, .frame fr4 [(6, .ptr 0 0), (7, .ptr 1 0), (8, .ptr 2 0), (9, .ptr 4 0)], .dead, .fix 102 (List.map (fun z => SV.d (keS0 z)) c19), .dead, .dead, .dead, .dead, .dead, .dead, .dead]) (e' := [(0, .ifc 54 (.ptr 4 0)), (1, .ifc 94 (.ag [])), (2, .d (di .i64 a2))]) (r := .tu [.d (di .u32 (0 : Int)), .d (.v (errV W 5))]) rfl rfl rfl ?_
        change AO _ _ _ _ _
        refine AO.op rfl (AOp.move rfl rfl (ltb rfl) rfl ?_)
        first | refine AO.op rfl (AOp.extractD rfl rfl (ltb rfl) rfl rfl ?_) | refine AO.op rfl (AOp.extract rfl rfl (ltb rfl) rfl rfl ?_)
        first | refine AO.op rfl (AOp.extractD rfl rfl (ltb rfl) rfl rfl ?_) | refine AO.op rfl (AOp.extract rfl rfl (ltb rfl) rfl rfl ?_)
        refine AO.op rfl (AOp.assign rfl rfl (ltb rfl) rfl ?_)
        refine AO.op rfl (AOp.assign rfl rfl (ltb rfl) rfl ?_)
        refine AO.objs (obs' := [.fix 24 [.d (.v (.slice none 0 0))], .fix 3 [.d (di .i64 (0 : Int))], .fix 4 [.d (dbool false)], .dead, .fix 71 [.d (eS0 ((a0.drop 0).take (((0 : Int)).toNat - 0))), .d (di .i64 (0 : Int)), .d (di .i8 (0 : Int))], .dead, .frame fr4 [(6, .ptr 0 0), (7, .ptr 1 0), (8, .ptr 2 0), (9, .ptr 4 0)], .dead, .fix 102 (List.map (fun z => SV.d (keS0 z)) c19), .dead, .dead, .dead, .dead, .dead, .dead, .dead]) rfl ?_
        refine AO.nil ?_
        change AC _ _ _ _
        refine AC.seq ?_
        refine AC.seq ?_
        refine AC.region ?_
        refine AO.op rfl (AOp.move rfl rfl (ltb rfl) rfl ?_)
        refine AO.op rfl (AOp.errNeq rfl rfl (ltb rfl) rfl (by simp [GlobsP]) imeth57 ?_)
        refine AO.nil ?_
        change AC _ _ _ _
        refine AC.condT rfl rfl ?_
        refine AC.seq ?_
        refine AC.region ?_
        refine AO.op rfl (AOp.move rfl rfl (ltb rfl) rfl ?_)
        refine AO.op rfl (AOp.assign rfl rfl (ltb rfl) rfl ?_)
        refine AO.op rfl (AOp.assign rfl rfl (ltb rfl) rfl ?_)
        refine AO.nil ?_
        change AC _ _ _ _
        refine AC.ret ?_
        refine inlret (ob' := [.fix 24 [.d (.v (.slice none 0 0))], .fix 3 [.d (di .i64 (0 : Int))], .fix 4 [.d (dbool false)], .dead, .fix 71 [.d (eS0 ((a0.drop 0).take (((0 : Int)).toNat - 0))), .d (di .i64 (0 : Int)), .d (di .i8 (0 : Int))], .dead, .dead, .dead, .fix 102 (List.map (fun z => SV.d (keS0 z)) c19), .dead, .dead, .dead, .dead, .dead, .dead, .dead]) (e' := [(6, .ptr 0 0), (7, .ptr 1 0), (8, .ptr 2 0), (9, .ptr 4 0)]) (r := .tu [.d (.v (.slice none 0 0)), .d (.v (errV W 5))]) rfl rfl rfl ?_
        change AO _ _ _ _ _
        refine AO.op rfl (AOp.move rfl rfl (ltb rfl) rfl ?_)
        first | refine AO.op rfl (AOp.extractD rfl rfl (ltb rfl) rfl rfl ?_) | refine AO.op rfl (AOp.extract rfl rfl (ltb rfl) rfl rfl ?_)
        first | refine AO.op rfl (AOp.extractD rfl rfl (ltb rfl) rfl rfl ?_) | refine AO.op rfl (AOp.extract rfl rfl (ltb rfl) rfl rfl ?_)
        refine AO.op rfl (AOp.store rfl rfl rfl rfl size24 rfl rfl rfl (leb rfl) ?_)
        refine AO.op rfl (AOp.assign rfl rfl (ltb rfl) rfl ?_)
        refine AO.objs (obs' := [.fix 24 [.d (.v (.slice none 0 0))], .fix 3 [.d (di .i64 (0 : Int))], .fix 4 [.d (dbool false)], .dead, .fix 71 [.d (eS0 ((a0.drop 0).take (((0 : Int)).toNat - 0))), .d (di .i64 (0 : Int)), .d (di .i8 (0 : Int))], .dead, .dead, .dead, .fix 102 (List.map (fun z => SV.d (keS0 z)) c19), .dead, .dead, .dead, .dead, .dead, .dead, .dead]) rfl ?_
        refine AO.nil ?_
        change AC _ _ _ _
        refine AC.seq ?_
        refine AC.freezeP (ds := c_TBytes_Buffer (TBytes_Buffer.mk ((a0.drop 0).take (((0 : Int)).toNat - 0)) (0 : Int) (0 : Int))) 9 4 rfl rfl rfl rfl (Nat.zero_le _) ?_
        obtain ⟨y36, q37, h0⟩ := bind_elim h0
        refine AC.drawS [0, 1, 2, 3, 4, 5, 6] [5, 6] [7] (fun L => [.fix 24 [.d (.v (.slice none 0 0))], .fix 3 [(bif L 6 then .d (di .i64 y36) else .d (di .i64 (0 : Int)))], .fix 4 [.d (dbool false)], .dead, .dead, .dead, .dead, .dead, .fix 102 (List.map (fun z => SV.d (keS0 z)) c19), .dead, .dead, .dead, .dead, .dead, .dead, .dead]) [(5, (fun _ => true)), (6, (fun _ => true))] mixed (by kernel_rfl) (fun L L' h => by simp only [h 5 (by decide), h 6 (by decide)]) rfl ?_
        refine AS.op [6] [] [5, 6] [] rfl rfl rfl (by kernel_rfl) (by kernel_rfl) rfl rfl (fun _ _ _ h => AOp.load1 rfl rfl (ltb rfl) rfl agg24 rfl rfl h) (by kernel_rfl) ?_
        refine AS.op [9] [] [5, 6] [] rfl rfl rfl (by kernel_rfl) (by kernel_rfl) rfl rfl (fun _ _ _ h => AOp.move rfl rfl (ltb rfl) rfl h) (by kernel_rfl) ?_
        refine AS.op [24] [] [5, 6] [] rfl rfl rfl (by kernel_rfl) (by kernel_rfl) rfl rfl (fun _ _ _ h => AOp.callD rfl rfl (ltb rfl) rfl rfl (w_Buffer_Len (TBytes_Buffer.mk ((a0.drop 0).take (((0 : Int)).toNat - 0)) (0 : Int) (0 : Int)) y36 q37) (by rintro _ rfl; exact h)) (by kernel_rfl) ?_
        refine AS.op [10] [] [] [5, 6] rfl rfl rfl (by kernel_rfl) (by kernel_rfl) rfl rfl (fun _ _ _ h => AOp.move rfl rfl (ltb rfl) rfl h) (by kernel_rfl) ?_
        refine AS.op [26] [] [] [5, 6] rfl rfl rfl (by kernel_rfl) (by kernel_rfl) rfl rfl (fun _ _ _ h => AOp.errEql rfl rfl (ltb rfl) rfl (by simp [GlobsP]) imeth57 h) (by kernel_rfl) ?_
        refine AS.mid0 [6, 23] [] [6, 5] [] rfl rfl rfl rfl (by kernel_rfl) (by kernel_rfl) rfl rfl (fun _ _ _ h => AOp.store rfl rfl rfl rfl size24 rfl rfl rfl (leb rfl) (AO.dropT h)) (by kernel_rfl) rfl ?_
        refine AS.mid0 [7, 25] [5] [6] [] rfl rfl rfl rfl (by kernel_rfl) (by kernel_rfl) rfl rfl (fun _ _ _ h => AOp.store rfl rfl rfl rfl size3 rfl rfl rfl (leb rfl) (AO.dropT h)) (by kernel_rfl) rfl ?_
        refine AS.done ?_
        refine AO.objs (obs' := [.fix 24 [.d (.v (.slice none 0 0))], .fix 3 [.d (di .i64 y36)], .fix 4 [.d (dbool false)], .dead, .dead, .dead, .dead, .dead, .fix 102 (List.map (fun z => SV.d (keS0 z)) c19), .dead, .dead, .dead, .dead, .dead, .dead, .dead]) rfl ?_
        refine AO.op rfl (AOp.store rfl rfl rfl rfl size4 rfl rfl rfl (leb rfl) ?_)
        refine AO.nil ?_
        change AC _ _ _ _
        refine AC.subO 0 rfl (.cons (SVLe.nil 1) .nil) ?_
        refine AC.ret ?_
        change RetQ _ _ _ .ret _
        obtain rfl := Option.some.inj h0
        refine retq rfl rfl
      replace h0 := cF h0 q28
      cases h0
    replace h0 := cF h0 q24
    refine AO.guardN rfl rfl rfl (ltb rfl) rfl q24 ?_
    refine AO.guardN rfl rfl rfl (ltb rfl) rfl q24 ?_
    refine AO.op rfl (AOp.pickN rfl rfl (ltb rfl) rfl q24 rfl ?_)
    refine AO.nil ?_
    change AC _ _ _ _
    refine AC.condF rfl rfl ?_
    refine AC.exit ?_
    change AC _ _ _ _
    refine AC.seq ?_
    refine AC.seq ?_
    refine AC.region ?_
    refine AO.op rfl (AOp.move rfl rfl (ltb rfl) rfl ?_)
    refine AO.op rfl (AOp.move rfl rfl (ltb rfl) rfl ?_)
    refine AO.op rfl (AOp.igeq rfl rfl (ltb rfl) rfl rfl ?_)
    refine AO.nil ?_
    change AC _ _ _ _
    refine AC.condT rfl (dlt_ge q24) ?_
    refine AC.region ?_
    refine AO.op rfl (AOp.assign rfl rfl (ltb rfl) rfl ?_)
    refine AO.nil ?_
    change AC _ _ _ _
    refine AC.ret ?_
    refine inlret (ob' := [.fix 24 [.d (.v (.slice none 0 0))], .fix 3 [.d (di .i64 (0 : Int))], .fix 4 [.d (dbool false)], .dead, .fix 71 [.d (eS0 a0), .d (di .i64 ((m17 : Nat) : Int)), .d (di .i8 g22)], .dead, .frame fr4 [(6, .ptr 0 0), (7, .ptr 1 0), (8, .ptr 2 0), (9, .ptr 4 0)], .frame fr5 [(0, .ifc 54 (.ptr 4 0)), (1, .ifc 94 (.ag [])), (2, .d (di .i64 a2))], .fix 102 (List.map (fun z => SV.d (keS0 z)) c19), .frame fr6 [(1, .ifc 94 (.ag [])), (6, .ptr 8 0)], .dead, .dead, .dead]) (e' := [(4, .d (di .i64 (0 : Int))), (5, .d (.v (.nilIface)))]) (r := .tu [.d (di .i64 ((m17 : Nat) : Int)), .d (.v (.nilIface))]) rfl rfl rfl ?_
    change AO _ _ _ _ _
    first | refine AO.op rfl (AOp.extractD rfl rfl (ltb rfl) rfl rfl ?_) | refine AO.op rfl (AOp.extract rfl rfl (ltb rfl) rfl rfl ?_)
    first | refine AO.op rfl (AOp.extractD rfl rfl (ltb rfl) rfl rfl ?_) | refine AO.op rfl (AOp.extract rfl rfl (ltb rfl) rfl rfl ?_)
    refine AO.op rfl (AOp.assign rfl rfl (ltb rfl) rfl ?_)
    refine AO.op rfl (AOp.assign rfl rfl (ltb rfl) rfl ?_)
    refine AO.objs (obs' := [.fix 24 [.d (.v (.slice none 0 0))], .fix 3 [.d (di .i64 (0 : Int))], .fix 4 [.d (dbool false)], .dead, .fix 71 [.d (eS0 a0), .d (di .i64 ((m17 : Nat) : Int)), .d (di .i8 g22)], .dead, .frame fr4 [(6, .ptr 0 0), (7, .ptr 1 0), (8, .ptr 2 0), (9, .ptr 4 0)], .frame fr5 [(0, .ifc 54 (.ptr 4 0)), (1, .ifc 94 (.ag [])), (2, .d (di .i64 a2))], .fix 102 (List.map (fun z => SV.d (keS0 z)) c19), .frame fr6 [(1, .ifc 94 (.ag [])), (6, .ptr 8 0)], .dead, .dead, .dead]) rfl ?_
    refine AO.nil ?_
    change AC _ _ _ _
    refine AC.ret ?_
    refine inlret (ob' := [.fix 24 [.d (.v (.slice none 0 0))], .fix 3 [.d (di .i64 (0 : Int))], .fix 4 [.d (dbool false)], .dead, .fix 71 [.d (eS0 a0), .d (di .i64 ((m17 : Nat) : Int)), .d (di .i8 g22)], .dead, .frame fr4 [(6, .ptr 0 0), (7, .ptr 1 0), (8, .ptr 2 0), (9, .ptr 4 0)], .frame fr5 [(0, .ifc 54 (.ptr 4 0)), (1, .ifc 94 (.ag [])), (2, .d (di .i64 a2))], .fix 102 (List.map (fun z => SV.d (keS0 z)) c19), .dead, .dead, .dead, .dead]) (e' := [(1, .ifc 94 (.ag [])), (6, .ptr 8 0)]) (r := .tu [.d (di .i64 ((m17 : Nat) : Int)), .d (.v (.nilIface))]) rfl rfl rfl ?_
    change AO _ _ _ _ _
    refine AO.op rfl (AOp.move rfl rfl (ltb rfl) rfl ?_)
    first | refine AO.op rfl (AOp.extractD rfl rfl (ltb rfl) rfl rfl ?_) | refine AO.op rfl (AOp.extract rfl rfl (ltb rfl) rfl rfl ?_)
    first | refine AO.op rfl (AOp.extractD rfl rfl (ltb rfl) rfl rfl ?_) | refine AO.op rfl (AOp.extract rfl rfl (ltb rfl) rfl rfl ?_)
    refine AO.op rfl (AOp.assign rfl rfl (ltb rfl) rfl ?_)
    refine AO.op rfl (AOp.assign rfl rfl (ltb rfl) rfl ?_)
    refine AO.objs (obs' := [.fix 24 [.d (.v (.slice none 0 0))], .fix 3 [.d (di .i64 (0 : Int))], .fix 4 [.d (dbool false)], .dead, .fix 71 [.d (eS0 a0), .d (di .i64 ((m17 : Nat) : Int)), .d (di .i8 g22)], .dead, .frame fr4 [(6, .ptr 0 0), (7, .ptr 1 0), (8, .ptr 2 0), (9, .ptr 4 0)], .frame fr5 [(0, .ifc 54 (.ptr 4 0)), (1, .ifc 94 (.ag [])), (2, .d (di .i64 a2))], .fix 102 (List.map (fun z => SV.d (keS0 z)) c19), .dead, .dead, .dead, .dead]) rfl ?_
    refine AO.nil ?_
    change AC _ _ _ _
    refine AC.seq ?_
    refine AC.region ?_
    refine AO.op rfl (AOp.move rfl rfl (ltb rfl) rfl ?_)
    refine AO.op rfl (AOp.nilNeq rfl rfl (ltb rfl) rfl imeth57 ?_)
    refine AO.nil ?_
    change AC _ _ _ _
    refine AC.condF rfl rfl ?_
    refine AC.skip ?_
    change AC _ _ _ _
    refine AC.seq ?_
    refine AC.draw 5 mixed (by kernel_rfl) ?_
    refine AD.op [1] rfl (by kernel_rfl) rfl rfl (fun _ _ h => AOp.move rfl rfl (ltb rfl) rfl h) ?_
    refine AD.op [6] rfl (by kernel_rfl) rfl rfl (fun _ _ h => AOp.sliceArr rfl rfl (ltb rfl) rfl ar102 ⟨_, _, rfl⟩ h) ?_
    refine AD.op [18] rfl (by kernel_rfl) rfl rfl (fun _ _ h => AOp.makeMeth rfl rfl (ltb rfl) rfl h) ?_
    refine AD.op [20] rfl (by kernel_rfl) rfl rfl (fun _ _ h => AOp.nilMeth rfl rfl (ltb rfl) rfl rfl nilm94_Uint32 h) ?_
    refine AD.op [18] rfl (by kernel_rfl) rfl rfl (fun _ _ h => AOp.move rfl rfl (ltb rfl) rfl h) ?_
    refine AD.done ?_
    refine AO.op rfl (AOp.inlE [] (EntersS.meth (by kernel_rfl) rfl rfl rfl meth94_Uint32 rfl rfl) Tryd.func87 rfl Tryd.ntmps87 rfl (ltb rfl) (leb rfl) rfl ?_)
    intro fr38
    refine AC.seq ?_
    refine AC.region ?_
    refine AO.op rfl (AOp.box rfl rfl (ltb rfl) rfl rfl ?_)
    refine AO.op rfl (AOp.assign rfl rfl (ltb rfl) rfl ?_)
    refine AO.objs (obs' := [.fix 24 [.d (.v (.slice none 0 0))], .fix 3 [.d (di .i64 (0 : Int))], .fix 4 [.d (dbool false)], .dead, .fix 71 [.d (eS0 a0), .d (di .i64 ((m17 : Nat) : Int)), .d (di .i8 g22)], .dead, .frame fr4 [(6, .ptr 0 0), (7, .ptr 1 0), (8, .ptr 2 0), (9, .ptr 4 0)], .frame fr5 [(0, .ifc 54 (.ptr 4 0)), (1, .ifc 94 (.ag [])), (2, .d (di .i64 a2))], .fix 102 (List.map (fun z => SV.d (keS0 z)) c19), .dead, .dead, .dead, .dead, .frame fr38 [], .fix 94 []]) rfl ?_
    refine AO.nil ?_
    change AC _ _ _ _
    refine AC.seq ?_
    refine AC.region ?_
    refine AO.op rfl (AOp.move rfl rfl (ltb rfl) rfl ?_)
    obtain ⟨q39, h0⟩ := need_elim h0
    refine AO.op rfl (AOp.indexSl rfl rfl (ltb rfl) rfl rfl el22 q39.1 q39.2 ?_)
    obtain ⟨x40, q41, h0⟩ := idx_elim h0
    refine AO.op rfl (AOp.load1 rfl rfl (ltb rfl) rfl agg5 rfl (atO (f := fun z => SV.d (keS0 z)) q41.2) ?_)
    refine AO.nil ?_
    change AC _ _ _ _
    refine AC.seq ?_
    refine AC.draw 23 mixed (by kernel_rfl) ?_
    refine AD.op [1] rfl (by kernel_rfl) rfl rfl (fun _ _ h => AOp.move rfl rfl (ltb rfl) rfl h) ?_
    obtain ⟨q42, h0⟩ := need_elim h0
    refine AD.op [8] rfl (by kernel_rfl) rfl rfl (fun _ _ h => AOp.indexSl rfl rfl (ltb rfl) rfl rfl el22 q42.1 q42.2 h) ?_
    obtain ⟨x43, q44, h0⟩ := idx_elim h0
    refine AD.op [9] rfl (by kernel_rfl) rfl rfl (fun _ _ h => AOp.load1 rfl rfl (ltb rfl) rfl agg5 rfl (atO (f := fun z => SV.d (keS0 z)) q44.2) h) ?_
    refine AD.op [10] rfl (by kernel_rfl) rfl rfl (fun _ _ h => AOp.i2i rfl rfl (ltb rfl) rfl Tryd.underlying5 Tryd.underlying43 rfl h) ?_
    refine AD.op [1] rfl (by kernel_rfl) rfl rfl (fun _ _ h => AOp.move rfl rfl (ltb rfl) rfl h) ?_
    obtain ⟨q45, h0⟩ := need_elim h0
    refine AD.op [12] rfl (by kernel_rfl) rfl rfl (fun _ _ h => AOp.indexSl rfl rfl (ltb rfl) rfl rfl el22 q45.1 q45.2 h) ?_
    obtain ⟨x46, q47, h0⟩ := idx_elim h0
    refine AD.op [13] rfl (by kernel_rfl) rfl rfl (fun _ _ h => AOp.load1 rfl rfl (ltb rfl) rfl agg5 rfl (atO (f := fun z => SV.d (keS0 z)) q47.2) h) ?_
    refine AD.op [14] rfl (by kernel_rfl) rfl rfl (fun _ _ h => AOp.i2i rfl rfl (ltb rfl) rfl Tryd.underlying5 Tryd.underlying43 rfl h) ?_
    refine AD.op [15] rfl (by kernel_rfl) rfl rfl (fun _ _ h => AOp.ishl (n := 8) rfl rfl (ltb rfl) rfl rfl (by decide) rfl h) ?_
    refine AD.op [11, 16] rfl (by kernel_rfl) rfl rfl (fun _ _ h => AOp.ibits (by simp) rfl rfl (ltb rfl) rfl rfl rfl h) ?_
    refine AD.op [1] rfl (by kernel_rfl) rfl rfl (fun _ _ h => AOp.move rfl rfl (ltb rfl) rfl h) ?_
    obtain ⟨q48, h0⟩ := need_elim h0
    refine AD.op [18] rfl (by kernel_rfl) rfl rfl (fun _ _ h => AOp.indexSl rfl rfl (ltb rfl) rfl rfl el22 q48.1 q48.2 h) ?_
    obtain ⟨x49, q50, h0⟩ := idx_elim h0
    refine AD.op [19] rfl (by kernel_rfl) rfl rfl (fun _ _ h => AOp.load1 rfl rfl (ltb rfl) rfl agg5 rfl (atO (f := fun z => SV.d (keS0 z)) q50.2) h) ?_
    refine AD.op [20] rfl (by kernel_rfl) rfl rfl (fun _ _ h => AOp.i2i rfl rfl (ltb rfl) rfl Tryd.underlying5 Tryd.underlying43 rfl h) ?_
    refine AD.op [21] rfl (by kernel_rfl) rfl rfl (fun _ _ h => AOp.ishl (n := 16) rfl rfl (ltb rfl) rfl rfl (by decide) rfl h) ?_
    refine AD.op [17, 22] rfl (by kernel_rfl) rfl rfl (fun _ _ h => AOp.ibits (by simp) rfl rfl (ltb rfl) rfl rfl rfl h) ?_
    refine AD.op [1] rfl (by kernel_rfl) rfl rfl (fun _ _ h => AOp.move rfl rfl (ltb rfl) rfl h) ?_
    obtain ⟨q51, h0⟩ := need_elim h0
    refine AD.op [24] rfl (by kernel_rfl) rfl rfl (fun _ _ h => AOp.indexSl rfl rfl (ltb rfl) rfl rfl el22 q51.1 q51.2 h) ?_
    obtain ⟨x52, q53, h0⟩ := idx_elim h0
    refine AD.op [25] rfl (by kernel_rfl) rfl rfl (fun _ _ h => AOp.load1 rfl rfl (ltb rfl) rfl agg5 rfl (atO (f := fun z => SV.d (keS0 z)) q53.2) h) ?_
    refine AD.op [26] rfl (by kernel_rfl) rfl rfl (fun _ _ h => AOp.i2i rfl rfl (ltb rfl) rfl Tryd.underlying5 Tryd.underlying43 rfl h) ?_
    refine AD.op [27] rfl (by kernel_rfl) rfl rfl (fun _ _ h => AOp.ishl (n := 24) rfl rfl (ltb rfl) rfl rfl (by decide) rfl h) ?_
    refine AD.op [23, 28] rfl (by kernel_rfl) rfl rfl (fun _ _ h => AOp.ibits (by simp) rfl rfl (ltb rfl) rfl rfl rfl h) ?_
    refine AD.op [29] rfl (by kernel_rfl) rfl rfl (fun _ _ h => AOp.assign rfl rfl (ltb rfl) rfl h) ?_
    refine AD.done ?_
    refine AO.nil ?_
    change AC _ _ _ _
    refine AC.ret ?_
    refine inlret (ob' := [.fix 24 [.d (.v (.slice none 0 0))], .fix 3 [.d (di .i64 (0 : Int))], .fix 4 [.d (dbool false)], .dead, .fix 71 [.d (eS0 a0), .d (di .i64 ((m17 : Nat) : Int)), .d (di .i8 g22)], .dead, .frame fr4 [(6, .ptr 0 0), (7, .ptr 1 0), (8, .ptr 2 0), (9, .ptr 4 0)], .frame fr5 [(0, .ifc 54 (.ptr 4 0)), (1, .ifc 94 (.ag [])), (2, .d (di .i64 a2))], .fix 102 (List.map (fun z => SV.d (keS0 z)) c19), .dead, .dead, .dead, .dead, .dead, .fix 94 []]) (e' := []) (r := .d (di .u32 (bits .or .u32 (bits .or .u32 (bits .or .u32 (IntKind.u32.wrap x43) (IntKind.u32.wrap ((IntKind.u32.wrap x46) * 2 ^ 8))) (IntKind.u32.wrap ((IntKind.u32.wrap x49) * 2 ^ 16))) (IntKind.u32.wrap ((IntKind.u32.wrap x52) * 2 ^ 24))))) rfl rfl rfl ?_
    change AO _ _ _ _ _
    refine AO.op rfl (AOp.assign rfl rfl (ltb rfl) rfl ?_)
    refine AO.op rfl (AOp.assign rfl rfl (ltb rfl) rfl ?_)
    refine AO.objs (obs' := [.fix 24 [.d (.v (.slice none 0 0))], .fix 3 [.d (di .i64 (0 : Int))], .fix 4 [.d (dbool false)], .dead, .fix 71 [.d (eS0 a0), .d (di .i64 ((m17 : Nat) : Int)), .d (di .i8 g22)], .dead, .frame fr4 [(6, .ptr 0 0), (7, .ptr 1 0), (8, .ptr 2 0), (9, .ptr 4 0)], .frame fr5 [(0, .ifc 54 (.ptr 4 0)), (1, .ifc 94 (.ag [])), (2, .d (di .i64 a2))], .fix 102 (List.map (fun z => SV.d (keS0 z)) c19), .dead, .dead, .dead, .dead, .dead, .fix 94 []]) rfl ?_
    refine AO.nil ?_
    change AC _ _ _ _
    refine AC.ret ?_
    refine inlret (ob' := [.fix 24 [.d (.v (.slice none 0 0))], .fix 3 [.d (di .i64 (0 : Int))], .fix 4 [.d (dbool false)], .dead, .fix 71 [.d (eS0 a0), .d (di .i64 ((m17 : Nat) : Int)), .d (di .i8 g22)], .dead, .frame fr4 [(6, .ptr 0 0), (7, .ptr 1 0), (8, .ptr 2 0), (9, .ptr 4 0)], .dead, .fix 102 (List.map (fun z => SV.d (keS0 z)) c19), .dead, .dead, .dead, .dead, .dead, .fix 94 []]) (e' := [(0, .ifc 54 (.ptr 4 0)), (1, .ifc 94 (.ag [])), (2, .d (di .i64 a2))]) (r := .tu [.d (di .u32 (bits .or .u32 (bits .or .u32 (bits .or .u32 (IntKind.u32.wrap x43) (IntKind.u32.wrap ((IntKind.u32.wrap x46) * 2 ^ 8))) (IntKind.u32.wrap ((IntKind.u32.wrap x49) * 2 ^ 16))) (IntKind.u32.wrap ((IntKind.u32.wrap x52) * 2 ^ 24)))), .d (.v (.nilIface))]) rfl rfl rfl ?_
    change AO _ _ _ _ _
    refine AO.op rfl (AOp.move rfl rfl (ltb rfl) rfl ?_)
    first | refine AO.op rfl (AOp.extractD rfl rfl (ltb rfl) rfl rfl ?_) | refine AO.op rfl (AOp.extract rfl rfl (ltb rfl) rfl rfl ?_)
    first | refine AO.op rfl (AOp.extractD rfl rfl (ltb rfl) rfl rfl ?_) | refine AO.op rfl (AOp.extract rfl rfl (ltb rfl) rfl rfl ?_)
    refine AO.op rfl (AOp.assign rfl rfl (ltb rfl) rfl ?_)
    refine AO.op rfl (AOp.assign rfl rfl (ltb rfl) rfl ?_)
    refine AO.objs (obs' := [.fix 24 [.d (.v (.slice none 0 0))], .fix 3 [.d (di .i64 (0 : Int))], .fix 4 [.d (dbool false)], .dead, .fix 71 [.d (eS0 a0), .d (di .i64 ((m17 : Nat) : Int)), .d (di .i8 g22)], .dead, .frame fr4 [(6, .ptr 0 0), (7, .ptr 1 0), (8, .ptr 2 0), (9, .ptr 4 0)], .dead, .fix 102 (List.map (fun z => SV.d (keS0 z)) c19), .dead, .dead, .dead, .dead, .dead, .fix 94 []]) rfl ?_
    refine AO.nil ?_
    change AC _ _ _ _
    refine AC.seq ?_
    refine AC.seq ?_
    refine AC.region ?_
    refine AO.op rfl (AOp.move rfl rfl (ltb rfl) rfl ?_)
    refine AO.op rfl (AOp.nilNeq rfl rfl (ltb rfl) rfl imeth57 ?_)
    refine AO.nil ?_
    change AC _ _ _ _
    refine AC.condF rfl rfl ?_
    refine AC.skip ?_
    change AC _ _ _ _
    refine AC.seq ?_
    refine AC.seq ?_
    refine AC.region ?_
    refine AO.op rfl (AOp.indexG rfl rfl (ltb rfl) rfl ar89 (by decide) (by decide) ?_)
    refine AO.op rfl (AOp.loadGA (g := 0) (k := 1) (v := .int .i64 (-1)) rfl rfl (ltb rfl) rfl rfl agg3 (by simp [Globs]) (by decide) ?_)
    refine AO.op rfl (AOp.assign rfl rfl (ltb rfl) rfl ?_)
    refine AO.nil ?_
    change AC _ _ _ _
    refine AC.seq ?_
    refine AC.region ?_
    refine AO.op rfl (AOp.move rfl rfl (ltb rfl) rfl ?_)
    refine AO.op rfl (AOp.igeq rfl rfl (ltb rfl) rfl rfl ?_)
    refine AO.op rfl (AOp.move rfl rfl (ltb rfl) rfl ?_)
    refine AO.guardN rfl rfl rfl (ltb rfl) rfl rfl ?_
    refine AO.guardN rfl rfl rfl (ltb rfl) rfl rfl ?_
    refine AO.guardN rfl rfl rfl (ltb rfl) rfl rfl ?_
    refine AO.guardN rfl rfl rfl (ltb rfl) rfl rfl ?_
    refine AO.op rfl (AOp.pickN rfl rfl (ltb rfl) rfl rfl rfl ?_)
    refine AO.nil ?_
    change AC _ _ _ _
    refine AC.condF rfl rfl ?_
    refine AC.skip ?_
    change AC _ _ _ _
    refine AC.seq ?_
    refine AC.region ?_
    refine AO.op rfl (AOp.move rfl rfl (ltb rfl) rfl ?_)
    obtain ⟨v54, q55, h0⟩ := bind_elim h0
    refine AO.op rfl (AOp.i2i rfl rfl (ltb rfl) rfl Tryd.underlying43 Tryd.underlying3 (Option.some.inj q55) ?_)
    refine AO.op rfl (AOp.move rfl rfl (ltb rfl) rfl ?_)
    obtain ⟨q56, h0⟩ := need_elim h0
    refine AO.op rfl (AOp.imul rfl rfl (ltb rfl) rfl rfl rfl q56.1 q56.2 ?_)
    obtain ⟨q57, h0⟩ := need_elim h0
    refine AO.op rfl (AOp.makeL (f := fun z => SV.d (keS1 z)) (z0 := (0 : Nat)) rfl rfl (ltb rfl) rfl rfl el24 info63 rfl rfl (by decide) q57.1 q57.2 rfl ?_)
    refine AO.op rfl (AOp.assign rfl rfl (ltb rfl) rfl ?_)
    refine AO.nil ?_
    change AC _ _ _ _
    refine AC.seq ?_
    refine AC.seq ?_
    refine AC.region ?_
    refine AO.op rfl (AOp.move rfl rfl (ltb rfl) rfl ?_)
    refine AO.op rfl (AOp.move rfl rfl (ltb rfl) rfl ?_)
    refine AO.op rfl (AOp.move rfl rfl (ltb rfl) rfl ?_)
    refine AO.op rfl (AOp.inl [11] (by kernel_rfl) Tryd.func39 rfl Tryd.ntmps39 rfl rfl (ltb rfl) rfl (leb rfl) rfl ?_)
    intro fr58
    refine AC.seq ?_
    refine AC.region ?_
    refine AO.op rfl (AOp.assign rfl rfl (ltb rfl) rfl ?_)
    refine AO.objs (obs' := [.fix 24 [.d (.v (.slice none 0 0))], .fix 3 [.d (di .i64 (0 : Int))], .fix 4 [.d (dbool false)], .dead, .fix 71 [.d (eS0 a0), .d (di .i64 ((m17 : Nat) : Int)), .d (di .i8 g22)], .dead, .frame fr4 [(6, .ptr 0 0), (7, .ptr 1 0), (8, .ptr 2 0), (9, .ptr 4 0)], .dead, .fix 102 (List.map (fun z => SV.d (keS0 z)) c19), .dead, .dead, .dead, .dead, .dead, .fix 94 [], .fix 63 (List.map (fun z => SV.d (keS1 z)) (List.replicate ((v54 * a2)).toNat (0 : Nat))), .frame fr58 [(11, .sl 15 1 0 (((v54 * a2)).toNat) (((v54 * a2)).toNat))]]) rfl ?_
    refine AO.nil ?_
    change AC _ _ _ _
    refine AC.seq ?_
    refine AC.region ?_
    refine AO.op rfl (AOp.move rfl rfl (ltb rfl) rfl ?_)
    refine AO.op rfl (AOp.lenSl rfl rfl (ltb rfl) rfl el24 ?_)
    obtain ⟨q59, h0⟩ := need_elim h0
    refine AO.op rfl (AOp.imul rfl rfl (ltb rfl) rfl rfl rfl q59.1 q59.2 ?_)
    obtain ⟨q60, h0⟩ := need_elim h0
    refine AO.op rfl (AOp.makeL (f := fun z => SV.d (keS0 z)) (z0 := (0 : Int)) rfl rfl (ltb rfl) rfl rfl el22 info5 rfl rfl (by decide) q60.1 q60.2 rfl ?_)
    refine AO.op rfl (AOp.assign rfl rfl (ltb rfl) rfl ?_)
    refine AO.nil ?_
    change AC _ _ _ _
    refine AC.seq ?_
    refine AC.seq ?_
    refine AC.region ?_
    refine AO.op rfl (AOp.move rfl rfl (ltb rfl) rfl ?_)
    refine AO.op rfl (AOp.move rfl rfl (ltb rfl) rfl ?_)
    refine AO.op rfl (AOp.inl [1, 2, 7] (by kernel_rfl) Tryd.func45 rfl Tryd.ntmps45 rfl rfl (ltb rfl) rfl (leb rfl) rfl ?_)
    intro fr61
    refine AC.seq ?_
    refine AC.region ?_
    refine AO.op rfl (AOp.assign rfl rfl (ltb rfl) rfl ?_)
    refine AO.op rfl (AOp.assign rfl rfl (ltb rfl) rfl ?_)
    refine AO.objs (obs' := [.fix 24 [.d (.v (.slice none 0 0))], .fix 3 [.d (di .i64 (0 : Int))], .fix 4 [.d (dbool false)], .dead, .fix 71 [.d (eS0 a0), .d (di .i64 ((m17 : Nat) : Int)), .d (di .i8 g22)], .dead, .frame fr4 [(6, .ptr 0 0), (7, .ptr 1 0), (8, .ptr 2 0), (9, .ptr 4 0)], .dead, .fix 102 (List.map (fun z => SV.d (keS0 z)) c19), .dead, .dead, .dead, .dead, .dead, .fix 94 [], .fix 63 (List.map (fun z => SV.d (keS1 z)) (List.replicate ((v54 * a2)).toNat (0 : Nat))), .frame fr58 [(11, .sl 15 1 0 (((v54 * a2)).toNat) (((v54 * a2)).toNat))], .fix 5 (List.map (fun z => SV.d (keS0 z)) (List.replicate (((8 : Int) * ((((v54 * a2)).toNat : Nat) : Int))).toNat (0 : Int))), .frame fr61 [(1, .ifc 94 (.ag [])), (2, .sl 15 1 0 (((v54 * a2)).toNat) (((v54 * a2)).toNat)), (7, .sl 17 1 0 ((((8 : Int) * ((((v54 * a2)).toNat : Nat) : Int))).toNat) ((((8 : Int) * ((((v54 * a2)).toNat : Nat) : Int))).toNat))]]) rfl ?_
    refine AO.nil ?_
    change AC _ _ _ _
    refine AC.seq ?_
    refine AC.region ?_
    refine AO.op rfl (AOp.move rfl rfl (ltb rfl) rfl ?_)
    refine AO.op rfl (AOp.move rfl rfl (ltb rfl) rfl ?_)
    refine AO.op rfl (AOp.move rfl rfl (ltb rfl) rfl ?_)
    refine AO.op rfl (AOp.lenSl rfl rfl (ltb rfl) rfl el22 ?_)
    refine AO.op rfl (AOp.inl [4, 5] (by kernel_rfl) Tryd.func53 rfl Tryd.ntmps53 rfl rfl (ltb rfl) rfl (leb rfl) rfl ?_)
    intro fr62
    refine AC.seq ?_
    refine AC.region ?_
    refine AO.op rfl (AOp.assign rfl rfl (ltb rfl) rfl ?_)
    refine AO.op rfl (AOp.assign rfl rfl (ltb rfl) rfl ?_)
    refine AO.objs (obs' := [.fix 24 [.d (.v (.slice none 0 0))], .fix 3 [.d (di .i64 (0 : Int))], .fix 4 [.d (dbool false)], .dead, .fix 71 [.d (eS0 a0), .d (di .i64 ((m17 : Nat) : Int)), .d (di .i8 g22)], .dead, .frame fr4 [(6, .ptr 0 0), (7, .ptr 1 0), (8, .ptr 2 0), (9, .ptr 4 0)], .dead, .fix 102 (List.map (fun z => SV.d (keS0 z)) c19), .dead, .dead, .dead, .dead, .dead, .fix 94 [], .fix 63 (List.map (fun z => SV.d (keS1 z)) (List.replicate ((v54 * a2)).toNat (0 : Nat))), .frame fr58 [(11, .sl 15 1 0 (((v54 * a2)).toNat) (((v54 * a2)).toNat))], .fix 5 (List.map (fun z => SV.d (keS0 z)) (List.replicate (((8 : Int) * ((((v54 * a2)).toNat : Nat) : Int))).toNat (0 : Int))), .frame fr61 [(1, .ifc 94 (.ag [])), (2, .sl 15 1 0 (((v54 * a2)).toNat) (((v54 * a2)).toNat)), (7, .sl 17 1 0 ((((8 : Int) * ((((v54 * a2)).toNat : Nat) : Int))).toNat) ((((8 : Int) * ((((v54 * a2)).toNat : Nat) : Int))).toNat))], .frame fr62 [(4, .d (di .i64 (0 : Int))), (5, .d (.v (.nilIface)))]]) rfl ?_
    refine AO.nil ?_
    change AC _ _ _ _
    refine AC.seq ?_
    refine AC.seq ?_
    refine AC.region ?_
    refine AO.op rfl (AOp.move rfl rfl (ltb rfl) rfl ?_)
    refine AO.op rfl (AOp.lenSl rfl rfl (ltb rfl) rfl el22 ?_)
    refine AO.op rfl (AOp.move rfl rfl (ltb rfl) rfl ?_)
    refine AO.op rfl (AOp.ilss rfl rfl (ltb rfl) rfl rfl ?_)
    refine AO.nil ?_
    change AC _ _ _ _
    refine AC.condF rfl (dlt_self _) ?_
    refine AC.skip ?_
    change AC _ _ _ _
    refine AC.seq ?_
    refine AC.block ?_
    refine AC.loopU ?_
    refine ACL.round ?_
    refine AC.seq ?_
    refine AC.seq ?_
    refine AC.region ?_
    refine AO.op rfl (AOp.move rfl rfl (ltb rfl) rfl ?_)
    refine AO.op rfl (AOp.move rfl rfl (ltb rfl) rfl ?_)
    refine AO.op rfl (AOp.ilss rfl rfl (ltb rfl) rfl rfl ?_)
    refine AO.op rfl (AOp.move rfl rfl (ltb rfl) rfl ?_)
    refine AO.dec (decide ((0 : Int) < (((((8 : Int) * ((((v54 * a2)).toNat : Nat) : Int))).toNat : Nat) : Int))) (fun q63 => ?_) (fun q63 => ?_)
    · replace h0 := cT h0 q63
      refine AO.guardY rfl rfl rfl q63 (AOp.move rfl rfl (ltb rfl) rfl ?_)
      refine AO.guardY rfl rfl rfl q63 (AOp.nilEq rfl rfl (ltb rfl) rfl imeth57 ?_)
      refine AO.op rfl (AOp.pick rfl rfl (ltb rfl) rfl q63 rfl ?_)
      refine AO.nil ?_
      change AC _ _ _ _
      refine AC.condT rfl rfl ?_
      refine AC.skip ?_
      change AC _ _ _ _
      refine AC.block ?_
      refine AC.seq ?_
      refine AC.region ?_
      refine AO.op rfl (AOp.assign rfl rfl (ltb rfl) rfl ?_)
      refine AO.nil ?_
      change AC _ _ _ _
      refine AC.seq ?_
      refine AC.drawC 7 mixed (by kernel_rfl) rfl ?_
      refine AD.op [0] rfl (by kernel_rfl) rfl rfl (fun _ _ h => AOp.move rfl rfl (ltb rfl) rfl h) ?_
      refine AD.op [1] rfl (by kernel_rfl) rfl rfl (fun _ _ h => AOp.move rfl rfl (ltb rfl) rfl h) ?_
      refine AD.op [6] rfl (by kernel_rfl) rfl rfl (fun _ _ h => AOp.move rfl rfl (ltb rfl) rfl h) ?_
      refine AD.op [23, 24] rfl (by kernel_rfl) rfl rfl (fun _ _ h => AOp.sliceSl0 rfl rfl (ltb rfl) rfl rfl el22 h) ?_
      refine AD.op [22] rfl (by kernel_rfl) rfl rfl (fun _ _ h => AOp.makeMeth rfl rfl (ltb rfl) rfl h) ?_
      refine AD.op [26] rfl (by kernel_rfl) rfl rfl (fun _ _ h => AOp.nilMeth rfl rfl (ltb rfl) rfl rfl nilm54_Read h) ?_
      refine AD.op [22] rfl (by kernel_rfl) rfl rfl (fun _ _ h => AOp.move rfl rfl (ltb rfl) rfl h) ?_
      refine AD.done ?_
      refine AO.op rfl (AOp.inlE [0, 1, 2, 6, 7, 8] (EntersS.meth (by kernel_rfl) rfl rfl rfl meth54_Read rfl rfl) Tryd.func71 rfl Tryd.ntmps71 rfl (ltb rfl) (leb rfl) rfl ?_)
      intro fr64
      refine AC.seq ?_
      refine AC.region ?_
      refine AO.op rfl (AOp.assign rfl rfl (ltb rfl) rfl ?_)
      refine AO.op rfl (AOp.assign rfl rfl (ltb rfl) rfl ?_)
      refine AO.objs (obs' := [.fix 24 [.d (.v (.slice none 0 0))], .fix 3 [.d (di .i64 (0 : Int))], .fix 4 [.d (dbool false)], .dead, .fix 71 [.d (eS0 a0), .d (di .i64 ((m17 : Nat) : Int)), .d (di .i8 g22)], .dead, .frame fr4 [(6, .ptr 0 0), (7, .ptr 1 0), (8, .ptr 2 0), (9, .ptr 4 0)], .dead, .fix 102 (List.map (fun z => SV.d (keS0 z)) c19), .dead, .dead, .dead, .dead, .dead, .fix 94 [], .fix 63 (List.map (fun z => SV.d (keS1 z)) (List.replicate ((v54 * a2)).toNat (0 : Nat))), .frame fr58 [(11, .sl 15 1 0 (((v54 * a2)).toNat) (((v54 * a2)).toNat))], .fix 5 (List.map (fun z => SV.d (keS0 z)) (List.replicate (((8 : Int) * ((((v54 * a2)).toNat : Nat) : Int))).toNat (0 : Int))), .frame fr61 [(1, .ifc 94 (.ag [])), (2, .sl 15 1 0 (((v54 * a2)).toNat) (((v54 * a2)).toNat)), (7, .sl 17 1 0 ((((8 : Int) * ((((v54 * a2)).toNat : Nat) : Int))).toNat) ((((8 : Int) * ((((v54 * a2)).toNat : Nat) : Int))).toNat))], .frame fr62 [(4, .d (di .i64 (0 : Int))), (5, .d (.v (.nilIface)))], .frame fr64 [(0, .ifc 54 (.ptr 4 0)), (1, .sl 17 1 0 ((((8 : Int) * ((((v54 * a2)).toNat : Nat) : Int))).toNat) ((((8 : Int) * ((((v54 * a2)).toNat : Nat) : Int))).toNat)), (2, .d (di .i64 (((((8 : Int) * ((((v54 * a2)).toNat : Nat) : Int))).toNat : Nat) : Int))), (6, .d (di .i64 (0 : Int))), (7, .d (.v (.nilIface))), (8, .d (di .i64 (0 : Int)))]]) rfl ?_
      refine AO.nil ?_
      change AC _ _ _ _
      refine AC.seq ?_
      refine AC.region ?_
      refine AO.op rfl (AOp.move rfl rfl (ltb rfl) rfl ?_)
      refine AO.op rfl (AOp.nilCheck rfl rfl (ltb rfl) rfl rfl ?_)
      refine AO.op rfl (AOp.fieldAddr rfl rfl (ltb rfl) rfl fo71_2 ?_)
      refine AO.op rfl (AOp.store rfl rfl rfl rfl size69 rfl rfl rfl (leb rfl) ?_)
      refine AO.nil ?_
      change AC _ _ _ _
      refine AC.seq ?_
      refine AC.seq ?_
      refine AC.region ?_
      refine AO.op rfl (AOp.move rfl rfl (ltb rfl) rfl ?_)
      refine AO.op rfl (AOp.inl [0, 1] (by kernel_rfl) Tryd.func75 rfl Tryd.ntmps75 rfl rfl (ltb rfl) rfl (leb rfl) rfl ?_)
      intro fr65
      refine AC.seq ?_
      refine AC.region ?_
      refine AO.op rfl (AOp.assign rfl rfl (ltb rfl) rfl ?_)
      refine AO.objs (obs' := [.fix 24 [.d (.v (.slice none 0 0))], .fix 3 [.d (di .i64 (0 : Int))], .fix 4 [.d (dbool false)], .dead, .fix 71 [.d (eS0 a0), .d (di .i64 ((m17 : Nat) : Int)), .d (di .i8 (0 : Int))], .dead, .frame fr4 [(6, .ptr 0 0), (7, .ptr 1 0), (8, .ptr 2 0), (9, .ptr 4 0)], .dead, .fix 102 (List.map (fun z => SV.d (keS0 z)) c19), .dead, .dead, .dead, .dead, .dead, .fix 94 [], .fix 63 (List.map (fun z => SV.d (keS1 z)) (List.replicate ((v54 * a2)).toNat (0 : Nat))), .frame fr58 [(11, .sl 15 1 0 (((v54 * a2)).toNat) (((v54 * a2)).toNat))], .fix 5 (List.map (fun z => SV.d (keS0 z)) (List.replicate (((8 : Int) * ((((v54 * a2)).toNat : Nat) : Int))).toNat (0 : Int))), .frame fr61 [(1, .ifc 94 (.ag [])), (2, .sl 15 1 0 (((v54 * a2)).toNat) (((v54 * a2)).toNat)), (7, .sl 17 1 0 ((((8 : Int) * ((((v54 * a2)).toNat : Nat) : Int))).toNat) ((((8 : Int) * ((((v54 * a2)).toNat : Nat) : Int))).toNat))], .frame fr62 [(4, .d (di .i64 (0 : Int))), (5, .d (.v (.nilIface)))], .frame fr64 [(0, .ifc 54 (.ptr 4 0)), (1, .sl 17 1 0 ((((8 : Int) * ((((v54 * a2)).toNat : Nat) : Int))).toNat) ((((8 : Int) * ((((v54 * a2)).toNat : Nat) : Int))).toNat)), (2, .d (di .i64 (((((8 : Int) * ((((v54 * a2)).toNat : Nat) : Int))).toNat : Nat) : Int))), (6, .d (di .i64 (0 : Int))), (7, .d (.v (.nilIface))), (8, .d (di .i64 (0 : Int)))], .frame fr65 [(0, .ptr 4 0), (1, .sl 17 1 0 ((((8 : Int) * ((((v54 * a2)).toNat : Nat) : Int))).toNat) ((((8 : Int) * ((((v54 * a2)).toNat : Nat) : Int))).toNat))]]) rfl ?_
      refine AO.nil ?_
      change AC _ _ _ _
      refine AC.seq ?_
      refine AC.draw 11 mixed (by kernel_rfl) ?_
      refine AD.op [0] rfl (by kernel_rfl) rfl rfl (fun _ _ h => AOp.move rfl rfl (ltb rfl) rfl h) ?_
      refine AD.op [3] rfl (by kernel_rfl) rfl rfl (fun _ _ h => AOp.nilCheck rfl rfl (ltb rfl) rfl rfl h) ?_
      refine AD.op [4] rfl (by kernel_rfl) rfl rfl (fun _ _ h => AOp.fieldAddr rfl rfl (ltb rfl) rfl fo71_0 h) ?_
      refine AD.op [5] rfl (by kernel_rfl) rfl rfl (fun _ _ h => AOp.load1 rfl rfl (ltb rfl) rfl agg22 rfl rfl h) ?_
      refine AD.op [6] rfl (by kernel_rfl) rfl rfl (fun _ _ h => AOp.lenDs (n := a0.length) (cells := (List.map keS0 a0)) rfl rfl (ltb rfl) rfl el22 (by decide) (len1 _ _) h) ?_
      refine AD.op [0] rfl (by kernel_rfl) rfl rfl (fun _ _ h => AOp.move rfl rfl (ltb rfl) rfl h) ?_
      refine AD.op [8] rfl (by kernel_rfl) rfl rfl (fun _ _ h => AOp.nilCheck rfl rfl (ltb rfl) rfl rfl h) ?_
      refine AD.op [9] rfl (by kernel_rfl) rfl rfl (fun _ _ h => AOp.fieldAddr rfl rfl (ltb rfl) rfl fo71_1 h) ?_
      refine AD.op [10] rfl (by kernel_rfl) rfl rfl (fun _ _ h => AOp.load1 rfl rfl (ltb rfl) rfl agg3 rfl rfl h) ?_
      refine AD.op [7, 11] rfl (by kernel_rfl) rfl rfl (fun _ _ h => AOp.ileq rfl rfl (ltb rfl) rfl rfl h) ?_
      refine AD.op [12] rfl (by kernel_rfl) rfl rfl (fun _ _ h => AOp.assign rfl rfl (ltb rfl) rfl h) ?_
      refine AD.done ?_
      refine AO.nil ?_
      change AC _ _ _ _
      refine AC.ret ?_
      refine inlret (ob' := [.fix 24 [.d (.v (.slice none 0 0))], .fix 3 [.d (di .i64 (0 : Int))], .fix 4 [.d (dbool false)], .dead, .fix 71 [.d (eS0 a0), .d (di .i64 ((m17 : Nat) : Int)), .d (di .i8 (0 : Int))], .dead, .frame fr4 [(6, .ptr 0 0), (7, .ptr 1 0), (8, .ptr 2 0), (9, .ptr 4 0)], .dead, .fix 102 (List.map (fun z => SV.d (keS0 z)) c19), .dead, .dead, .dead, .dead, .dead, .fix 94 [], .fix 63 (List.map (fun z => SV.d (keS1 z)) (List.replicate ((v54 * a2)).toNat (0 : Nat))), .frame fr58 [(11, .sl 15 1 0 (((v54 * a2)).toNat) (((v54 * a2)).toNat))], .fix 5 (List.map (fun z => SV.d (keS0 z)) (List.replicate (((8 : Int) * ((((v54 * a2)).toNat : Nat) : Int))).toNat (0 : Int))), .frame fr61 [(1, .ifc 94 (.ag [])), (2, .sl 15 1 0 (((v54 * a2)).toNat) (((v54 * a2)).toNat)), (7, .sl 17 1 0 ((((8 : Int) * ((((v54 * a2)).toNat : Nat) : Int))).toNat) ((((8 : Int) * ((((v54 * a2)).toNat : Nat) : Int))).toNat))], .frame fr62 [(4, .d (di .i64 (0 : Int))), (5, .d (.v (.nilIface)))], .frame fr64 [(0, .ifc 54 (.ptr 4 0)), (1, .sl 17 1 0 ((((8 : Int) * ((((v54 * a2)).toNat : Nat) : Int))).toNat) ((((8 : Int) * ((((v54 * a2)).toNat : Nat) : Int))).toNat)), (2, .d (di .i64 (((((8 : Int) * ((((v54 * a2)).toNat : Nat) : Int))).toNat : Nat) : Int))), (6, .d (di .i64 (0 : Int))), (7, .d (.v (.nilIface))), (8, .d (di .i64 (0 : Int)))], .dead]) (e' := [(0, .ptr 4 0), (1, .sl 17 1 0 ((((8 : Int) * ((((v54 * a2)).toNat : Nat) : Int))).toNat) ((((8 : Int) * ((((v54 * a2)).toNat : Nat) : Int))).toNat))]) (r := .d (dbool (decide (((a0.length : Nat) : Int) ≤ ((m17 : Nat) : Int))))) rfl rfl rfl ?_
      change AO _ _ _ _ _
      refine AO.objs (obs' := [.fix 24 [.d (.v (.slice none 0 0))], .fix 3 [.d (di .i64 (0 : Int))], .fix 4 [.d (dbool false)], .dead, .fix 71 [.d (eS0 a0), .d (di .i64 ((m17 : Nat) : Int)), .d (di .i8 (0 : Int))], .dead, .frame fr4 [(6, .ptr 0 0), (7, .ptr 1 0), (8, .ptr 2 0), (9, .ptr 4 0)], .dead, .fix 102 (List.map (fun z => SV.d (keS0 z)) c19), .dead, .dead, .dead, .dead, .dead, .fix 94 [], .fix 63 (List.map (fun z => SV.d (keS1 z)) (List.replicate ((v54 * a2)).toNat (0 : Nat))), .frame fr58 [(11, .sl 15 1 0 (((v54 * a2)).toNat) (((v54 * a2)).toNat))], .fix 5 (List.map (fun z => SV.d (keS0 z)) (List.replicate (((8 : Int) * ((((v54 * a2)).toNat : Nat) : Int))).toNat (0 : Int))), .frame fr61 [(1, .ifc 94 (.ag [])), (2, .sl 15 1 0 (((v54 * a2)).toNat) (((v54 * a2)).toNat)), (7, .sl 17 1 0 ((((8 : Int) * ((((v54 * a2)).toNat : Nat) : Int))).toNat) ((((8 : Int) * ((((v54 * a2)).toNat : Nat) : Int))).toNat))], .frame fr62 [(4, .d (di .i64 (0 : Int))), (5, .d (.v (.nilIface)))], .frame fr64 [(0, .ifc 54 (.ptr 4 0)), (1, .sl 17 1 0 ((((8 : Int) * ((((v54 * a2)).toNat : Nat) : Int))).toNat) ((((8 : Int) * ((((v54 * a2)).toNat : Nat) : Int))).toNat)), (2, .d (di .i64 (((((8 : Int) * ((((v54 * a2)).toNat : Nat) : Int))).toNat : Nat) : Int))), (6, .d (di .i64 (0 : Int))), (7, .d (.v (.nilIface))), (8, .d (di .i64 (0 : Int)))], .dead]) rfl ?_
      refine AO.nil ?_
      change AC _ _ _ _
      refine AC.cond rfl (fun q66 => ?_) (fun q66 => ?_)
      · replace h0 := cT h0 q66
        refine AC.seq ?_
        refine AC.region ?_
        refine AO.op rfl (AOp.move rfl rfl (ltb rfl) rfl ?_)
        refine AO.op rfl (AOp.inl [1] (by kernel_rfl) Tryd.func72 rfl Tryd.ntmps72 rfl rfl (ltb rfl) rfl (leb rfl) rfl ?_)
        intro fr67
        refine AC.seq ?_
        refine AC.region ?_
        refine AO.op rfl (AOp.move rfl rfl (ltb rfl) rfl ?_)
        refine AO.op rfl (AOp.move rfl rfl (ltb rfl) rfl ?_)
        refine AO.op rfl (AOp.nilCheck rfl rfl (ltb rfl) rfl rfl ?_)
        refine AO.op rfl (AOp.fieldAddr rfl rfl (ltb rfl) rfl fo71_0 ?_)
        refine AO.op rfl (AOp.load1 rfl rfl (ltb rfl) rfl agg22 rfl rfl ?_)
        obtain ⟨q68, h0⟩ := need_elim h0
        refine AO.op rfl (AOp.sliceD (cells := (List.map keS0 a0)) (n := a0.length) (l := 0) (hh := ((0 : Int)).toNat) rfl rfl (ltb rfl) rfl (.inl ⟨rfl, rfl⟩) (.inr ⟨_, _, _, rfl, rfl, q68.1.2, rfl⟩) el22 (by decide) (len1 _ _) q68.2.1 q68.2.2 (sub1 _ _ _ _) ?_)
        refine AO.op rfl (AOp.nilCheck rfl rfl (ltb rfl) rfl rfl ?_)
        refine AO.op rfl (AOp.fieldAddr rfl rfl (ltb rfl) rfl fo71_0 ?_)
        refine AO.op rfl (AOp.store rfl rfl rfl rfl size22 rfl rfl rfl (leb rfl) ?_)
        refine AO.objs (obs' := [.fix 24 [.d (.v (.slice none 0 0))], .fix 3 [.d (di .i64 (0 : Int))], .fix 4 [.d (dbool false)], .dead, .fix 71 [.d (eS0 ((a0.drop 0).take (((0 : Int)).toNat - 0))), .d (di .i64 ((m17 : Nat) : Int)), .d (di .i8 (0 : Int))], .dead, .frame fr4 [(6, .ptr 0 0), (7, .ptr 1 0), (8, .ptr 2 0), (9, .ptr 4 0)], .dead, .fix 102 (List.map (fun z => SV.d (keS0 z)) c19), .dead, .dead, .dead, .dead, .dead, .fix 94 [], .fix 63 (List.map (fun z => SV.d (keS1 z)) (List.replicate ((v54 * a2)).toNat (0 : Nat))), .frame fr58 [(11, .sl 15 1 0 (((v54 * a2)).toNat) (((v54 * a2)).toNat))], .fix 5 (List.map (fun z => SV.d (keS0 z)) (List.replicate (((8 : Int) * ((((v54 * a2)).toNat : Nat) : Int))).toNat (0 : Int))), .frame fr61 [(1, .ifc 94 (.ag [])), (2, .sl 15 1 0 (((v54 * a2)).toNat) (((v54 * a2)).toNat)), (7, .sl 17 1 0 ((((8 : Int) * ((((v54 * a2)).toNat : Nat) : Int))).toNat) ((((8 : Int) * ((((v54 * a2)).toNat : Nat) : Int))).toNat))], .frame fr62 [(4, .d (di .i64 (0 : Int))), (5, .d (.v (.nilIface)))], .frame fr64 [(0, .ifc 54 (.ptr 4 0)), (1, .sl 17 1 0 ((((8 : Int) * ((((v54 * a2)).toNat : Nat) : Int))).toNat) ((((8 : Int) * ((((v54 * a2)).toNat : Nat) : Int))).toNat)), (2, .d (di .i64 (((((8 : Int) * ((((v54 * a2)).toNat : Nat) : Int))).toNat : Nat) : Int))), (6, .d (di .i64 (0 : Int))), (7, .d (.v (.nilIface))), (8, .d (di .i64 (0 : Int)))], .dead, .frame fr67 [(1, .sl 17 1 0 ((((8 : Int) * ((((v54 * a2)).toNat : Nat) : Int))).toNat) ((((8 : Int) * ((((v54 * a2)).toNat : Nat) : Int))).toNat))]]) rfl ?_
        refine AO.nil ?_
        change AC _ _ _ _
        refine AC.seq ?_
        refine AC.region ?_
        refine AO.op rfl (AOp.move rfl rfl (ltb rfl) rfl ?_)
        refine AO.op rfl (AOp.nilCheck rfl rfl (ltb rfl) rfl rfl ?_)
        refine AO.op rfl (AOp.fieldAddr rfl rfl (ltb rfl) rfl fo71_1 ?_)
        refine AO.op rfl (AOp.store rfl rfl rfl rfl size3 rfl rfl rfl (leb rfl) ?_)
        refine AO.nil ?_
        change AC _ _ _ _
        refine AC.region ?_
        refine AO.op rfl (AOp.move rfl rfl (ltb rfl) rfl ?_)
        refine AO.op rfl (AOp.nilCheck rfl rfl (ltb rfl) rfl rfl ?_)
        refine AO.op rfl (AOp.fieldAddr rfl rfl (ltb rfl) rfl fo71_2 ?_)
        refine AO.op rfl (AOp.store rfl rfl rfl rfl size69 rfl rfl rfl (leb rfl) ?_)
        refine AO.nil ?_
        refine inlend (ob' := [.fix 24 [.d (.v (.slice none 0 0))], .fix 3 [.d (di .i64 (0 : Int))], .fix 4 [.d (dbool false)], .dead, .fix 71 [.d (eS0 ((a0.drop 0).take (((0 : Int)).toNat - 0))), .d (di .i64 (0 : Int)), .d (di .i8 (0 : Int))], .dead, .frame fr4 [(6, .ptr 0 0), (7, .ptr 1 0), (8, .ptr 2 0), (9, .ptr 4 0)], .dead, .fix 102 (List.map (fun z => SV.d (keS0 z)) c19), .dead, .dead, .dead, .dead, .dead, .fix 94 [], .fix 63 (List.map (fun z => SV.d (keS1 z)) (List.replicate ((v54 * a2)).toNat (0 : Nat))), .frame fr58 [(11, .sl 15 1 0 (((v54 * a2)).toNat) (((v54 * a2)).toNat))], .fix 5 (List.map (fun z => SV.d (keS0 z)) (List.replicate (((8 : Int) * ((((v54 * a2)).toNat : Nat) : Int))).toNat (0 : Int))), .frame fr61 [(1, .ifc 94 (.ag [])), (2, .sl 15 1 0 (((v54 * a2)).toNat) (((v54 * a2)).toNat)), (7, .sl 17 1 0 ((((8 : Int) * ((((v54 * a2)).toNat : Nat) : Int))).toNat) ((((8 : Int) * ((((v54 * a2)).toNat : Nat) : Int))).toNat))], .frame fr62 [(4, .d (di .i64 (0 : Int))), (5, .d (.v (.nilIface)))], .frame fr64 [(0, .ifc 54 (.ptr 4 0)), (1, .sl 17 1 0 ((((8 : Int) * ((((v54 * a2)).toNat : Nat) : Int))).toNat) ((((8 : Int) * ((((v54 * a2)).toNat : Nat) : Int))).toNat)), (2, .d (di .i64 (((((8 : Int) * ((((v54 * a2)).toNat : Nat) : Int))).toNat : Nat) : Int))), (6, .d (di .i64 (0 : Int))), (7, .d (.v (.nilIface))), (8, .d (di .i64 (0 : Int)))], .dead, .dead]) (e' := [(1, .sl 17 1 0 ((((8 : Int) * ((((v54 * a2)).toNat : Nat) : Int))).toNat) ((((8 : Int) * ((((v54 * a2)).toNat : Nat) : Int))).toNat))]) (r := .tu []) rfl rfl rfl ?_
        change AO _ _ _ _ _
        refine AO.objs (obs' := [.fix 24 [.d (.v (.slice none 0 0))], .fix 3 [.d (di .i64 (0 : Int))], .fix 4 [.d (dbool false)], .dead, .fix 71 [.d (eS0 ((a0.drop 0).take (((0 : Int)).toNat - 0))), .d (di .i64 (0 : Int)), .d (di .i8 (0 : Int))], .dead, .frame fr4 [(6, .ptr 0 0), (7, .ptr 1 0), (8, .ptr 2 0), (9, .ptr 4 0)], .dead, .fix 102 (List.map (fun z => SV.d (keS0 z)) c19), .dead, .dead, .dead, .dead, .dead, .fix 94 [], .fix 63 (List.map (fun z => SV.d (keS1 z)) (List.replicate ((v54 * a2)).toNat (0 : Nat))), .frame fr58 [(11, .sl 15 1 0 (((v54 * a2)).toNat) (((v54 * a2)).toNat))], .fix 5 (List.map (fun z => SV.d (keS0 z)) (List.replicate (((8 : Int) * ((((v54 * a2)).toNat : Nat) : Int))).toNat (0 : Int))), .frame fr61 [(1, .ifc 94 (.ag [])), (2, .sl 15 1 0 (((v54 * a2)).toNat) (((v54 * a2)).toNat)), (7, .sl 17 1 0 ((((8 : Int) * ((((v54 * a2)).toNat : Nat) : Int))).toNat) ((((8 : Int) * ((((v54 * a2)).toNat : Nat) : Int))).toNat))], .frame fr62 [(4, .d (di .i64 (0 : Int))), (5, .d (.v (.nilIface)))], .frame fr64 [(0, .ifc 54 (.ptr 4 0)), (1, .sl 17 1 0 ((((8 : Int) * ((((v54 * a2)).toNat : Nat) : Int))).toNat) ((((8 : Int) * ((((v54 * a2)).toNat : Nat) : Int))).toNat)), (2, .d (di .i64 (((((8 : Int) * ((((v54 * a2)).toNat : Nat) : Int))).toNat : Nat) : Int))), (6, .d (di .i64 (0 : Int))), (7, .d (.v (.nilIface))), (8, .d (di .i64 (0 : Int)))], .dead, .dead]) rfl ?_
        refine AO.nil ?_
        change AC _ _ _ _
        refine AC.seq ?_
        refine AC.seq ?_
        refine AC.region ?_
        refine AO.op rfl (AOp.move rfl rfl (ltb rfl) rfl ?_)
        refine AO.op rfl (AOp.lenSl rfl rfl (ltb rfl) rfl el22 ?_)
        refine AO.op rfl (AOp.ieql rfl rfl (ltb rfl) rfl rfl ?_)
        refine AO.nil ?_
        change AC _ _ _ _
        refine AC.cond rfl (fun q69 => ?_) (fun q69 => ?_)
        · replace h0 := cT h0 q69
          cases h0
        replace h0 := cF h0 q69
        refine AC.skip ?_
        change AC _ _ _ _
        refine AC.seq ?_
        refine AC.draw 3 mixed (by kernel_rfl) ?_
        refine AD.op [] rfl (by kernel_rfl) rfl rfl (fun _ _ h => AOp.loadEV rfl rfl (ltb rfl) rfl agg57 (by simp [GlobsP]) h) ?_
        refine AD.op [] rfl (by kernel_rfl) rfl rfl (fun _ _ h => AOp.assign rfl rfl (ltb rfl) rfl h) ?_
        refine AD.op [16] rfl (by kernel_rfl) rfl rfl (fun _ _ h => AOp.assign rfl rfl (ltb rfl) rfl h) ?_
        refine AD.done ?_
        refine AO.nil ?_
        change AC _ _ _ _
        refine AC.ret ?_
        refine inlret (ob' := [.fix 24 [.d (.v (.slice none 0 0))], .fix 3 [.d (di .i64 (0 : Int))], .fix 4 [.d (dbool false)], .dead, .fix 71 [.d (eS0 ((a0.drop 0).take (((0 : Int)).toNat - 0))), .d (di .i64 (0 : Int)), .d (di .i8 (0 : Int))], .dead, .frame fr4 [(6, .ptr 0 0), (7, .ptr 1 0), (8, .ptr 2 0), (9, .ptr 4 0)], .dead, .fix 102 (List.map (fun z => SV.d (keS0 z)) c19), .dead, .dead, .dead, .dead, .dead, .fix 94 [], .fix 63 (List.map (fun z => SV.d (keS1 z)) (List.replicate ((v54 * a2)).toNat (0 : Nat))), .frame fr58 [(11, .sl 15 1 0 (((v54 * a2)).toNat) (((v54 * a2)).toNat))], .fix 5 (List.map (fun z => SV.d (keS0 z)) (List.replicate (((8 : Int) * ((((v54 * a2)).toNat : Nat) : Int))).toNat (0 : Int))), .frame fr61 [(1, .ifc 94 (.ag [])), (2, .sl 15 1 0 (((v54 * a2)).toNat) (((v54 * a2)).toNat)), (7, .sl 17 1 0 ((((8 : Int) * ((((v54 * a2)).toNat : Nat) : Int))).toNat) ((((8 : Int) * ((((v54 * a2)).toNat : Nat) : Int))).toNat))], .frame fr62 [(4, .d (di .i64 (0 : Int))), (5, .d (.v (.nilIface)))], .dead, .dead, .dead]) (e' := [(0, .ifc 54 (.ptr 4 0)), (1, .sl 17 1 0 ((((8 : Int) * ((((v54 * a2)).toNat : Nat) : Int))).toNat) ((((8 : Int) * ((((v54 * a2)).toNat : Nat) : Int))).toNat)), (2, .d (di .i64 (((((8 : Int) * ((((v54 * a2)).toNat : Nat) : Int))).toNat : Nat) : Int))), (6, .d (di .i64 (0 : Int))), (7, .d (.v (.nilIface))), (8, .d (di .i64 (0 : Int)))]) (r := .tu [.d (di .i64 (0 : Int)), .d (.v (errV W 5))]) rfl rfl rfl ?_
        change AO _ _ _ _ _
        refine AO.objs (obs' := [.fix 24 [.d (.v (.slice none 0 0))], .fix 3 [.d (di .i64 (0 : Int))], .fix 4 [.d (dbool false)], .dead, .fix 71 [.d (eS0 ((a0.drop 0).take (((0 : Int)).toNat - 0))), .d (di .i64 (0 : Int)), .d (di .i8 (0 : Int))], .dead, .frame fr4 [(6, .ptr 0 0), (7, .ptr 1 0), (8, .ptr 2 0), (9, .ptr 4 0)], .dead, .fix 102 (List.map (fun z => SV.d (keS0 z)) c19), .dead, .dead, .dead, .dead, .dead, .fix 94 [], .fix 63 (List.map (fun z => SV.d (keS1 z)) (List.replicate ((v54 * a2)).toNat (0 : Nat))), .frame fr58 [(11, .sl 15 1 0 (((v54 * a2)).toNat) (((v54 * a2)).toNat))], .fix 5 (List.map (fun z => SV.d (keS0 z)) (List.replicate (((8 : Int) * ((((v54 * a2)).toNat : Nat) : Int))).toNat (0 : Int))), .frame fr61 [(1, .ifc 94 (.ag [])), (2, .sl 15 1 0 (((v54 * a2)).toNat) (((v54 * a2)).toNat)), (7, .sl 17 1 0 ((((8 : Int) * ((((v54 * a2)).toNat : Nat) : Int))).toNat) ((((8 : Int) * ((((v54 * a2)).toNat : Nat) : Int))).toNat))], .frame fr62 [(4, .d (di .i64 (0 : Int))), (5, .d (.v (.nilIface)))], .dead, .dead, .dead]) rfl ?_
        refine AO.nil ?_
        change AD _ _ _ _ _
        refine AD.op [29] rfl (by kernel_rfl) rfl rfl (fun _ _ h => AOp.move rfl rfl (ltb rfl) rfl h) ?_
        first | refine AD.op [21] rfl (by kernel_rfl) rfl rfl (fun _ _ h => AOp.extractD rfl rfl (ltb rfl) rfl rfl h) ?_ | refine AD.op [21] rfl (by kernel_rfl) rfl rfl (fun _ _ h => AOp.extract rfl rfl (ltb rfl) rfl rfl h) ?_
        first | refine AD.op [21] rfl (by kernel_rfl) rfl rfl (fun _ _ h => AOp.extractD rfl rfl (ltb rfl) rfl rfl h) ?_ | refine AD.op [21] rfl (by kernel_rfl) rfl rfl (fun _ _ h => AOp.extract rfl rfl (ltb rfl) rfl rfl h) ?_
        refine AD.op [30] rfl (by kernel_rfl) rfl rfl (fun _ _ h => AOp.assign rfl rfl (ltb rfl) rfl h) ?_
        refine AD.op [31] rfl (by kernel_rfl) rfl rfl (fun _ _ h => AOp.assign rfl rfl (ltb rfl) rfl h) ?_
        refine AD.done ?_
        refine AO.nil ?_
        change AC _ _ _ _
        refine AC.region ?_
        refine AO.op rfl (AOp.move rfl rfl (ltb rfl) rfl ?_)
        refine AO.op rfl (AOp.move rfl rfl (ltb rfl) rfl ?_)
        refine AO.op rfl (AOp.iadd rfl rfl (ltb rfl) rfl rfl (show (0 : Int) + (0 : Int) = (0 : Int) by decide) (by decide) (by decide) ?_)
        refine AO.op rfl (AOp.assign rfl rfl (ltb rfl) rfl ?_)
        refine AO.nil ?_
        change ACL _ _ _ _
        refine ACL.round ?_
        refine AC.seq ?_
        refine AC.seq ?_
        refine AC.region ?_
        refine AO.op rfl (AOp.move rfl rfl (ltb rfl) rfl ?_)
        refine AO.op rfl (AOp.move rfl rfl (ltb rfl) rfl ?_)
        refine AO.op rfl (AOp.ilss rfl rfl (ltb rfl) rfl rfl ?_)
        refine AO.op rfl (AOp.move rfl rfl (ltb rfl) rfl ?_)
        refine AO.guardY rfl rfl rfl q63 (AOp.move rfl rfl (ltb rfl) rfl ?_)
        refine AO.guardY rfl rfl rfl q63 (AOp.errEql rfl rfl (ltb rfl) rfl (by simp [GlobsP]) imeth57 ?_)
        refine AO.op rfl (AOp.pick rfl rfl (ltb rfl) rfl q63 rfl ?_)
        refine AO.nil ?_
        change AC _ _ _ _
        refine AC.condF rfl rfl ?_
        refine AC.exit ?_
        change AC _ _ _ _
        refine AC.seq ?_
        refine AC.seq ?_
        refine AC.region ?_
        refine AO.op rfl (AOp.move rfl rfl (ltb rfl) rfl ?_)
        refine AO.op rfl (AOp.move rfl rfl (ltb rfl) rfl ?_)
        refine AO.op rfl (AOp.igeq rfl rfl (ltb rfl) rfl rfl ?_)
        refine AO.nil ?_
        change AC _ _ _ _
        refine AC.condF rfl (dlt_ge q63) ?_
        refine AC.seq ?_
        refine AC.region ?_
        refine AO.op rfl (AOp.move rfl rfl (ltb rfl) rfl ?_)
        refine AO.op rfl (AOp.igtr rfl rfl (ltb rfl) rfl rfl ?_)
        refine AO.op rfl (AOp.move rfl rfl (ltb rfl) rfl ?_)
        refine AO.guardN rfl rfl rfl (ltb rfl) rfl rfl ?_
        refine AO.guardN rfl rfl rfl (ltb rfl) rfl rfl ?_
        refine AO.guardN rfl rfl rfl (ltb rfl) rfl rfl ?_
        refine AO.op rfl (AOp.pickN rfl rfl (ltb rfl) rfl rfl rfl ?_)
        refine AO.nil ?_
        change AC _ _ _ _
        refine AC.condF rfl rfl ?_
        refine AC.skip ?_
        change AC _ _ _ _
        refine AC.ret ?_
        refine inlret (ob' := [.fix 24 [.d (.v (.slice none 0 0))], .fix 3 [.d (di .i64 (0 : Int))], .fix 4 [.d (dbool false)], .dead, .fix 71 [.d (eS0 ((a0.drop 0).take (((0 : Int)).toNat - 0))), .d (di .i64 (0 : Int)), .d (di .i8 (0 : Int))], .dead, .frame fr4 [(6, .ptr 0 0), (7, .ptr 1 0), (8, .ptr 2 0), (9, .ptr 4 0)], .dead, .fix 102 (List.map (fun z => SV.d (keS0 z)) c19), .dead, .dead, .dead, .dead, .dead, .fix 94 [], .fix 63 (List.map (fun z => SV.d (keS1 z)) (List.replicate ((v54 * a2)).toNat (0 : Nat))), .frame fr58 [(11, .sl 15 1 0 (((v54 * a2)).toNat) (((v54 * a2)).toNat))], .fix 5 (List.map (fun z => SV.d (keS0 z)) (List.replicate (((8 : Int) * ((((v54 * a2)).toNat : Nat) : Int))).toNat (0 : Int))), .frame fr61 [(1, .ifc 94 (.ag [])), (2, .sl 15 1 0 (((v54 * a2)).toNat) (((v54 * a2)).toNat)), (7, .sl 17 1 0 ((((8 : Int) * ((((v54 * a2)).toNat : Nat) : Int))).toNat) ((((8 : Int) * ((((v54 * a2)).toNat : Nat) : Int))).toNat))], .dead, .dead, .dead, .dead]) (e' := [(4, .d (di .i64 (0 : Int))), (5, .d (.v (.nilIface)))]) (r := .tu [.d (di .i64 (0 : Int)), .d (.v (errV W 5))]) rfl rfl rfl ?_
        change AO _ _ _ _ _
        first | refine AO.op rfl (AOp.extractD rfl rfl (ltb rfl) rfl rfl ?_) | refine AO.op rfl (AOp.extract rfl rfl (ltb rfl) rfl rfl ?_)
        first | refine AO.op rfl (AOp.extractD rfl rfl (ltb rfl) rfl rfl ?_) | refine AO.op rfl (AOp.extract rfl rfl (ltb rfl) rfl rfl ?_)
        refine AO.op rfl (AOp.assign rfl rfl (ltb rfl) rfl ?_)
        refine AO.op rfl (AOp.assign rfl rfl (ltb rfl) rfl ?_)
        refine AO.objs (obs' := [.fix 24 [.d (.v (.slice none 0 0))], .fix 3 [.d (di .i64 (0 : Int))], .fix 4 [.d (dbool false)], .dead, .fix 71 [.d (eS0 ((a0.drop 0).take (((0 : Int)).toNat - 0))), .d (di .i64 (0 : Int)), .d (di .i8 (0 : Int))], .dead, .frame fr4 [(6, .ptr 0 0), (7, .ptr 1 0), (8, .ptr 2 0), (9, .ptr 4 0)], .dead, .fix 102 (List.map (fun z => SV.d (keS0 z)) c19), .dead, .dead, .dead, .dead, .dead, .fix 94 [], .fix 63 (List.map (fun z => SV.d (keS1 z)) (List.replicate ((v54 * a2)).toNat (0 : Nat))), .frame fr58 [(11, .sl 15 1 0 (((v54 * a2)).toNat) (((v54 * a2)).toNat))], .fix 5 (List.map (fun z => SV.d (keS0 z)) (List.replicate (((8 : Int) * ((((v54 * a2)).toNat : Nat) : Int))).toNat (0 : Int))), .frame fr61 [(1, .ifc 94 (.ag [])), (2, .sl 15 1 0 (((v54 * a2)).toNat) (((v54 * a2)).toNat)), (7, .sl 17 1 0 ((((8 : Int) * ((((v54 * a2)).toNat : Nat) : Int))).toNat) ((((8 : Int) * ((((v54 * a2)).toNat : Nat) : Int))).toNat))], .dead, .dead, .dead, .dead]) rfl ?_
        refine AO.nil ?_
        change AC _ _ _ _
        refine AC.ret ?_
        refine inlret (ob' := [.fix 24 [.d (.v (.slice none 0 0))], .fix 3 [.d (di .i64 (0 : Int))], .fix 4 [.d (dbool false)], .dead, .fix 71 [.d (eS0 ((a0.drop 0).take (((0 : Int)).toNat - 0))), .d (di .i64 (0 : Int)), .d (di .i8 (0 : Int))], .dead, .frame fr4 [(6, .ptr 0 0), (7, .ptr 1 0), (8, .ptr 2 0), (9, .ptr 4 0)], .dead, .fix 102 (List.map (fun z => SV.d (keS0 z)) c19), .dead, .dead, .dead, .dead, .dead, .fix 94 [], .fix 63 (List.map (fun z => SV.d (keS1 z)) (List.replicate ((v54 * a2)).toNat (0 : Nat))), .frame fr58 [(11, .sl 15 1 0 (((v54 * a2)).toNat) (((v54 * a2)).toNat))], .fix 5 (List.map (fun z => SV.d (keS0 z)) (List.replicate (((8 : Int) * ((((v54 * a2)).toNat : Nat) : Int))).toNat (0 : Int))), .dead, .dead, .dead, .dead, .dead]) (e' := [(1, .ifc 94 (.ag [])), (2, .sl 15 1 0 (((v54 * a2)).toNat) (((v54 * a2)).toNat)), (7, .sl 17 1 0 ((((8 : Int) * ((((v54 * a2)).toNat : Nat) : Int))).toNat) ((((8 : Int) * ((((v54 * a2)).toNat : Nat) : Int))).toNat))]) (r := .tu [.d (di .i64 (0 : Int)), .d (.v (errV W 5))]) rfl rfl rfl ?_
        change AO _ _ _ _ _
        refine AO.op rfl (AOp.move rfl rfl (ltb rfl) rfl ?_)
        first | refine AO.op rfl (AOp.extractD rfl rfl (ltb rfl) rfl rfl ?_) | refine AO.op rfl (AOp.extract rfl rfl (ltb rfl) rfl rfl ?_)
        first | refine AO.op rfl (AOp.extractD rfl rfl (ltb rfl) rfl rfl ?_) | refine AO.op rfl (AOp.extract rfl rfl (ltb rfl) rfl rfl ?_)
        refine AO.op rfl (AOp.assign rfl rfl (ltb rfl) rfl ?_)
        refine AO.op rfl (AOp.assign rfl rfl (ltb rfl) rfl ?_)
        refine AO.objs (obs' := [.fix 24 [.d (.v (.slice none 0 0))], .fix 3 [.d (di .i64 (0 : Int))], .fix 4 [.d (dbool false)], .dead, .fix 71 [.d (eS0 ((a0.drop 0).take (((0 : Int)).toNat - 0))), .d (di .i64 (0 : Int)), .d (di .i8 (0 : Int))], .dead, .frame fr4 [(6, .ptr 0 0), (7, .ptr 1 0), (8, .ptr 2 0), (9, .ptr 4 0)], .dead, .fix 102 (List.map (fun z => SV.d (keS0 z)) c19), .dead, .dead, .dead, .dead, .dead, .fix 94 [], .fix 63 (List.map (fun z => SV.d (keS1 z)) (List.replicate ((v54 * a2)).toNat (0 : Nat))), .frame fr58 [(11, .sl 15 1 0 (((v54 * a2)).toNat) (((v54 * a2)).toNat))], .fix 5 (List.map (fun z => SV.d (keS0 z)) (List.replicate (((8 : Int) * ((((v54 * a2)).toNat : Nat) : Int))).toNat (0 : Int))), .dead, .dead, .dead, .dead, .dead]) rfl ?_
        refine AO.nil ?_
        change AC _ _ _ _
        refine AC.seq ?_
        refine AC.region ?_
        refine AO.op rfl (AOp.move rfl rfl (ltb rfl) rfl ?_)
        refine AO.op rfl (AOp.errNeq rfl rfl (ltb rfl) rfl (by simp [GlobsP]) imeth57 ?_)
        refine AO.nil ?_
        change AC _ _ _ _
        refine AC.condT rfl rfl ?_
        refine AC.seq ?_
        refine AC.region ?_
        refine AO.op rfl (AOp.move rfl rfl (ltb rfl) rfl ?_)
        refine AO.op rfl (AOp.assign rfl rfl (ltb rfl) rfl ?_)
        refine AO.nil ?_
        change AC _ _ _ _
        refine AC.ret ?_
        refine inlret (ob' := [.fix 24 [.d (.v (.slice none 0 0))], .fix 3 [.d (di .i64 (0 : Int))], .fix 4 [.d (dbool false)], .dead, .fix 71 [.d (eS0 ((a0.drop 0).take (((0 : Int)).toNat - 0))), .d (di .i64 (0 : Int)), .d (di .i8 (0 : Int))], .dead, .frame fr4 [(6, .ptr 0 0), (7, .ptr 1 0), (8, .ptr 2 0), (9, .ptr 4 0)], .dead, .fix 102 (List.map (fun z => SV.d (keS0 z)) c19), .dead, .dead, .dead, .dead, .dead, .fix 94 [], .fix 63 (List.map (fun z => SV.d (keS1 z)) (List.replicate ((v54 * a2)).toNat (0 : Nat))), .dead, .fix 5 (List.map (fun z => SV.d (keS0 z)) (List.replicate (((8 : Int) * ((((v54 * a2)).toNat : Nat) : Int))).toNat (0 : Int))), .dead, .dead, .dead, .dead, .dead]) (e' := [(11, .sl 15 1 0 (((v54 * a2)).toNat) (((v54 * a2)).toNat))]) (r := .d (.v (errV W 5))) rfl rfl rfl ?_
        change AO _ _ _ _ _
        refine AO.op rfl (AOp.assign rfl rfl (ltb rfl) rfl ?_)
        refine AO.objs (obs' := [.fix 24 [.d (.v (.slice none 0 0))], .fix 3 [.d (di .i64 (0 : Int))], .fix 4 [.d (dbool false)], .dead, .fix 71 [.d (eS0 ((a0.drop 0).take (((0 : Int)).toNat - 0))), .d (di .i64 (0 : Int)), .d (di .i8 (0 : Int))], .dead, .frame fr4 [(6, .ptr 0 0), (7, .ptr 1 0), (8, .ptr 2 0), (9, .ptr 4 0)], .dead, .fix 102 (List.map (fun z => SV.d (keS0 z)) c19), .dead, .dead, .dead, .dead, .dead, .fix 94 [], .fix 63 (List.map (fun z => SV.d (keS1 z)) (List.replicate ((v54 * a2)).toNat (0 : Nat))), .dead, .fix 5 (List.map (fun z => SV.d (keS0 z)) (List.replicate (((8 : Int) * ((((v54 * a2)).toNat : Nat) : Int))).toNat (0 : Int))), .dead, .dead, .dead, .dead, .dead]) rfl ?_
        refine AO.nil ?_
        change AC _ _ _ _
        refine AC.seq ?_
        refine AC.region ?_
        refine AO.op rfl (AOp.move rfl rfl (ltb rfl) rfl ?_)
        refine AO.op rfl (AOp.errNeq rfl rfl (ltb rfl) rfl (by simp [GlobsP]) imeth57 ?_)
        refine AO.nil ?_
        change AC _ _ _ _
        refine AC.condT rfl rfl ?_
        refine AC.seq ?_
        refine AC.region ?_
        refine AO.op rfl (AOp.move rfl rfl (ltb rfl) rfl ?_)
        refine AO.op rfl (AOp.assign rfl rfl (ltb rfl) rfl ?_)
        refine AO.op rfl (AOp.assign rfl rfl (ltb rfl) rfl ?_)
        refine AO.nil ?_
        change AC _ _ _ _
        refine AC.ret ?_
        refine inlret (ob' := [.fix 24 [.d (.v (.slice none 0 0))], .fix 3 [.d (di .i64 (0 : Int))], .fix 4 [.d (dbool false)], .dead, .fix 71 [.d (eS0 ((a0.drop 0).take (((0 : Int)).toNat - 0))), .d (di .i64 (0 : Int)), .d (di .i8 (0 : Int))], .dead, .dead, .dead, .fix 102 (List.map (fun z => SV.d (keS0 z)) c19), .dead, .dead, .dead, .dead, .dead, .fix 94 [], .fix 63 (List.map (fun z => SV.d (keS1 z)) (List.replicate ((v54 * a2)).toNat (0 : Nat))), .dead, .fix 5 (List.map (fun z => SV.d (keS0 z)) (List.replicate (((8 : Int) * ((((v54 * a2)).toNat : Nat) : Int))).toNat (0 : Int))), .dead, .dead, .dead, .dead, .dead]) (e' := [(6, .ptr 0 0), (7, .ptr 1 0), (8, .ptr 2 0), (9, .ptr 4 0)]) (r := .tu [.d (.v (.slice none 0 0)), .d (.v (errV W 5))]) rfl rfl rfl ?_
        change AO _ _ _ _ _
        refine AO.op rfl (AOp.move rfl rfl (ltb rfl) rfl ?_)
        first | refine AO.op rfl (AOp.extractD rfl rfl (ltb rfl) rfl rfl ?_) | refine AO.op rfl (AOp.extract rfl rfl (ltb rfl) rfl rfl ?_)
        first | refine AO.op rfl (AOp.extractD rfl rfl (ltb rfl) rfl rfl ?_) | refine AO.op rfl (AOp.extract rfl rfl (ltb rfl) rfl rfl ?_)
        refine AO.op rfl (AOp.store rfl rfl rfl rfl size24 rfl rfl rfl (leb rfl) ?_)
        refine AO.op rfl (AOp.assign rfl rfl (ltb rfl) rfl ?_)
        refine AO.objs (obs' := [.fix 24 [.d (.v (.slice none 0 0))], .fix 3 [.d (di .i64 (0 : Int))], .fix 4 [.d (dbool false)], .dead, .fix 71 [.d (eS0 ((a0.drop 0).take (((0 : Int)).toNat - 0))), .d (di .i64 (0 : Int)), .d (di .i8 (0 : Int))], .dead, .dead, .dead, .fix 102 (List.map (fun z => SV.d (keS0 z)) c19), .dead, .dead, .dead, .dead, .dead, .fix 94 [], .fix 63 (List.map (fun z => SV.d (keS1 z)) (List.replicate ((v54 * a2)).toNat (0 : Nat))), .dead, .fix 5 (List.map (fun z => SV.d (keS0 z)) (List.replicate (((8 : Int) * ((((v54 * a2)).toNat : Nat) : Int))).toNat (0 : Int))), .dead, .dead, .dead, .dead, .dead]) rfl ?_
        refine AO.nil ?_
        change AC _ _ _ _
        refine AC.seq ?_
        refine AC.freezeP (ds := c_TBytes_Buffer (TBytes_Buffer.mk ((a0.drop 0).take (((0 : Int)).toNat - 0)) (0 : Int) (0 : Int))) 9 4 rfl rfl rfl rfl (Nat.zero_le _) ?_
        obtain ⟨y70, q71, h0⟩ := bind_elim h0
        refine AC.drawS [0, 1, 2, 3, 4, 5, 6] [5, 6] [7] (fun L => [.fix 24 [.d (.v (.slice none 0 0))], .fix 3 [(bif L 6 then .d (di .i64 y70) else .d (di .i64 (0 : Int)))], .fix 4 [.d (dbool false)], .dead, .dead, .dead, .dead, .dead, .fix 102 (List.map (fun z => SV.d (keS0 z)) c19), .dead, .dead, .dead, .dead, .dead, .fix 94 [], .fix 63 (List.map (fun z => SV.d (keS1 z)) (List.replicate ((v54 * a2)).toNat (0 : Nat))), .dead, .fix 5 (List.map (fun z => SV.d (keS0 z)) (List.replicate (((8 : Int) * ((((v54 * a2)).toNat : Nat) : Int))).toNat (0 : Int))), .dead, .dead, .dead, .dead, .dead]) [(5, (fun _ => true)), (6, (fun _ => true))] mixed (by kernel_rfl) (fun L L' h => by simp only [h 5 (by decide), h 6 (by decide)]) rfl ?_
        refine AS.op [6] [] [5, 6] [] rfl rfl rfl (by kernel_rfl) (by kernel_rfl) rfl rfl (fun _ _ _ h => AOp.load1 rfl rfl (ltb rfl) rfl agg24 rfl rfl h) (by kernel_rfl) ?_
        refine AS.op [9] [] [5, 6] [] rfl rfl rfl (by kernel_rfl) (by kernel_rfl) rfl rfl (fun _ _ _ h => AOp.move rfl rfl (ltb rfl) rfl h) (by kernel_rfl) ?_
        refine AS.op [24] [] [5, 6] [] rfl rfl rfl (by kernel_rfl) (by kernel_rfl) rfl rfl (fun _ _ _ h => AOp.callD rfl rfl (ltb rfl) rfl rfl (w_Buffer_Len (TBytes_Buffer.mk ((a0.drop 0).take (((0 : Int)).toNat - 0)) (0 : Int) (0 : Int)) y70 q71) (by rintro _ rfl; exact h)) (by kernel_rfl) ?_
        refine AS.op [10] [] [] [5, 6] rfl rfl rfl (by kernel_rfl) (by kernel_rfl) rfl rfl (fun _ _ _ h => AOp.move rfl rfl (ltb rfl) rfl h) (by kernel_rfl) ?_
        refine AS.op [26] [] [] [5, 6] rfl rfl rfl (by kernel_rfl) (by kernel_rfl) rfl rfl (fun _ _ _ h => AOp.errEql rfl rfl (ltb rfl) rfl (by simp [GlobsP]) imeth57 h) (by kernel_rfl) ?_
        refine AS.mid0 [6, 23] [] [6, 5] [] rfl rfl rfl rfl (by kernel_rfl) (by kernel_rfl) rfl rfl (fun _ _ _ h => AOp.store rfl rfl rfl rfl size24 rfl rfl rfl (leb rfl) (AO.dropT h)) (by kernel_rfl) rfl ?_
        refine AS.mid0 [7, 25] [5] [6] [] rfl rfl rfl rfl (by kernel_rfl) (by kernel_rfl) rfl rfl (fun _ _ _ h => AOp.store rfl rfl rfl rfl size3 rfl rfl rfl (leb rfl) (AO.dropT h)) (by kernel_rfl) rfl ?_
        refine AS.done ?_
        refine AO.objs (obs' := [.fix 24 [.d (.v (.slice none 0 0))], .fix 3 [.d (di .i64 y70)], .fix 4 [.d (dbool false)], .dead, .dead, .dead, .dead, .dead, .fix 102 (List.map (fun z => SV.d (keS0 z)) c19), .dead, .dead, .dead, .dead, .dead, .fix 94 [], .fix 63 (List.map (fun z => SV.d (keS1 z)) (List.replicate ((v54 * a2)).toNat (0 : Nat))), .dead, .fix 5 (List.map (fun z => SV.d (keS0 z)) (List.replicate (((8 : Int) * ((((v54 * a2)).toNat : Nat) : Int))).toNat (0 : Int))), .dead, .dead, .dead, .dead, .dead]) rfl ?_
        refine AO.op rfl (AOp.store rfl rfl rfl rfl size4 rfl rfl rfl (leb rfl) ?_)
        refine AO.nil ?_
        change AC _ _ _ _
        refine AC.subO 0 rfl (.cons (SVLe.nil 1) .nil) ?_
        refine AC.ret ?_
        change RetQ _ _ _ .ret _
        obtain rfl := Option.some.inj h0
        refine retq rfl rfl
      replace h0 := cF h0 q66
      refine AC.skip ?_
      change AC _ _ _ _
      refine AC.seq ?_
      refine AC.draw 10 mixed (by kernel_rfl) ?_
      refine AD.op [1] rfl (by kernel_rfl) rfl rfl (fun _ _ h => AOp.move rfl rfl (ltb rfl) rfl h) ?_
      refine AD.op [0] rfl (by kernel_rfl) rfl rfl (fun _ _ h => AOp.move rfl rfl (ltb rfl) rfl h) ?_
      refine AD.op [18] rfl (by kernel_rfl) rfl rfl (fun _ _ h => AOp.nilCheck rfl rfl (ltb rfl) rfl rfl h) ?_
      refine AD.op [19] rfl (by kernel_rfl) rfl rfl (fun _ _ h => AOp.fieldAddr rfl rfl (ltb rfl) rfl fo71_0 h) ?_
      refine AD.op [20] rfl (by kernel_rfl) rfl rfl (fun _ _ h => AOp.load1 rfl rfl (ltb rfl) rfl agg22 rfl rfl h) ?_
      refine AD.op [0] rfl (by kernel_rfl) rfl rfl (fun _ _ h => AOp.move rfl rfl (ltb rfl) rfl h) ?_
      refine AD.op [22] rfl (by kernel_rfl) rfl rfl (fun _ _ h => AOp.nilCheck rfl rfl (ltb rfl) rfl rfl h) ?_
      refine AD.op [23] rfl (by kernel_rfl) rfl rfl (fun _ _ h => AOp.fieldAddr rfl rfl (ltb rfl) rfl fo71_1 h) ?_
      refine AD.op [24] rfl (by kernel_rfl) rfl rfl (fun _ _ h => AOp.load1 rfl rfl (ltb rfl) rfl agg3 rfl rfl h) ?_
      obtain ⟨q72, h0⟩ := need_elim h0
      refine AD.op [21, 25] rfl (by kernel_rfl) rfl rfl (fun _ _ h => AOp.sliceD (cells := (List.map keS0 a0)) (n := a0.length) (l := (((m17 : Nat) : Int)).toNat) (hh := a0.length) rfl rfl (ltb rfl) rfl (.inr ⟨_, _, _, rfl, rfl, q72.1.1, rfl⟩) (.inl ⟨rfl, rfl⟩) el22 (by decide) (len1 _ _) q72.2.1 q72.2.2 (sub1 _ _ _ _) h) ?_
      refine AD.done ?_
      obtain ⟨q73, h0⟩ := need_elim h0
      obtain ⟨m74, q75, h0⟩ := bind_elim h0
      obtain ⟨c76, q77, h0⟩ := bind_elim h0
      refine AO.op rfl (AOp.copyL2 (k := keS0) (l := (List.replicate (((8 : Int) * ((((v54 * a2)).toNat : Nat) : Int))).toNat (0 : Int))) (l2 := ((a0.drop (((m17 : Nat) : Int)).toNat).take (a0.length - (((m17 : Nat) : Int)).toNat))) (m := m74) rfl rfl (ltb rfl) rfl rfl el22 rfl q73 (fun _ => rfl) ((Option.some.inj q75).symm) (Option.some.inj q77) ?_)
      refine AO.op rfl (AOp.assign rfl rfl (ltb rfl) rfl ?_)
      refine AO.nil ?_
      change AC _ _ _ _
      refine AC.seq ?_
      refine AC.region ?_
      refine AO.op rfl (AOp.move rfl rfl (ltb rfl) rfl ?_)
      refine AO.op rfl (AOp.nilCheck rfl rfl (ltb rfl) rfl rfl ?_)
      refine AO.op rfl (AOp.fieldAddr rfl rfl (ltb rfl) rfl fo71_1 ?_)
      refine AO.op rfl (AOp.load1 rfl rfl (ltb rfl) rfl agg3 rfl rfl ?_)
      refine AO.op rfl (AOp.move rfl rfl (ltb rfl) rfl ?_)
      obtain ⟨q78, h0⟩ := need_elim h0
      refine AO.op rfl (AOp.iadd rfl rfl (ltb rfl) rfl rfl rfl q78.1 q78.2 ?_)
      refine AO.op rfl (AOp.nilCheck rfl rfl (ltb rfl) rfl rfl ?_)
      refine AO.op rfl (AOp.fieldAddr rfl rfl (ltb rfl) rfl fo71_1 ?_)
      refine AO.op rfl (AOp.store rfl rfl rfl rfl size3 rfl rfl rfl (leb rfl) ?_)
      refine AO.nil ?_
      change AC _ _ _ _
      refine AC.joinP (V := Int) [4] [] 22 (fun g79 => []) (fun g79 => [.fix 24 [.d (.v (.slice none 0 0))], .fix 3 [.d (di .i64 (0 : Int))], .fix 4 [.d (dbool false)], .dead, .fix 71 [.d (eS0 a0), .d (di .i64 (((m17 : Nat) : Int) + ((m74 : Nat) : Int))), .d (di .i8 g79)], .dead, .frame fr4 [(6, .ptr 0 0), (7, .ptr 1 0), (8, .ptr 2 0), (9, .ptr 4 0)], .dead, .fix 102 (List.map (fun z => SV.d (keS0 z)) c19), .dead, .dead, .dead, .dead, .dead, .fix 94 [], .fix 63 (List.map (fun z => SV.d (keS1 z)) (List.replicate ((v54 * a2)).toNat (0 : Nat))), .frame fr58 [(11, .sl 15 1 0 (((v54 * a2)).toNat) (((v54 * a2)).toNat))], .fix 5 (List.map (fun z => SV.d (keS0 z)) c76), .frame fr61 [(1, .ifc 94 (.ag [])), (2, .sl 15 1 0 (((v54 * a2)).toNat) (((v54 * a2)).toNat)), (7, .sl 17 1 0 ((((8 : Int) * ((((v54 * a2)).toNat : Nat) : Int))).toNat) ((((8 : Int) * ((((v54 * a2)).toNat : Nat) : Int))).toNat))], .frame fr62 [(4, .d (di .i64 (0 : Int))), (5, .d (.v (.nilIface)))], .frame fr64 [(0, .ifc 54 (.ptr 4 0)), (1, .sl 17 1 0 ((((8 : Int) * ((((v54 * a2)).toNat : Nat) : Int))).toNat) ((((8 : Int) * ((((v54 * a2)).toNat : Nat) : Int))).toNat)), (2, .d (di .i64 (((((8 : Int) * ((((v54 * a2)).toNat : Nat) : Int))).toNat : Nat) : Int))), (6, .d (di .i64 (0 : Int))), (7, .d (.v (.nilIface))), (8, .d (di .i64 (0 : Int)))], .dead]) (fun g79 => (p_ReadFlat1_k2 a0 a2 F m17 v54 m74 c76) g79 = some r0) rfl ?_ ?_
      · refine AC.seq ?_
        refine AC.region ?_
        refine AO.op rfl (AOp.move rfl rfl (ltb rfl) rfl ?_)
        refine AO.op rfl (AOp.igtr rfl rfl (ltb rfl) rfl rfl ?_)
        refine AO.nil ?_
        change AC _ _ _ _
        refine AC.cond rfl (fun q115 => ?_) (fun q115 => ?_)
        · replace h0 := cT h0 q115
          refine AC.region ?_
          refine AO.op rfl (AOp.move rfl rfl (ltb rfl) rfl ?_)
          refine AO.op rfl (AOp.nilCheck rfl rfl (ltb rfl) rfl rfl ?_)
          refine AO.op rfl (AOp.fieldAddr rfl rfl (ltb rfl) rfl fo71_2 ?_)
          refine AO.op rfl (AOp.store rfl rfl rfl rfl size69 rfl rfl rfl (leb rfl) ?_)
          refine AO.nil ?_
          exact ⟨(-1 : Int), _, rfl, (LeL.refl _), rfl, (okU_mk rfl (okU_cons rfl (okU_cons rfl (okU_cons rfl (okU_cons rfl (okU_cons rfl (okU_cons rfl (okU_cons rfl (okU_cons rfl (okU_cons (okU_fixl (fun _ => rfl)) (okU_cons rfl (okU_cons rfl (okU_cons rfl (okU_cons rfl (okU_cons rfl (okU_cons rfl (okU_cons (okU_fixl (fun _ => rfl)) (okU_cons rfl (okU_cons (okU_fixl (fun _ => rfl)) (okU_cons rfl (okU_cons rfl (okU_cons rfl (okU_cons rfl okU_nil))))))))))))))))))))))), h0⟩
        replace h0 := cF h0 q115
        refine AC.skip ?_
        exact ⟨(0 : Int), _, rfl, (LeL.refl _), rfl, (okU_mk rfl (okU_cons rfl (okU_cons rfl (okU_cons rfl (okU_cons rfl (okU_cons rfl (okU_cons rfl (okU_cons rfl (okU_cons rfl (okU_cons (okU_fixl (fun _ => rfl)) (okU_cons rfl (okU_cons rfl (okU_cons rfl (okU_cons rfl (okU_cons rfl (okU_cons rfl (okU_cons (okU_fixl (fun _ => rfl)) (okU_cons rfl (okU_cons (okU_fixl (fun _ => rfl)) (okU_cons rfl (okU_cons rfl (okU_cons rfl (okU_cons rfl okU_nil))))))))))))))))))))))), h0⟩
      intro g79 h0
      unfold p_ReadFlat1_k2 at h0
      refine AC.seq ?_
      refine AC.region ?_
      refine AO.op rfl (AOp.move rfl rfl (ltb rfl) rfl ?_)
      refine AO.op rfl (AOp.assign rfl rfl (ltb rfl) rfl ?_)
      refine AO.op rfl (AOp.assign rfl rfl (ltb rfl) rfl ?_)
      refine AO.nil ?_
      change AC _ _ _ _
      refine AC.ret ?_
      refine inlret (ob' := [.fix 24 [.d (.v (.slice none 0 0))], .fix 3 [.d (di .i64 (0 : Int))], .fix 4 [.d (dbool false)], .dead, .fix 71 [.d (eS0 a0), .d (di .i64 (((m17 : Nat) : Int) + ((m74 : Nat) : Int))), .d (di .i8 g79)], .dead, .frame fr4 [(6, .ptr 0 0), (7, .ptr 1 0), (8, .ptr 2 0), (9, .ptr 4 0)], .dead, .fix 102 (List.map (fun z => SV.d (keS0 z)) c19), .dead, .dead, .dead, .dead, .dead, .fix 94 [], .fix 63 (List.map (fun z => SV.d (keS1 z)) (List.replicate ((v54 * a2)).toNat (0 : Nat))), .frame fr58 [(11, .sl 15 1 0 (((v54 * a2)).toNat) (((v54 * a2)).toNat))], .fix 5 (List.map (fun z => SV.d (keS0 z)) c76), .frame fr61 [(1, .ifc 94 (.ag [])), (2, .sl 15 1 0 (((v54 * a2)).toNat) (((v54 * a2)).toNat)), (7, .sl 17 1 0 ((((8 : Int) * ((((v54 * a2)).toNat : Nat) : Int))).toNat) ((((8 : Int) * ((((v54 * a2)).toNat : Nat) : Int))).toNat))], .frame fr62 [(4, .d (di .i64 (0 : Int))), (5, .d (.v (.nilIface)))], .dead, .dead]) (e' := [(0, .ifc 54 (.ptr 4 0)), (1, .sl 17 1 0 ((((8 : Int) * ((((v54 * a2)).toNat : Nat) : Int))).toNat) ((((8 : Int) * ((((v54 * a2)).toNat : Nat) : Int))).toNat)), (2, .d (di .i64 (((((8 : Int) * ((((v54 * a2)).toNat : Nat) : Int))).toNat : Nat) : Int))), (6, .d (di .i64 (0 : Int))), (7, .d (.v (.nilIface))), (8, .d (di .i64 (0 : Int)))]) (r := .tu [.d (di .i64 ((m74 : Nat) : Int)), .d (.v (.nilIface))]) rfl rfl rfl ?_
      change AO _ _ _ _ _
      refine AO.objs (obs' := [.fix 24 [.d (.v (.slice none 0 0))], .fix 3 [.d (di .i64 (0 : Int))], .fix 4 [.d (dbool false)], .dead, .fix 71 [.d (eS0 a0), .d (di .i64 (((m17 : Nat) : Int) + ((m74 : Nat) : Int))), .d (di .i8 g79)], .dead, .frame fr4 [(6, .ptr 0 0), (7, .ptr 1 0), (8, .ptr 2 0), (9, .ptr 4 0)], .dead, .fix 102 (List.map (fun z => SV.d (keS0 z)) c19), .dead, .dead, .dead, .dead, .dead, .fix 94 [], .fix 63 (List.map (fun z => SV.d (keS1 z)) (List.replicate ((v54 * a2)).toNat (0 : Nat))), .frame fr58 [(11, .sl 15 1 0 (((v54 * a2)).toNat) (((v54 * a2)).toNat))], .fix 5 (List.map (fun z => SV.d (keS0 z)) c76), .frame fr61 [(1, .ifc 94 (.ag [])), (2, .sl 15 1 0 (((v54 * a2)).toNat) (((v54 * a2)).toNat)), (7, .sl 17 1 0 ((((8 : Int) * ((((v54 * a2)).toNat : Nat) : Int))).toNat) ((((8 : Int) * ((((v54 * a2)).toNat : Nat) : Int))).toNat))], .frame fr62 [(4, .d (di .i64 (0 : Int))), (5, .d (.v (.nilIface)))], .dead, .dead]) rfl ?_
      refine AO.nil ?_
      change AD _ _ _ _ _
      refine AD.op [29] rfl (by kernel_rfl) rfl rfl (fun _ _ h => AOp.move rfl rfl (ltb rfl) rfl h) ?_
      first | refine AD.op [21] rfl (by kernel_rfl) rfl rfl (fun _ _ h => AOp.extractD rfl rfl (ltb rfl) rfl rfl h) ?_ | refine AD.op [21] rfl (by kernel_rfl) rfl rfl (fun _ _ h => AOp.extract rfl rfl (ltb rfl) rfl rfl h) ?_
      first | refine AD.op [21] rfl (by kernel_rfl) rfl rfl (fun _ _ h => AOp.extractD rfl rfl (ltb rfl) rfl rfl h) ?_ | refine AD.op [21] rfl (by kernel_rfl) rfl rfl (fun _ _ h => AOp.extract rfl rfl (ltb rfl) rfl rfl h) ?_
      refine AD.op [30] rfl (by kernel_rfl) rfl rfl (fun _ _ h => AOp.assign rfl rfl (ltb rfl) rfl h) ?_
      refine AD.op [31] rfl (by kernel_rfl) rfl rfl (fun _ _ h => AOp.assign rfl rfl (ltb rfl) rfl h) ?_
      refine AD.done ?_
      refine AO.nil ?_
      change AC _ _ _ _
      refine AC.region ?_
      refine AO.op rfl (AOp.move rfl rfl (ltb rfl) rfl ?_)
      refine AO.op rfl (AOp.move rfl rfl (ltb rfl) rfl ?_)
      obtain ⟨q80, h0⟩ := need_elim h0
      refine AO.op rfl (AOp.iadd rfl rfl (ltb rfl) rfl rfl (Int.zero_add _) q80.1 q80.2 ?_)
      refine AO.op rfl (AOp.assign rfl rfl (ltb rfl) rfl ?_)
      refine AO.nil ?_
      change ACL _ _ _ _
      refine ACL.round ?_
      refine AC.seq ?_
      refine AC.seq ?_
      refine AC.region ?_
      refine AO.op rfl (AOp.move rfl rfl (ltb rfl) rfl ?_)
      refine AO.op rfl (AOp.move rfl rfl (ltb rfl) rfl ?_)
      refine AO.op rfl (AOp.ilss rfl rfl (ltb rfl) rfl rfl ?_)
      refine AO.op rfl (AOp.move rfl rfl (ltb rfl) rfl ?_)
      refine AO.dec (decide (((m74 : Nat) : Int) < (((((8 : Int) * ((((v54 * a2)).toNat : Nat) : Int))).toNat : Nat) : Int))) (fun q81 => ?_) (fun q81 => ?_)
      · replace h0 := cT h0 q81
        refine AO.guardY rfl rfl rfl q81 (AOp.move rfl rfl (ltb rfl) rfl ?_)
        refine AO.guardY rfl rfl rfl q81 (AOp.nilEq rfl rfl (ltb rfl) rfl imeth57 ?_)
        refine AO.op rfl (AOp.pick rfl rfl (ltb rfl) rfl q81 rfl ?_)
        refine AO.nil ?_
        change AC _ _ _ _
        refine AC.condT rfl rfl ?_
        refine AC.skip ?_
        change AC _ _ _ _
        refine AC.block ?_
        refine AC.seq ?_
        refine AC.region ?_
        refine AO.op rfl (AOp.assign rfl rfl (ltb rfl) rfl ?_)
        refine AO.nil ?_
        change AC _ _ _ _
        refine AC.seq ?_
        refine AC.drawC 7 mixed (by kernel_rfl) rfl ?_
        refine AD.op [0] rfl (by kernel_rfl) rfl rfl (fun _ _ h => AOp.move rfl rfl (ltb rfl) rfl h) ?_
        refine AD.op [1] rfl (by kernel_rfl) rfl rfl (fun _ _ h => AOp.move rfl rfl (ltb rfl) rfl h) ?_
        refine AD.op [6] rfl (by kernel_rfl) rfl rfl (fun _ _ h => AOp.move rfl rfl (ltb rfl) rfl h) ?_
        obtain ⟨q82, h0⟩ := need_elim h0
        refine AD.op [23, 24] rfl (by kernel_rfl) rfl rfl (fun _ _ h => AOp.sliceSl (cap := ((((8 : Int) * ((((v54 * a2)).toNat : Nat) : Int))).toNat)) rfl rfl (ltb rfl) rfl rfl el22 q82.1 q82.2 h) ?_
        refine AD.op [22] rfl (by kernel_rfl) rfl rfl (fun _ _ h => AOp.makeMeth rfl rfl (ltb rfl) rfl h) ?_
        refine AD.op [26] rfl (by kernel_rfl) rfl rfl (fun _ _ h => AOp.nilMeth rfl rfl (ltb rfl) rfl rfl nilm54_Read h) ?_
        refine AD.op [22] rfl (by kernel_rfl) rfl rfl (fun _ _ h => AOp.move rfl rfl (ltb rfl) rfl h) ?_
        refine AD.done ?_
        refine AO.op rfl (AOp.inlE [0, 1, 2, 6, 7, 8, 21, 29, 30, 31] (EntersS.meth (by kernel_rfl) rfl rfl rfl meth54_Read rfl rfl) Tryd.func71 rfl Tryd.ntmps71 rfl (ltb rfl) (leb rfl) rfl ?_)
        intro fr83
        refine AC.seq ?_
        refine AC.region ?_
        refine AO.op rfl (AOp.assign rfl rfl (ltb rfl) rfl ?_)
        refine AO.op rfl (AOp.assign rfl rfl (ltb rfl) rfl ?_)
        refine AO.objs (obs' := [.fix 24 [.d (.v (.slice none 0 0))], .fix 3 [.d (di .i64 (0 : Int))], .fix 4 [.d (dbool false)], .dead, .fix 71 [.d (eS0 a0), .d (di .i64 (((m17 : Nat) : Int) + ((m74 : Nat) : Int))), .d (di .i8 g79)], .dead, .frame fr4 [(6, .ptr 0 0), (7, .ptr 1 0), (8, .ptr 2 0), (9, .ptr 4 0)], .dead, .fix 102 (List.map (fun z => SV.d (keS0 z)) c19), .dead, .dead, .dead, .dead, .dead, .fix 94 [], .fix 63 (List.map (fun z => SV.d (keS1 z)) (List.replicate ((v54 * a2)).toNat (0 : Nat))), .frame fr58 [(11, .sl 15 1 0 (((v54 * a2)).toNat) (((v54 * a2)).toNat))], .fix 5 (List.map (fun z => SV.d (keS0 z)) c76), .frame fr61 [(1, .ifc 94 (.ag [])), (2, .sl 15 1 0 (((v54 * a2)).toNat) (((v54 * a2)).toNat)), (7, .sl 17 1 0 ((((8 : Int) * ((((v54 * a2)).toNat : Nat) : Int))).toNat) ((((8 : Int) * ((((v54 * a2)).toNat : Nat) : Int))).toNat))], .frame fr62 [(4, .d (di .i64 (0 : Int))), (5, .d (.v (.nilIface)))], .dead, .dead, .frame fr83 [(0, .ifc 54 (.ptr 4 0)), (1, .sl 17 1 0 ((((8 : Int) * ((((v54 * a2)).toNat : Nat) : Int))).toNat) ((((8 : Int) * ((((v54 * a2)).toNat : Nat) : Int))).toNat)), (2, .d (di .i64 (((((8 : Int) * ((((v54 * a2)).toNat : Nat) : Int))).toNat : Nat) : Int))), (6, .d (di .i64 ((m74 : Nat) : Int))), (7, .d (.v (.nilIface))), (8, .d (di .i64 (0 : Int))), (21, .tu [.d (di .i64 ((m74 : Nat) : Int)), .d (.v (.nilIface))]), (29, .tu [.d (di .i64 ((m74 : Nat) : Int)), .d (.v (.nilIface))]), (30, .d (di .i64 ((m74 : Nat) : Int))), (31, .d (.v (.nilIface)))]]) rfl ?_
        refine AO.nil ?_
        change AC _ _ _ _
        refine AC.seq ?_
        refine AC.region ?_
        refine AO.op rfl (AOp.move rfl rfl (ltb rfl) rfl ?_)
        refine AO.op rfl (AOp.nilCheck rfl rfl (ltb rfl) rfl rfl ?_)
        refine AO.op rfl (AOp.fieldAddr rfl rfl (ltb rfl) rfl fo71_2 ?_)
        refine AO.op rfl (AOp.store rfl rfl rfl rfl size69 rfl rfl rfl (leb rfl) ?_)
        refine AO.nil ?_
        change AC _ _ _ _
        refine AC.seq ?_
        refine AC.seq ?_
        refine AC.region ?_
        refine AO.op rfl (AOp.move rfl rfl (ltb rfl) rfl ?_)
        refine AO.op rfl (AOp.inl [0, 1] (by kernel_rfl) Tryd.func75 rfl Tryd.ntmps75 rfl rfl (ltb rfl) rfl (leb rfl) rfl ?_)
        intro fr84
        refine AC.seq ?_
        refine AC.region ?_
        refine AO.op rfl (AOp.assign rfl rfl (ltb rfl) rfl ?_)
        refine AO.objs (obs' := [.fix 24 [.d (.v (.slice none 0 0))], .fix 3 [.d (di .i64 (0 : Int))], .fix 4 [.d (dbool false)], .dead, .fix 71 [.d (eS0 a0), .d (di .i64 (((m17 : Nat) : Int) + ((m74 : Nat) : Int))), .d (di .i8 (0 : Int))], .dead, .frame fr4 [(6, .ptr 0 0), (7, .ptr 1 0), (8, .ptr 2 0), (9, .ptr 4 0)], .dead, .fix 102 (List.map (fun z => SV.d (keS0 z)) c19), .dead, .dead, .dead, .dead, .dead, .fix 94 [], .fix 63 (List.map (fun z => SV.d (keS1 z)) (List.replicate ((v54 * a2)).toNat (0 : Nat))), .frame fr58 [(11, .sl 15 1 0 (((v54 * a2)).toNat) (((v54 * a2)).toNat))], .fix 5 (List.map (fun z => SV.d (keS0 z)) c76), .frame fr61 [(1, .ifc 94 (.ag [])), (2, .sl 15 1 0 (((v54 * a2)).toNat) (((v54 * a2)).toNat)), (7, .sl 17 1 0 ((((8 : Int) * ((((v54 * a2)).toNat : Nat) : Int))).toNat) ((((8 : Int) * ((((v54 * a2)).toNat : Nat) : Int))).toNat))], .frame fr62 [(4, .d (di .i64 (0 : Int))), (5, .d (.v (.nilIface)))], .dead, .dead, .frame fr83 [(0, .ifc 54 (.ptr 4 0)), (1, .sl 17 1 0 ((((8 : Int) * ((((v54 * a2)).toNat : Nat) : Int))).toNat) ((((8 : Int) * ((((v54 * a2)).toNat : Nat) : Int))).toNat)), (2, .d (di .i64 (((((8 : Int) * ((((v54 * a2)).toNat : Nat) : Int))).toNat : Nat) : Int))), (6, .d (di .i64 ((m74 : Nat) : Int))), (7, .d (.v (.nilIface))), (8, .d (di .i64 (0 : Int))), (21, .tu [.d (di .i64 ((m74 : Nat) : Int)), .d (.v (.nilIface))]), (29, .tu [.d (di .i64 ((m74 : Nat) : Int)), .d (.v (.nilIface))]), (30, .d (di .i64 ((m74 : Nat) : Int))), (31, .d (.v (.nilIface)))], .frame fr84 [(0, .ptr 4 0), (1, .sl 17 1 (if ((((8 : Int) * ((((v54 * a2)).toNat : Nat) : Int))).toNat) = (((m74 : Nat) : Int)).toNat then 0 else 0 + (((m74 : Nat) : Int)).toNat * 1) (((((8 : Int) * ((((v54 * a2)).toNat : Nat) : Int))).toNat) - (((m74 : Nat) : Int)).toNat) (((((8 : Int) * ((((v54 * a2)).toNat : Nat) : Int))).toNat) - (((m74 : Nat) : Int)).toNat))]]) rfl ?_
        refine AO.nil ?_
        change AC _ _ _ _
        refine AC.seq ?_
        refine AC.draw 11 mixed (by kernel_rfl) ?_
        refine AD.op [0] rfl (by kernel_rfl) rfl rfl (fun _ _ h => AOp.move rfl rfl (ltb rfl) rfl h) ?_
        refine AD.op [3] rfl (by kernel_rfl) rfl rfl (fun _ _ h => AOp.nilCheck rfl rfl (ltb rfl) rfl rfl h) ?_
        refine AD.op [4] rfl (by kernel_rfl) rfl rfl (fun _ _ h => AOp.fieldAddr rfl rfl (ltb rfl) rfl fo71_0 h) ?_
        refine AD.op [5] rfl (by kernel_rfl) rfl rfl (fun _ _ h => AOp.load1 rfl rfl (ltb rfl) rfl agg22 rfl rfl h) ?_
        refine AD.op [6] rfl (by kernel_rfl) rfl rfl (fun _ _ h => AOp.lenDs (n := a0.length) (cells := (List.map keS0 a0)) rfl rfl (ltb rfl) rfl el22 (by decide) (len1 _ _) h) ?_
        refine AD.op [0] rfl (by kernel_rfl) rfl rfl (fun _ _ h => AOp.move rfl rfl (ltb rfl) rfl h) ?_
        refine AD.op [8] rfl (by kernel_rfl) rfl rfl (fun _ _ h => AOp.nilCheck rfl rfl (ltb rfl) rfl rfl h) ?_
        refine AD.op [9] rfl (by kernel_rfl) rfl rfl (fun _ _ h => AOp.fieldAddr rfl rfl (ltb rfl) rfl fo71_1 h) ?_
        refine AD.op [10] rfl (by kernel_rfl) rfl rfl (fun _ _ h => AOp.load1 rfl rfl (ltb rfl) rfl agg3 rfl rfl h) ?_
        refine AD.op [7, 11] rfl (by kernel_rfl) rfl rfl (fun _ _ h => AOp.ileq rfl rfl (ltb rfl) rfl rfl h) ?_
        refine AD.op [12] rfl (by kernel_rfl) rfl rfl (fun _ _ h => AOp.assign rfl rfl (ltb rfl) rfl h) ?_
        refine AD.done ?_
        refine AO.nil ?_
        change AC _ _ _ _
        refine AC.ret ?_
        refine inlret (ob' := [.fix 24 [.d (.v (.slice none 0 0))], .fix 3 [.d (di .i64 (0 : Int))], .fix 4 [.d (dbool false)], .dead, .fix 71 [.d (eS0 a0), .d (di .i64 (((m17 : Nat) : Int) + ((m74 : Nat) : Int))), .d (di .i8 (0 : Int))], .dead, .frame fr4 [(6, .ptr 0 0), (7, .ptr 1 0), (8, .ptr 2 0), (9, .ptr 4 0)], .dead, .fix 102 (List.map (fun z => SV.d (keS0 z)) c19), .dead, .dead, .dead, .dead, .dead, .fix 94 [], .fix 63 (List.map (fun z => SV.d (keS1 z)) (List.replicate ((v54 * a2)).toNat (0 : Nat))), .frame fr58 [(11, .sl 15 1 0 (((v54 * a2)).toNat) (((v54 * a2)).toNat))], .fix 5 (List.map (fun z => SV.d (keS0 z)) c76), .frame fr61 [(1, .ifc 94 (.ag [])), (2, .sl 15 1 0 (((v54 * a2)).toNat) (((v54 * a2)).toNat)), (7, .sl 17 1 0 ((((8 : Int) * ((((v54 * a2)).toNat : Nat) : Int))).toNat) ((((8 : Int) * ((((v54 * a2)).toNat : Nat) : Int))).toNat))], .frame fr62 [(4, .d (di .i64 (0 : Int))), (5, .d (.v (.nilIface)))], .dead, .dead, .frame fr83 [(0, .ifc 54 (.ptr 4 0)), (1, .sl 17 1 0 ((((8 : Int) * ((((v54 * a2)).toNat : Nat) : Int))).toNat) ((((8 : Int) * ((((v54 * a2)).toNat : Nat) : Int))).toNat)), (2, .d (di .i64 (((((8 : Int) * ((((v54 * a2)).toNat : Nat) : Int))).toNat : Nat) : Int))), (6, .d (di .i64 ((m74 : Nat) : Int))), (7, .d (.v (.nilIface))), (8, .d (di .i64 (0 : Int))), (21, .tu [.d (di .i64 ((m74 : Nat) : Int)), .d (.v (.nilIface))]), (29, .tu [.d (di .i64 ((m74 : Nat) : Int)), .d (.v (.nilIface))]), (30, .d (di .i64 ((m74 : Nat) : Int))), (31, .d (.v (.nilIface)))], .dead]) (e' := [(0, .ptr 4 0), (1, .sl 17 1 (if ((((8 : Int) * ((((v54 * a2)).toNat : Nat) : Int))).toNat) = (((m74 : Nat) : Int)).toNat then 0 else 0 + (((m74 : Nat) : Int)).toNat * 1) (((((8 : Int) * ((((v54 * a2)).toNat : Nat) : Int))).toNat) - (((m74 : Nat) : Int)).toNat) (((((8 : Int) * ((((v54 * a2)).toNat : Nat) : Int))).toNat) - (((m74 : Nat) : Int)).toNat))]) (r := .d (dbool (decide (((a0.length : Nat) : Int) ≤ (((m17 : Nat) : Int) + ((m74 : Nat) : Int)))))) rfl rfl rfl ?_
        change AO _ _ _ _ _
        refine AO.objs (obs' := [.fix 24 [.d (.v (.slice none 0 0))], .fix 3 [.d (di .i64 (0 : Int))], .fix 4 [.d (dbool false)], .dead, .fix 71 [.d (eS0 a0), .d (di .i64 (((m17 : Nat) : Int) + ((m74 : Nat) : Int))), .d (di .i8 (0 : Int))], .dead, .frame fr4 [(6, .ptr 0 0), (7, .ptr 1 0), (8, .ptr 2 0), (9, .ptr 4 0)], .dead, .fix 102 (List.map (fun z => SV.d (keS0 z)) c19), .dead, .dead, .dead, .dead, .dead, .fix 94 [], .fix 63 (List.map (fun z => SV.d (keS1 z)) (List.replicate ((v54 * a2)).toNat (0 : Nat))), .frame fr58 [(11, .sl 15 1 0 (((v54 * a2)).toNat) (((v54 * a2)).toNat))], .fix 5 (List.map (fun z => SV.d (keS0 z)) c76), .frame fr61 [(1, .ifc 94 (.ag [])), (2, .sl 15 1 0 (((v54 * a2)).toNat) (((v54 * a2)).toNat)), (7, .sl 17 1 0 ((((8 : Int) * ((((v54 * a2)).toNat : Nat) : Int))).toNat) ((((8 : Int) * ((((v54 * a2)).toNat : Nat) : Int))).toNat))], .frame fr62 [(4, .d (di .i64 (0 : Int))), (5, .d (.v (.nilIface)))], .dead, .dead, .frame fr83 [(0, .ifc 54 (.ptr 4 0)), (1, .sl 17 1 0 ((((8 : Int) * ((((v54 * a2)).toNat : Nat) : Int))).toNat) ((((8 : Int) * ((((v54 * a2)).toNat : Nat) : Int))).toNat)), (2, .d (di .i64 (((((8 : Int) * ((((v54 * a2)).toNat : Nat) : Int))).toNat : Nat) : Int))), (6, .d (di .i64 ((m74 : Nat) : Int))), (7, .d (.v (.nilIface))), (8, .d (di .i64 (0 : Int))), (21, .tu [.d (di .i64 ((m74 : Nat) : Int)), .d (.v (.nilIface))]), (29, .tu [.d (di .i64 ((m74 : Nat) : Int)), .d (.v (.nilIface))]), (30, .d (di .i64 ((m74 : Nat) : Int))), (31, .d (.v (.nilIface)))], .dead]) rfl ?_
        refine AO.nil ?_
        change AC _ _ _ _
        refine AC.cond rfl (fun q85 => ?_) (fun q85 => ?_)
        · replace h0 := cT h0 q85
          refine AC.seq ?_
          refine AC.region ?_
          refine AO.op rfl (AOp.move rfl rfl (ltb rfl) rfl ?_)
          refine AO.op rfl (AOp.inl [1] (by kernel_rfl) Tryd.func72 rfl Tryd.ntmps72 rfl rfl (ltb rfl) rfl (leb rfl) rfl ?_)
          intro fr86
          refine AC.seq ?_
          refine AC.region ?_
          refine AO.op rfl (AOp.move rfl rfl (ltb rfl) rfl ?_)
          refine AO.op rfl (AOp.move rfl rfl (ltb rfl) rfl ?_)
          refine AO.op rfl (AOp.nilCheck rfl rfl (ltb rfl) rfl rfl ?_)
          refine AO.op rfl (AOp.fieldAddr rfl rfl (ltb rfl) rfl fo71_0 ?_)
          refine AO.op rfl (AOp.load1 rfl rfl (ltb rfl) rfl agg22 rfl rfl ?_)
          obtain ⟨q87, h0⟩ := need_elim h0
          refine AO.op rfl (AOp.sliceD (cells := (List.map keS0 a0)) (n := a0.length) (l := 0) (hh := ((0 : Int)).toNat) rfl rfl (ltb rfl) rfl (.inl ⟨rfl, rfl⟩) (.inr ⟨_, _, _, rfl, rfl, q87.1.2, rfl⟩) el22 (by decide) (len1 _ _) q87.2.1 q87.2.2 (sub1 _ _ _ _) ?_)
          refine AO.op rfl (AOp.nilCheck rfl rfl (ltb rfl) rfl rfl ?_)
          refine AO.op rfl (AOp.fieldAddr rfl rfl (ltb rfl) rfl fo71_0 ?_)
          refine AO.op rfl (AOp.store rfl rfl rfl rfl size22 rfl rfl rfl (leb rfl) ?_)
          refine AO.objs (obs' := [.fix 24 [.d (.v (.slice none 0 0))], .fix 3 [.d (di .i64 (0 : Int))], .fix 4 [.d (dbool false)], .dead, .fix 71 [.d (eS0 ((a0.drop 0).take (((0 : Int)).toNat - 0))), .d (di .i64 (((m17 : Nat) : Int) + ((m74 : Nat) : Int))), .d (di .i8 (0 : Int))], .dead, .frame fr4 [(6, .ptr 0 0), (7, .ptr 1 0), (8, .ptr 2 0), (9, .ptr 4 0)], .dead, .fix 102 (List.map (fun z => SV.d (keS0 z)) c19), .dead, .dead, .dead, .dead, .dead, .fix 94 [], .fix 63 (List.map (fun z => SV.d (keS1 z)) (List.replicate ((v54 * a2)).toNat (0 : Nat))), .frame fr58 [(11, .sl 15 1 0 (((v54 * a2)).toNat) (((v54 * a2)).toNat))], .fix 5 (List.map (fun z => SV.d (keS0 z)) c76), .frame fr61 [(1, .ifc 94 (.ag [])), (2, .sl 15 1 0 (((v54 * a2)).toNat) (((v54 * a2)).toNat)), (7, .sl 17 1 0 ((((8 : Int) * ((((v54 * a2)).toNat : Nat) : Int))).toNat) ((((8 : Int) * ((((v54 * a2)).toNat : Nat) : Int))).toNat))], .frame fr62 [(4, .d (di .i64 (0 : Int))), (5, .d (.v (.nilIface)))], .dead, .dead, .frame fr83 [(0, .ifc 54 (.ptr 4 0)), (1, .sl 17 1 0 ((((8 : Int) * ((((v54 * a2)).toNat : Nat) : Int))).toNat) ((((8 : Int) * ((((v54 * a2)).toNat : Nat) : Int))).toNat)), (2, .d (di .i64 (((((8 : Int) * ((((v54 * a2)).toNat : Nat) : Int))).toNat : Nat) : Int))), (6, .d (di .i64 ((m74 : Nat) : Int))), (7, .d (.v (.nilIface))), (8, .d (di .i64 (0 : Int))), (21, .tu [.d (di .i64 ((m74 : Nat) : Int)), .d (.v (.nilIface))]), (29, .tu [.d (di .i64 ((m74 : Nat) : Int)), .d (.v (.nilIface))]), (30, .d (di .i64 ((m74 : Nat) : Int))), (31, .d (.v (.nilIface)))], .dead, .frame fr86 [(1, .sl 17 1 (if ((((8 : Int) * ((((v54 * a2)).toNat : Nat) : Int))).toNat) = (((m74 : Nat) : Int)).toNat then 0 else 0 + (((m74 : Nat) : Int)).toNat * 1) (((((8 : Int) * ((((v54 * a2)).toNat : Nat) : Int))).toNat) - (((m74 : Nat) : Int)).toNat) (((((8 : Int) * ((((v54 * a2)).toNat : Nat) : Int))).toNat) - (((m74 : Nat) : Int)).toNat))]]) rfl ?_
          refine AO.nil ?_
          change AC _ _ _ _
          refine AC.seq ?_
          refine AC.region ?_
          refine AO.op rfl (AOp.move rfl rfl (ltb rfl) rfl ?_)
          refine AO.op rfl (AOp.nilCheck rfl rfl (ltb rfl) rfl rfl ?_)
          refine AO.op rfl (AOp.fieldAddr rfl rfl (ltb rfl) rfl fo71_1 ?_)
          refine AO.op rfl (AOp.store rfl rfl rfl rfl size3 rfl rfl rfl (leb rfl) ?_)
          refine AO.nil ?_
          change AC _ _ _ _
          refine AC.region ?_
          refine AO.op rfl (AOp.move rfl rfl (ltb rfl) rfl ?_)
          refine AO.op rfl (AOp.nilCheck rfl rfl (ltb rfl) rfl rfl ?_)
          refine AO.op rfl (AOp.fieldAddr rfl rfl (ltb rfl) rfl fo71_2 ?_)
          refine AO.op rfl (AOp.store rfl rfl rfl rfl size69 rfl rfl rfl (leb rfl) ?_)
          refine AO.nil ?_
          refine inlend (ob' := [.fix 24 [.d (.v (.slice none 0 0))], .fix 3 [.d (di .i64 (0 : Int))], .fix 4 [.d (dbool false)], .dead, .fix 71 [.d (eS0 ((a0.drop 0).take (((0 : Int)).toNat - 0))), .d (di .i64 (0 : Int)), .d (di .i8 (0 : Int))], .dead, .frame fr4 [(6, .ptr 0 0), (7, .ptr 1 0), (8, .ptr 2 0), (9, .ptr 4 0)], .dead, .fix 102 (List.map (fun z => SV.d (keS0 z)) c19), .dead, .dead, .dead, .dead, .dead, .fix 94 [], .fix 63 (List.map (fun z => SV.d (keS1 z)) (List.replicate ((v54 * a2)).toNat (0 : Nat))), .frame fr58 [(11, .sl 15 1 0 (((v54 * a2)).toNat) (((v54 * a2)).toNat))], .fix 5 (List.map (fun z => SV.d (keS0 z)) c76), .frame fr61 [(1, .ifc 94 (.ag [])), (2, .sl 15 1 0 (((v54 * a2)).toNat) (((v54 * a2)).toNat)), (7, .sl 17 1 0 ((((8 : Int) * ((((v54 * a2)).toNat : Nat) : Int))).toNat) ((((8 : Int) * ((((v54 * a2)).toNat : Nat) : Int))).toNat))], .frame fr62 [(4, .d (di .i64 (0 : Int))), (5, .d (.v (.nilIface)))], .dead, .dead, .frame fr83 [(0, .ifc 54 (.ptr 4 0)), (1, .sl 17 1 0 ((((8 : Int) * ((((v54 * a2)).toNat : Nat) : Int))).toNat) ((((8 : Int) * ((((v54 * a2)).toNat : Nat) : Int))).toNat)), (2, .d (di .i64 (((((8 : Int) * ((((v54 * a2)).toNat : Nat) : Int))).toNat : Nat) : Int))), (6, .d (di .i64 ((m74 : Nat) : Int))), (7, .d (.v (.nilIface))), (8, .d (di .i64 (0 : Int))), (21, .tu [.d (di .i64 ((m74 : Nat) : Int)), .d (.v (.nilIface))]), (29, .tu [.d (di .i64 ((m74 : Nat) : Int)), .d (.v (.nilIface))]), (30, .d (di .i64 ((m74 : Nat) : Int))), (31, .d (.v (.nilIface)))], .dead, .dead]) (e' := [(1, .sl 17 1 (if ((((8 : Int) * ((((v54 * a2)).toNat : Nat) : Int))).toNat) = (((m74 : Nat) : Int)).toNat then 0 else 0 + (((m74 : Nat) : Int)).toNat * 1) (((((8 : Int) * ((((v54 * a2)).toNat : Nat) : Int))).toNat) - (((m74 : Nat) : Int)).toNat) (((((8 : Int) * ((((v54 * a2)).toNat : Nat) : Int))).toNat) - (((m74 : Nat) : Int)).toNat))]) (r := .tu []) rfl rfl rfl ?_
          change AO _ _ _ _ _
          refine AO.objs (obs' := [.fix 24 [.d (.v (.slice none 0 0))], .fix 3 [.d (di .i64 (0 : Int))], .fix 4 [.d (dbool false)], .dead, .fix 71 [.d (eS0 ((a0.drop 0).take (((0 : Int)).toNat - 0))), .d (di .i64 (0 : Int)), .d (di .i8 (0 : Int))], .dead, .frame fr4 [(6, .ptr 0 0), (7, .ptr 1 0), (8, .ptr 2 0), (9, .ptr 4 0)], .dead, .fix 102 (List.map (fun z => SV.d (keS0 z)) c19), .dead, .dead, .dead, .dead, .dead, .fix 94 [], .fix 63 (List.map (fun z => SV.d (keS1 z)) (List.replicate ((v54 * a2)).toNat (0 : Nat))), .frame fr58 [(11, .sl 15 1 0 (((v54 * a2)).toNat) (((v54 * a2)).toNat))], .fix 5 (List.map (fun z => SV.d (keS0 z)) c76), .frame fr61 [(1, .ifc 94 (.ag [])), (2, .sl 15 1 0 (((v54 * a2)).toNat) (((v54 * a2)).toNat)), (7, .sl 17 1 0 ((((8 : Int) * ((((v54 * a2)).toNat : Nat) : Int))).toNat) ((((8 : Int) * ((((v54 * a2)).toNat : Nat) : Int))).toNat))], .frame fr62 [(4, .d (di .i64 (0 : Int))), (5, .d (.v (.nilIface)))], .dead, .dead, .frame fr83 [(0, .ifc 54 (.ptr 4 0)), (1, .sl 17 1 0 ((((8 : Int) * ((((v54 * a2)).toNat : Nat) : Int))).toNat) ((((8 : Int) * ((((v54 * a2)).toNat : Nat) : Int))).toNat)), (2, .d (di .i64 (((((8 : Int) * ((((v54 * a2)).toNat : Nat) : Int))).toNat : Nat) : Int))), (6, .d (di .i64 ((m74 : Nat) : Int))), (7, .d (.v (.nilIface))), (8, .d (di .i64 (0 : Int))), (21, .tu [.d (di .i64 ((m74 : Nat) : Int)), .d (.v (.nilIface))]), (29, .tu [.d (di .i64 ((m74 : Nat) : Int)), .d (.v (.nilIface))]), (30, .d (di .i64 ((m74 : Nat) : Int))), (31, .d (.v (.nilIface)))], .dead, .dead]) rfl ?_
          refine AO.nil ?_
          change AC _ _ _ _
          refine AC.seq ?_
          refine AC.seq ?_
          refine AC.region ?_
          refine AO.op rfl (AOp.move rfl rfl (ltb rfl) rfl ?_)
          refine AO.op rfl (AOp.lenSl rfl rfl (ltb rfl) rfl el22 ?_)
          refine AO.op rfl (AOp.ieql rfl rfl (ltb rfl) rfl rfl ?_)
          refine AO.nil ?_
          change AC _ _ _ _
          refine AC.cond rfl (fun q88 => ?_) (fun q88 => ?_)
          · replace h0 := cT h0 q88
            cases h0
          replace h0 := cF h0 q88
          refine AC.skip ?_
          change AC _ _ _ _
          refine AC.seq ?_
          refine AC.draw 3 mixed (by kernel_rfl) ?_
          refine AD.op [] rfl (by kernel_rfl) rfl rfl (fun _ _ h => AOp.loadEV rfl rfl (ltb rfl) rfl agg57 (by simp [GlobsP]) h) ?_
          refine AD.op [] rfl (by kernel_rfl) rfl rfl (fun _ _ h => AOp.assign rfl rfl (ltb rfl) rfl h) ?_
          refine AD.op [16] rfl (by kernel_rfl) rfl rfl (fun _ _ h => AOp.assign rfl rfl (ltb rfl) rfl h) ?_
          refine AD.done ?_
          refine AO.nil ?_
          change AC _ _ _ _
          refine AC.ret ?_
          refine inlret (ob' := [.fix 24 [.d (.v (.slice none 0 0))], .fix 3 [.d (di .i64 (0 : Int))], .fix 4 [.d (dbool false)], .dead, .fix 71 [.d (eS0 ((a0.drop 0).take (((0 : Int)).toNat - 0))), .d (di .i64 (0 : Int)), .d (di .i8 (0 : Int))], .dead, .frame fr4 [(6, .ptr 0 0), (7, .ptr 1 0), (8, .ptr 2 0), (9, .ptr 4 0)], .dead, .fix 102 (List.map (fun z => SV.d (keS0 z)) c19), .dead, .dead, .dead, .dead, .dead, .fix 94 [], .fix 63 (List.map (fun z => SV.d (keS1 z)) (List.replicate ((v54 * a2)).toNat (0 : Nat))), .frame fr58 [(11, .sl 15 1 0 (((v54 * a2)).toNat) (((v54 * a2)).toNat))], .fix 5 (List.map (fun z => SV.d (keS0 z)) c76), .frame fr61 [(1, .ifc 94 (.ag [])), (2, .sl 15 1 0 (((v54 * a2)).toNat) (((v54 * a2)).toNat)), (7, .sl 17 1 0 ((((8 : Int) * ((((v54 * a2)).toNat : Nat) : Int))).toNat) ((((8 : Int) * ((((v54 * a2)).toNat : Nat) : Int))).toNat))], .frame fr62 [(4, .d (di .i64 (0 : Int))), (5, .d (.v (.nilIface)))], .dead, .dead, .dead, .dead, .dead]) (e' := [(0, .ifc 54 (.ptr 4 0)), (1, .sl 17 1 0 ((((8 : Int) * ((((v54 * a2)).toNat : Nat) : Int))).toNat) ((((8 : Int) * ((((v54 * a2)).toNat : Nat) : Int))).toNat)), (2, .d (di .i64 (((((8 : Int) * ((((v54 * a2)).toNat : Nat) : Int))).toNat : Nat) : Int))), (6, .d (di .i64 ((m74 : Nat) : Int))), (7, .d (.v (.nilIface))), (8, .d (di .i64 (0 : Int))), (21, .tu [.d (di .i64 ((m74 : Nat) : Int)), .d (.v (.nilIface))]), (29, .tu [.d (di .i64 ((m74 : Nat) : Int)), .d (.v (.nilIface))]), (30, .d (di .i64 ((m74 : Nat) : Int))), (31, .d (.v (.nilIface)))]) (r := .tu [.d (di .i64 (0 : Int)), .d (.v (errV W 5))]) rfl rfl rfl ?_
          change AO _ _ _ _ _
          refine AO.objs (obs' := [.fix 24 [.d (.v (.slice none 0 0))], .fix 3 [.d (di .i64 (0 : Int))], .fix 4 [.d (dbool false)], .dead, .fix 71 [.d (eS0 ((a0.drop 0).take (((0 : Int)).toNat - 0))), .d (di .i64 (0 : Int)), .d (di .i8 (0 : Int))], .dead, .frame fr4 [(6, .ptr 0 0), (7, .ptr 1 0), (8, .ptr 2 0), (9, .ptr 4 0)], .dead, .fix 102 (List.map (fun z => SV.d (keS0 z)) c19), .dead, .dead, .dead, .dead, .dead, .fix 94 [], .fix 63 (List.map (fun z => SV.d (keS1 z)) (List.replicate ((v54 * a2)).toNat (0 : Nat))), .frame fr58 [(11, .sl 15 1 0 (((v54 * a2)).toNat) (((v54 * a2)).toNat))], .fix 5 (List.map (fun z => SV.d (keS0 z)) c76), .frame fr61 [(1, .ifc 94 (.ag [])), (2, .sl 15 1 0 (((v54 * a2)).toNat) (((v54 * a2)).toNat)), (7, .sl 17 1 0 ((((8 : Int) * ((((v54 * a2)).toNat : Nat) : Int))).toNat) ((((8 : Int) * ((((v54 * a2)).toNat : Nat) : Int))).toNat))], .frame fr62 [(4, .d (di .i64 (0 : Int))), (5, .d (.v (.nilIface)))], .dead, .dead, .dead, .dead, .dead]) rfl ?_
          refine AO.nil ?_
          change AD _ _ _ _ _
          refine AD.op [29] rfl (by kernel_rfl) rfl rfl (fun _ _ h => AOp.move rfl rfl (ltb rfl) rfl h) ?_
          first | refine AD.op [21] rfl (by kernel_rfl) rfl rfl (fun _ _ h => AOp.extractD rfl rfl (ltb rfl) rfl rfl h) ?_ | refine AD.op [21] rfl (by kernel_rfl) rfl rfl (fun _ _ h => AOp.extract rfl rfl (ltb rfl) rfl rfl h) ?_
          first | refine AD.op [21] rfl (by kernel_rfl) rfl rfl (fun _ _ h => AOp.extractD rfl rfl (ltb rfl) rfl rfl h) ?_ | refine AD.op [21] rfl (by kernel_rfl) rfl rfl (fun _ _ h => AOp.extract rfl rfl (ltb rfl) rfl rfl h) ?_
          refine AD.op [30] rfl (by kernel_rfl) rfl rfl (fun _ _ h => AOp.assign rfl rfl (ltb rfl) rfl h) ?_
          refine AD.op [31] rfl (by kernel_rfl) rfl rfl (fun _ _ h => AOp.assign rfl rfl (ltb rfl) rfl h) ?_
          refine AD.done ?_
          refine AO.nil ?_
          change AC _ _ _ _
          refine AC.region ?_
          refine AO.op rfl (AOp.move rfl rfl (ltb rfl) rfl ?_)
          refine AO.op rfl (AOp.move rfl rfl (ltb rfl) rfl ?_)
          obtain ⟨q89, h0⟩ := need_elim h0
          refine AO.op rfl (AOp.iadd rfl rfl (ltb rfl) rfl rfl (Int.add_zero _) q89.1 q89.2 ?_)
          refine AO.op rfl (AOp.assign rfl rfl (ltb rfl) rfl ?_)
          refine AO.nil ?_
          change ACL _ _ _ _
          refine ACL.round ?_
          refine AC.seq ?_
          refine AC.seq ?_
          refine AC.region ?_
          refine AO.op rfl (AOp.move rfl rfl (ltb rfl) rfl ?_)
          refine AO.op rfl (AOp.move rfl rfl (ltb rfl) rfl ?_)
          refine AO.op rfl (AOp.ilss rfl rfl (ltb rfl) rfl rfl ?_)
          refine AO.op rfl (AOp.move rfl rfl (ltb rfl) rfl ?_)
          refine AO.guardY rfl rfl rfl q81 (AOp.move rfl rfl (ltb rfl) rfl ?_)
          refine AO.guardY rfl rfl rfl q81 (AOp.errEql rfl rfl (ltb rfl) rfl (by simp [GlobsP]) imeth57 ?_)
          refine AO.op rfl (AOp.pick rfl rfl (ltb rfl) rfl q81 rfl ?_)
          refine AO.nil ?_
          change AC _ _ _ _
          refine AC.condF rfl rfl ?_
          refine AC.exit ?_
          change AC _ _ _ _
          refine AC.seq ?_
          refine AC.seq ?_
          refine AC.region ?_
          refine AO.op rfl (AOp.move rfl rfl (ltb rfl) rfl ?_)
          refine AO.op rfl (AOp.move rfl rfl (ltb rfl) rfl ?_)
          refine AO.op rfl (AOp.igeq rfl rfl (ltb rfl) rfl rfl ?_)
          refine AO.nil ?_
          change AC _ _ _ _
          refine AC.condF rfl (dlt_ge q81) ?_
          refine AC.seq ?_
          refine AC.region ?_
          refine AO.op rfl (AOp.move rfl rfl (ltb rfl) rfl ?_)
          refine AO.op rfl (AOp.igtr rfl rfl (ltb rfl) rfl rfl ?_)
          refine AO.op rfl (AOp.move rfl rfl (ltb rfl) rfl ?_)
          refine AO.dec (decide ((0 : Int) < ((m74 : Nat) : Int))) (fun q90 => ?_) (fun q90 => ?_)
          · replace h0 := cT h0 q90
            refine AO.guardY rfl rfl rfl q90 (AOp.move rfl rfl (ltb rfl) rfl ?_)
            refine AO.guardY rfl rfl rfl q90 (AOp.loadEV rfl rfl (ltb rfl) rfl agg57 (by simp [GlobsP]) ?_)
            refine AO.guardY rfl rfl rfl q90 (AOp.errSame rfl rfl (ltb rfl) rfl rfl (by simp [GlobsP]) cmpE imeth57 ?_)
            refine AO.op rfl (AOp.pick rfl rfl (ltb rfl) rfl q90 rfl ?_)
            refine AO.nil ?_
            change AC _ _ _ _
            refine AC.condT rfl rfl ?_
            refine AC.region ?_
            refine AO.op rfl (AOp.loadEV rfl rfl (ltb rfl) rfl agg57 (by simp [GlobsP]) ?_)
            refine AO.op rfl (AOp.assign rfl rfl (ltb rfl) rfl ?_)
            refine AO.nil ?_
            change AC _ _ _ _
            refine AC.ret ?_
            refine inlret (ob' := [.fix 24 [.d (.v (.slice none 0 0))], .fix 3 [.d (di .i64 (0 : Int))], .fix 4 [.d (dbool false)], .dead, .fix 71 [.d (eS0 ((a0.drop 0).take (((0 : Int)).toNat - 0))), .d (di .i64 (0 : Int)), .d (di .i8 (0 : Int))], .dead, .frame fr4 [(6, .ptr 0 0), (7, .ptr 1 0), (8, .ptr 2 0), (9, .ptr 4 0)], .dead, .fix 102 (List.map (fun z => SV.d (keS0 z)) c19), .dead, .dead, .dead, .dead, .dead, .fix 94 [], .fix 63 (List.map (fun z => SV.d (keS1 z)) (List.replicate ((v54 * a2)).toNat (0 : Nat))), .frame fr58 [(11, .sl 15 1 0 (((v54 * a2)).toNat) (((v54 * a2)).toNat))], .fix 5 (List.map (fun z => SV.d (keS0 z)) c76), .frame fr61 [(1, .ifc 94 (.ag [])), (2, .sl 15 1 0 (((v54 * a2)).toNat) (((v54 * a2)).toNat)), (7, .sl 17 1 0 ((((8 : Int) * ((((v54 * a2)).toNat : Nat) : Int))).toNat) ((((8 : Int) * ((((v54 * a2)).toNat : Nat) : Int))).toNat))], .dead, .dead, .dead, .dead, .dead, .dead]) (e' := [(4, .d (di .i64 (0 : Int))), (5, .d (.v (.nilIface)))]) (r := .tu [.d (di .i64 ((m74 : Nat) : Int)), .d (.v (errV W 6))]) rfl rfl rfl ?_
            change AO _ _ _ _ _
            first | refine AO.op rfl (AOp.extractD rfl rfl (ltb rfl) rfl rfl ?_) | refine AO.op rfl (AOp.extract rfl rfl (ltb rfl) rfl rfl ?_)
            first | refine AO.op rfl (AOp.extractD rfl rfl (ltb rfl) rfl rfl ?_) | refine AO.op rfl (AOp.extract rfl rfl (ltb rfl) rfl rfl ?_)
            refine AO.op rfl (AOp.assign rfl rfl (ltb rfl) rfl ?_)
            refine AO.op rfl (AOp.assign rfl rfl (ltb rfl) rfl ?_)
            refine AO.objs (obs' := [.fix 24 [.d (.v (.slice none 0 0))], .fix 3 [.d (di .i64 (0 : Int))], .fix 4 [.d (dbool false)], .dead, .fix 71 [.d (eS0 ((a0.drop 0).take (((0 : Int)).toNat - 0))), .d (di .i64 (0 : Int)), .d (di .i8 (0 : Int))], .dead, .frame fr4 [(6, .ptr 0 0), (7, .ptr 1 0), (8, .ptr 2 0), (9, .ptr 4 0)], .dead, .fix 102 (List.map (fun z => SV.d (keS0 z)) c19), .dead, .dead, .dead, .dead, .dead, .fix 94 [], .fix 63 (List.map (fun z => SV.d (keS1 z)) (List.replicate ((v54 * a2)).toNat (0 : Nat))), .frame fr58 [(11, .sl 15 1 0 (((v54 * a2)).toNat) (((v54 * a2)).toNat))], .fix 5 (List.map (fun z => SV.d (keS0 z)) c76), .frame fr61 [(1, .ifc 94 (.ag [])), (2, .sl 15 1 0 (((v54 * a2)).toNat) (((v54 * a2)).toNat)), (7, .sl 17 1 0 ((((8 : Int) * ((((v54 * a2)).toNat : Nat) : Int))).toNat) ((((8 : Int) * ((((v54 * a2)).toNat : Nat) : Int))).toNat))], .dead, .dead, .dead, .dead, .dead, .dead]) rfl ?_
            refine AO.nil ?_
            change AC _ _ _ _
            refine AC.ret ?_
            refine inlret (ob' := [.fix 24 [.d (.v (.slice none 0 0))], .fix 3 [.d (di .i64 (0 : Int))], .fix 4 [.d (dbool false)], .dead, .fix 71 [.d (eS0 ((a0.drop 0).take (((0 : Int)).toNat - 0))), .d (di .i64 (0 : Int)), .d (di .i8 (0 : Int))], .dead, .frame fr4 [(6, .ptr 0 0), (7, .ptr 1 0), (8, .ptr 2 0), (9, .ptr 4 0)], .dead, .fix 102 (List.map (fun z => SV.d (keS0 z)) c19), .dead, .dead, .dead, .dead, .dead, .fix 94 [], .fix 63 (List.map (fun z => SV.d (keS1 z)) (List.replicate ((v54 * a2)).toNat (0 : Nat))), .frame fr58 [(11, .sl 15 1 0 (((v54 * a2)).toNat) (((v54 * a2)).toNat))], .fix 5 (List.map (fun z => SV.d (keS0 z)) c76), .dead, .dead, .dead, .dead, .dead, .dead, .dead]) (e' := [(1, .ifc 94 (.ag [])), (2, .sl 15 1 0 (((v54 * a2)).toNat) (((v54 * a2)).toNat)), (7, .sl 17 1 0 ((((8 : Int) * ((((v54 * a2)).toNat : Nat) : Int))).toNat) ((((8 : Int) * ((((v54 * a2)).toNat : Nat) : Int))).toNat))]) (r := .tu [.d (di .i64 ((m74 : Nat) : Int)), .d (.v (errV W 6))]) rfl rfl rfl ?_
            change AO _ _ _ _ _
            refine AO.op rfl (AOp.move rfl rfl (ltb rfl) rfl ?_)
            first | refine AO.op rfl (AOp.extractD rfl rfl (ltb rfl) rfl rfl ?_) | refine AO.op rfl (AOp.extract rfl rfl (ltb rfl) rfl rfl ?_)
            first | refine AO.op rfl (AOp.extractD rfl rfl (ltb rfl) rfl rfl ?_) | refine AO.op rfl (AOp.extract rfl rfl (ltb rfl) rfl rfl ?_)
            refine AO.op rfl (AOp.assign rfl rfl (ltb rfl) rfl ?_)
            refine AO.op rfl (AOp.assign rfl rfl (ltb rfl) rfl ?_)
            refine AO.objs (obs' := [.fix 24 [.d (.v (.slice none 0 0))], .fix 3 [.d (di .i64 (0 : Int))], .fix 4 [.d (dbool false)], .dead, .fix 71 [.d (eS0 ((a0.drop 0).take (((0 : Int)).toNat - 0))), .d (di .i64 (0 : Int)), .d (di .i8 (0 : Int))], .dead, .frame fr4 [(6, .ptr 0 0), (7, .ptr 1 0), (8, .ptr 2 0), (9, .ptr 4 0)], .dead, .fix 102 (List.map (fun z => SV.d (keS0 z)) c19), .dead, .dead, .dead, .dead, .dead, .fix 94 [], .fix 63 (List.map (fun z => SV.d (keS1 z)) (List.replicate ((v54 * a2)).toNat (0 : Nat))), .frame fr58 [(11, .sl 15 1 0 (((v54 * a2)).toNat) (((v54 * a2)).toNat))], .fix 5 (List.map (fun z => SV.d (keS0 z)) c76), .dead, .dead, .dead, .dead, .dead, .dead, .dead]) rfl ?_
            refine AO.nil ?_
            change AC _ _ _ _
            refine AC.seq ?_
            refine AC.region ?_
            refine AO.op rfl (AOp.move rfl rfl (ltb rfl) rfl ?_)
            refine AO.op rfl (AOp.errNeq rfl rfl (ltb rfl) rfl (by simp [GlobsP]) imeth57 ?_)
            refine AO.nil ?_
            change AC _ _ _ _
            refine AC.condT rfl rfl ?_
            refine AC.seq ?_
            refine AC.region ?_
            refine AO.op rfl (AOp.move rfl rfl (ltb rfl) rfl ?_)
            refine AO.op rfl (AOp.assign rfl rfl (ltb rfl) rfl ?_)
            refine AO.nil ?_
            change AC _ _ _ _
            refine AC.ret ?_
            refine inlret (ob' := [.fix 24 [.d (.v (.slice none 0 0))], .fix 3 [.d (di .i64 (0 : Int))], .fix 4 [.d (dbool false)], .dead, .fix 71 [.d (eS0 ((a0.drop 0).take (((0 : Int)).toNat - 0))), .d (di .i64 (0 : Int)), .d (di .i8 (0 : Int))], .dead, .frame fr4 [(6, .ptr 0 0), (7, .ptr 1 0), (8, .ptr 2 0), (9, .ptr 4 0)], .dead, .fix 102 (List.map (fun z => SV.d (keS0 z)) c19), .dead, .dead, .dead, .dead, .dead, .fix 94 [], .fix 63 (List.map (fun z => SV.d (keS1 z)) (List.replicate ((v54 * a2)).toNat (0 : Nat))), .dead, .fix 5 (List.map (fun z => SV.d (keS0 z)) c76), .dead, .dead, .dead, .dead, .dead, .dead, .dead]) (e' := [(11, .sl 15 1 0 (((v54 * a2)).toNat) (((v54 * a2)).toNat))]) (r := .d (.v (errV W 6))) rfl rfl rfl ?_
            change AO _ _ _ _ _
            refine AO.op rfl (AOp.assign rfl rfl (ltb rfl) rfl ?_)
            refine AO.objs (obs' := [.fix 24 [.d (.v (.slice none 0 0))], .fix 3 [.d (di .i64 (0 : Int))], .fix 4 [.d (dbool false)], .dead, .fix 71 [.d (eS0 ((a0.drop 0).take (((0 : Int)).toNat - 0))), .d (di .i64 (0 : Int)), .d (di .i8 (0 : Int))], .dead, .frame fr4 [(6, .ptr 0 0), (7, .ptr 1 0), (8, .ptr 2 0), (9, .ptr 4 0)], .dead, .fix 102 (List.map (fun z => SV.d (keS0 z)) c19), .dead, .dead, .dead, .dead, .dead, .fix 94 [], .fix 63 (List.map (fun z => SV.d (keS1 z)) (List.replicate ((v54 * a2)).toNat (0 : Nat))), .dead, .fix 5 (List.map (fun z => SV.d (keS0 z)) c76), .dead, .dead, .dead, .dead, .dead, .dead, .dead]) rfl ?_
            refine AO.nil ?_
            change AC _ _ _ _
            refine AC.seq ?_
            refine AC.region ?_
            refine AO.op rfl (AOp.move rfl rfl (ltb rfl) rfl ?_)
            refine AO.op rfl (AOp.errNeq rfl rfl (ltb rfl) rfl (by simp [GlobsP]) imeth57 ?_)
            refine AO.nil ?_
            change AC _ _ _ _
            refine AC.condT rfl rfl ?_
            refine AC.seq ?_
            refine AC.region ?_
            refine AO.op rfl (AOp.move rfl rfl (ltb rfl) rfl ?_)
            refine AO.op rfl (AOp.assign rfl rfl (ltb rfl) rfl ?_)
            refine AO.op rfl (AOp.assign rfl rfl (ltb rfl) rfl ?_)
            refine AO.nil ?_
            change AC _ _ _ _
            refine AC.ret ?_
            refine inlret (ob' := [.fix 24 [.d (.v (.slice none 0 0))], .fix 3 [.d (di .i64 (0 : Int))], .fix 4 [.d (dbool false)], .dead, .fix 71 [.d (eS0 ((a0.drop 0).take (((0 : Int)).toNat - 0))), .d (di .i64 (0 : Int)), .d (di .i8 (0 : Int))], .dead, .dead, .dead, .fix 102 (List.map (fun z => SV.d (keS0 z)) c19), .dead, .dead, .dead, .dead, .dead, .fix 94 [], .fix 63 (List.map (fun z => SV.d (keS1 z)) (List.replicate ((v54 * a2)).toNat (0 : Nat))), .dead, .fix 5 (List.map (fun z => SV.d (keS0 z)) c76), .dead, .dead, .dead, .dead, .dead, .dead, .dead]) (e' := [(6, .ptr 0 0), (7, .ptr 1 0), (8, .ptr 2 0), (9, .ptr 4 0)]) (r := .tu [.d (.v (.slice none 0 0)), .d (.v (errV W 6))]) rfl rfl rfl ?_
            change AO _ _ _ _ _
            refine AO.op rfl (AOp.move rfl rfl (ltb rfl) rfl ?_)
            first | refine AO.op rfl (AOp.extractD rfl rfl (ltb rfl) rfl rfl ?_) | refine AO.op rfl (AOp.extract rfl rfl (ltb rfl) rfl rfl ?_)
            first | refine AO.op rfl (AOp.extractD rfl rfl (ltb rfl) rfl rfl ?_) | refine AO.op rfl (AOp.extract rfl rfl (ltb rfl) rfl rfl ?_)
            refine AO.op rfl (AOp.store rfl rfl rfl rfl size24 rfl rfl rfl (leb rfl) ?_)
            refine AO.op rfl (AOp.assign rfl rfl (ltb rfl) rfl ?_)
            refine AO.objs (obs' := [.fix 24 [.d (.v (.slice none 0 0))], .fix 3 [.d (di .i64 (0 : Int))], .fix 4 [.d (dbool false)], .dead, .fix 71 [.d (eS0 ((a0.drop 0).take (((0 : Int)).toNat - 0))), .d (di .i64 (0 : Int)), .d (di .i8 (0 : Int))], .dead, .dead, .dead, .fix 102 (List.map (fun z => SV.d (keS0 z)) c19), .dead, .dead, .dead, .dead, .dead, .fix 94 [], .fix 63 (List.map (fun z => SV.d (keS1 z)) (List.replicate ((v54 * a2)).toNat (0 : Nat))), .dead, .fix 5 (List.map (fun z => SV.d (keS0 z)) c76), .dead, .dead, .dead, .dead, .dead, .dead, .dead]) rfl ?_
            refine AO.nil ?_
            change AC _ _ _ _
            refine AC.seq ?_
            refine AC.freezeP (ds := c_TBytes_Buffer (TBytes_Buffer.mk ((a0.drop 0).take (((0 : Int)).toNat - 0)) (0 : Int) (0 : Int))) 9 4 rfl rfl rfl rfl (Nat.zero_le _) ?_
            obtain ⟨y91, q92, h0⟩ := bind_elim h0
            refine AC.drawS [0, 1, 2, 3, 4, 5, 6] [5, 6] [7] (fun L => [.fix 24 [.d (.v (.slice none 0 0))], .fix 3 [(bif L 6 then .d (di .i64 y91) else .d (di .i64 (0 : Int)))], .fix 4 [.d (dbool false)], .dead, .dead, .dead, .dead, .dead, .fix 102 (List.map (fun z => SV.d (keS0 z)) c19), .dead, .dead, .dead, .dead, .dead, .fix 94 [], .fix 63 (List.map (fun z => SV.d (keS1 z)) (List.replicate ((v54 * a2)).toNat (0 : Nat))), .dead, .fix 5 (List.map (fun z => SV.d (keS0 z)) c76), .dead, .dead, .dead, .dead, .dead, .dead, .dead]) [(5, (fun _ => true)), (6, (fun _ => true))] mixed (by kernel_rfl) (fun L L' h => by simp only [h 5 (by decide), h 6 (by decide)]) rfl ?_
            refine AS.op [6] [] [5, 6] [] rfl rfl rfl (by kernel_rfl) (by kernel_rfl) rfl rfl (fun _ _ _ h => AOp.load1 rfl rfl (ltb rfl) rfl agg24 rfl rfl h) (by kernel_rfl) ?_
            refine AS.op [9] [] [5, 6] [] rfl rfl rfl (by kernel_rfl) (by kernel_rfl) rfl rfl (fun _ _ _ h => AOp.move rfl rfl (ltb rfl) rfl h) (by kernel_rfl) ?_
            refine AS.op [24] [] [5, 6] [] rfl rfl rfl (by kernel_rfl) (by kernel_rfl) rfl rfl (fun _ _ _ h => AOp.callD rfl rfl (ltb rfl) rfl rfl (w_Buffer_Len (TBytes_Buffer.mk ((a0.drop 0).take (((0 : Int)).toNat - 0)) (0 : Int) (0 : Int)) y91 q92) (by rintro _ rfl; exact h)) (by kernel_rfl) ?_
            refine AS.op [10] [] [] [5, 6] rfl rfl rfl (by kernel_rfl) (by kernel_rfl) rfl rfl (fun _ _ _ h => AOp.move rfl rfl (ltb rfl) rfl h) (by kernel_rfl) ?_
            refine AS.op [26] [] [] [5, 6] rfl rfl rfl (by kernel_rfl) (by kernel_rfl) rfl rfl (fun _ _ _ h => AOp.errEql rfl rfl (ltb rfl) rfl (by simp [GlobsP]) imeth57 h) (by kernel_rfl) ?_
            refine AS.mid0 [6, 23] [] [6, 5] [] rfl rfl rfl rfl (by kernel_rfl) (by kernel_rfl) rfl rfl (fun _ _ _ h => AOp.store rfl rfl rfl rfl size24 rfl rfl rfl (leb rfl) (AO.dropT h)) (by kernel_rfl) rfl ?_
            refine AS.mid0 [7, 25] [5] [6] [] rfl rfl rfl rfl (by kernel_rfl) (by kernel_rfl) rfl rfl (fun _ _ _ h => AOp.store rfl rfl rfl rfl size3 rfl rfl rfl (leb rfl) (AO.dropT h)) (by kernel_rfl) rfl ?_
            refine AS.done ?_
            refine AO.objs (obs' := [.fix 24 [.d (.v (.slice none 0 0))], .fix 3 [.d (di .i64 y91)], .fix 4 [.d (dbool false)], .dead, .dead, .dead, .dead, .dead, .fix 102 (List.map (fun z => SV.d (keS0 z)) c19), .dead, .dead, .dead, .dead, .dead, .fix 94 [], .fix 63 (List.map (fun z => SV.d (keS1 z)) (List.replicate ((v54 * a2)).toNat (0 : Nat))), .dead, .fix 5 (List.map (fun z => SV.d (keS0 z)) c76), .dead, .dead, .dead, .dead, .dead, .dead, .dead]) rfl ?_
            refine AO.op rfl (AOp.store rfl rfl rfl rfl size4 rfl rfl rfl (leb rfl) ?_)
            refine AO.nil ?_
            change AC _ _ _ _
            refine AC.subO 0 rfl (.cons (SVLe.nil 1) .nil) ?_
            refine AC.ret ?_
            change RetQ _ _ _ .ret _
            obtain rfl := Option.some.inj h0
            refine retq rfl rfl
          replace h0 := cF h0 q90
          refine AO.guardN rfl rfl rfl (ltb rfl) rfl q90 ?_
          refine AO.guardN rfl rfl rfl (ltb rfl) rfl q90 ?_
          refine AO.guardN rfl rfl rfl (ltb rfl) rfl q90 ?_
          refine AO.op rfl (AOp.pickN rfl rfl (ltb rfl) rfl q90 rfl ?_)
          refine AO.nil ?_
          change AC _ _ _ _
          refine AC.condF rfl rfl ?_
          refine AC.skip ?_
          change AC _ _ _ _
          refine AC.ret ?_
          refine inlret (ob' := [.fix 24 [.d (.v (.slice none 0 0))], .fix 3 [.d (di .i64 (0 : Int))], .fix 4 [.d (dbool false)], .dead, .fix 71 [.d (eS0 ((a0.drop 0).take (((0 : Int)).toNat - 0))), .d (di .i64 (0 : Int)), .d (di .i8 (0 : Int))], .dead, .frame fr4 [(6, .ptr 0 0), (7, .ptr 1 0), (8, .ptr 2 0), (9, .ptr 4 0)], .dead, .fix 102 (List.map (fun z => SV.d (keS0 z)) c19), .dead, .dead, .dead, .dead, .dead, .fix 94 [], .fix 63 (List.map (fun z => SV.d (keS1 z)) (List.replicate ((v54 * a2)).toNat (0 : Nat))), .frame fr58 [(11, .sl 15 1 0 (((v54 * a2)).toNat) (((v54 * a2)).toNat))], .fix 5 (List.map (fun z => SV.d (keS0 z)) c76), .frame fr61 [(1, .ifc 94 (.ag [])), (2, .sl 15 1 0 (((v54 * a2)).toNat) (((v54 * a2)).toNat)), (7, .sl 17 1 0 ((((8 : Int) * ((((v54 * a2)).toNat : Nat) : Int))).toNat) ((((8 : Int) * ((((v54 * a2)).toNat : Nat) : Int))).toNat))], .dead, .dead, .dead, .dead, .dead, .dead]) (e' := [(4, .d (di .i64 (0 : Int))), (5, .d (.v (.nilIface)))]) (r := .tu [.d (di .i64 ((m74 : Nat) : Int)), .d (.v (errV W 5))]) rfl rfl rfl ?_
          change AO _ _ _ _ _
          first | refine AO.op rfl (AOp.extractD rfl rfl (ltb rfl) rfl rfl ?_) | refine AO.op rfl (AOp.extract rfl rfl (ltb rfl) rfl rfl ?_)
          first | refine AO.op rfl (AOp.extractD rfl rfl (ltb rfl) rfl rfl ?_) | refine AO.op rfl (AOp.extract rfl rfl (ltb rfl) rfl rfl ?_)
          refine AO.op rfl (AOp.assign rfl rfl (ltb rfl) rfl ?_)
          refine AO.op rfl (AOp.assign rfl rfl (ltb rfl) rfl ?_)
          refine AO.objs (obs' := [.fix 24 [.d (.v (.slice none 0 0))], .fix 3 [.d (di .i64 (0 : Int))], .fix 4 [.d (dbool false)], .dead, .fix 71 [.d (eS0 ((a0.drop 0).take (((0 : Int)).toNat - 0))), .d (di .i64 (0 : Int)), .d (di .i8 (0 : Int))], .dead, .frame fr4 [(6, .ptr 0 0), (7, .ptr 1 0), (8, .ptr 2 0), (9, .ptr 4 0)], .dead, .fix 102 (List.map (fun z => SV.d (keS0 z)) c19), .dead, .dead, .dead, .dead, .dead, .fix 94 [], .fix 63 (List.map (fun z => SV.d (keS1 z)) (List.replicate ((v54 * a2)).toNat (0 : Nat))), .frame fr58 [(11, .sl 15 1 0 (((v54 * a2)).toNat) (((v54 * a2)).toNat))], .fix 5 (List.map (fun z => SV.d (keS0 z)) c76), .frame fr61 [(1, .ifc 94 (.ag [])), (2, .sl 15 1 0 (((v54 * a2)).toNat) (((v54 * a2)).toNat)), (7, .sl 17 1 0 ((((8 : Int) * ((((v54 * a2)).toNat : Nat) : Int))).toNat) ((((8 : Int) * ((((v54 * a2)).toNat : Nat) : Int))).toNat))], .dead, .dead, .dead, .dead, .dead, .dead]) rfl ?_
          refine AO.nil ?_
          change AC _ _ _ _
          refine AC.ret ?_
          refine inlret (ob' := [.fix 24 [.d (.v (.slice none 0 0))], .fix 3 [.d (di .i64 (0 : Int))], .fix 4 [.d (dbool false)], .dead, .fix 71 [.d (eS0 ((a0.drop 0).take (((0 : Int)).toNat - 0))), .d (di .i64 (0 : Int)), .d (di .i8 (0 : Int))], .dead, .frame fr4 [(6, .ptr 0 0), (7, .ptr 1 0), (8, .ptr 2 0), (9, .ptr 4 0)], .dead, .fix 102 (List.map (fun z => SV.d (keS0 z)) c19), .dead, .dead, .dead, .dead, .dead, .fix 94 [], .fix 63 (List.map (fun z => SV.d (keS1 z)) (List.replicate ((v54 * a2)).toNat (0 : Nat))), .frame fr58 [(11, .sl 15 1 0 (((v54 * a2)).toNat) (((v54 * a2)).toNat))], .fix 5 (List.map (fun z => SV.d (keS0 z)) c76), .dead, .dead, .dead, .dead, .dead, .dead, .dead]) (e' := [(1, .ifc 94 (.ag [])), (2, .sl 15 1 0 (((v54 * a2)).toNat) (((v54 * a2)).toNat)), (7, .sl 17 1 0 ((((8 : Int) * ((((v54 * a2)).toNat : Nat) : Int))).toNat) ((((8 : Int) * ((((v54 * a2)).toNat : Nat) : Int))).toNat))]) (r := .tu [.d (di .i64 ((m74 : Nat) : Int)), .d (.v (errV W 5))]) rfl rfl rfl ?_
          change AO _ _ _ _ _
          refine AO.op rfl (AOp.move rfl rfl (ltb rfl) rfl ?_)
          first | refine AO.op rfl (AOp.extractD rfl rfl (ltb rfl) rfl rfl ?_) | refine AO.op rfl (AOp.extract rfl rfl (ltb rfl) rfl rfl ?_)
          first | refine AO.op rfl (AOp.extractD rfl rfl (ltb rfl) rfl rfl ?_) | refine AO.op rfl (AOp.extract rfl rfl (ltb rfl) rfl rfl ?_)
          refine AO.op rfl (AOp.assign rfl rfl (ltb rfl) rfl ?_)
          refine AO.op rfl (AOp.assign rfl rfl (ltb rfl) rfl ?_)
          refine AO.objs (obs' := [.fix 24 [.d (.v (.slice none 0 0))], .fix 3 [.d (di .i64 (0 : Int))], .fix 4 [.d (dbool false)], .dead, .fix 71 [.d (eS0 ((a0.drop 0).take (((0 : Int)).toNat - 0))), .d (di .i64 (0 : Int)), .d (di .i8 (0 : Int))], .dead, .frame fr4 [(6, .ptr 0 0), (7, .ptr 1 0), (8, .ptr 2 0), (9, .ptr 4 0)], .dead, .fix 102 (List.map (fun z => SV.d (keS0 z)) c19), .dead, .dead, .dead, .dead, .dead, .fix 94 [], .fix 63 (List.map (fun z => SV.d (keS1 z)) (List.replicate ((v54 * a2)).toNat (0 : Nat))), .frame fr58 [(11, .sl 15 1 0 (((v54 * a2)).toNat) (((v54 * a2)).toNat))], .fix 5 (List.map (fun z => SV.d (keS0 z)) c76), .dead, .dead, .dead, .dead, .dead, .dead, .dead]) rfl ?_
          refine AO.nil ?_
          change AC _ _ _ _
          refine AC.seq ?_
          refine AC.region ?_
          refine AO.op rfl (AOp.move rfl rfl (ltb rfl) rfl ?_)
          refine AO.op rfl (AOp.errNeq rfl rfl (ltb rfl) rfl (by simp [GlobsP]) imeth57 ?_)
          refine AO.nil ?_
          change AC _ _ _ _
          refine AC.condT rfl rfl ?_
          refine AC.seq ?_
          refine AC.region ?_
          refine AO.op rfl (AOp.move rfl rfl (ltb rfl) rfl ?_)
          refine AO.op rfl (AOp.assign rfl rfl (ltb rfl) rfl ?_)
          refine AO.nil ?_
          change AC _ _ _ _
          refine AC.ret ?_
          refine inlret (ob' := [.fix 24 [.d (.v (.slice none 0 0))], .fix 3 [.d (di .i64 (0 : Int))], .fix 4 [.d (dbool false)], .dead, .fix 71 [.d (eS0 ((a0.drop 0).take (((0 : Int)).toNat - 0))), .d (di .i64 (0 : Int)), .d (di .i8 (0 : Int))], .dead, .frame fr4 [(6, .ptr 0 0), (7, .ptr 1 0), (8, .ptr 2 0), (9, .ptr 4 0)], .dead, .fix 102 (List.map (fun z => SV.d (keS0 z)) c19), .dead, .dead, .dead, .dead, .dead, .fix 94 [], .fix 63 (List.map (fun z => SV.d (keS1 z)) (List.replicate ((v54 * a2)).toNat (0 : Nat))), .dead, .fix 5 (List.map (fun z => SV.d (keS0 z)) c76), .dead, .dead, .dead, .dead, .dead, .dead, .dead]) (e' := [(11, .sl 15 1 0 (((v54 * a2)).toNat) (((v54 * a2)).toNat))]) (r := .d (.v (errV W 5))) rfl rfl rfl ?_
          change AO _ _ _ _ _
          refine AO.op rfl (AOp.assign rfl rfl (ltb rfl) rfl ?_)
          refine AO.objs (obs' := [.fix 24 [.d (.v (.slice none 0 0))], .fix 3 [.d (di .i64 (0 : Int))], .fix 4 [.d (dbool false)], .dead, .fix 71 [.d (eS0 ((a0.drop 0).take (((0 : Int)).toNat - 0))), .d (di .i64 (0 : Int)), .d (di .i8 (0 : Int))], .dead, .frame fr4 [(6, .ptr 0 0), (7, .ptr 1 0), (8, .ptr 2 0), (9, .ptr 4 0)], .dead, .fix 102 (List.map (fun z => SV.d (keS0 z)) c19), .dead, .dead, .dead, .dead, .dead, .fix 94 [], .fix 63 (List.map (fun z => SV.d (keS1 z)) (List.replicate ((v54 * a2)).toNat (0 : Nat))), .dead, .fix 5 (List.map (fun z => SV.d (keS0 z)) c76), .dead, .dead, .dead, .dead, .dead, .dead, .dead]) rfl ?_
          refine AO.nil ?_
          change AC _ _ _ _
          refine AC.seq ?_
          refine AC.region ?_
          refine AO.op rfl (AOp.move rfl rfl (ltb rfl) rfl ?_)
          refine AO.op rfl (AOp.errNeq rfl rfl (ltb rfl) rfl (by simp [GlobsP]) imeth57 ?_)
          refine AO.nil ?_
          change AC _ _ _ _
          refine AC.condT rfl rfl ?_
          refine AC.seq ?_
          refine AC.region ?_
          refine AO.op rfl (AOp.move rfl rfl (ltb rfl) rfl ?_)
          refine AO.op rfl (AOp.assign rfl rfl (ltb rfl) rfl ?_)
          refine AO.op rfl (AOp.assign rfl rfl (ltb rfl) rfl ?_)
          refine AO.nil ?_
          change AC _ _ _ _
          refine AC.ret ?_
          refine inlret (ob' := [.fix 24 [.d (.v (.slice none 0 0))], .fix 3 [.d (di .i64 (0 : Int))], .fix 4 [.d (dbool false)], .dead, .fix 71 [.d (eS0 ((a0.drop 0).take (((0 : Int)).toNat - 0))), .d (di .i64 (0 : Int)), .d (di .i8 (0 : Int))], .dead, .dead, .dead, .fix 102 (List.map (fun z => SV.d (keS0 z)) c19), .dead, .dead, .dead, .dead, .dead, .fix 94 [], .fix 63 (List.map (fun z => SV.d (keS1 z)) (List.replicate ((v54 * a2)).toNat (0 : Nat))), .dead, .fix 5 (List.map (fun z => SV.d (keS0 z)) c76), .dead, .dead, .dead, .dead, .dead, .dead, .dead]) (e' := [(6, .ptr 0 0), (7, .ptr 1 0), (8, .ptr 2 0), (9, .ptr 4 0)]) (r := .tu [.d (.v (.slice none 0 0)), .d (.v (errV W 5))]) rfl rfl rfl ?_
          change AO _ _ _ _ _
          refine AO.op rfl (AOp.move rfl rfl (ltb rfl) rfl ?_)
          first | refine AO.op rfl (AOp.extractD rfl rfl (ltb rfl) rfl rfl ?_) | refine AO.op rfl (AOp.extract rfl rfl (ltb rfl) rfl rfl ?_)
          first | refine AO.op rfl (AOp.extractD rfl rfl (ltb rfl) rfl rfl ?_) | refine AO.op rfl (AOp.extract rfl rfl (ltb rfl) rfl rfl ?_)
          refine AO.op rfl (AOp.store rfl rfl rfl rfl size24 rfl rfl rfl (leb rfl) ?_)
          refine AO.op rfl (AOp.assign rfl rfl (ltb rfl) rfl ?_)
          refine AO.objs (obs' := [.fix 24 [.d (.v (.slice none 0 0))], .fix 3 [.d (di .i64 (0 : Int))], .fix 4 [.d (dbool false)], .dead, .fix 71 [.d (eS0 ((a0.drop 0).take (((0 : Int)).toNat - 0))), .d (di .i64 (0 : Int)), .d (di .i8 (0 : Int))], .dead, .dead, .dead, .fix 102 (List.map (fun z => SV.d (keS0 z)) c19), .dead, .dead, .dead, .dead, .dead, .fix 94 [], .fix 63 (List.map (fun z => SV.d (keS1 z)) (List.replicate ((v54 * a2)).toNat (0 : Nat))), .dead, .fix 5 (List.map (fun z => SV.d (keS0 z)) c76), .dead, .dead, .dead, .dead, .dead, .dead, .dead]) rfl ?_
          refine AO.nil ?_
          change AC _ _ _ _
          refine AC.seq ?_
          refine AC.freezeP (ds := c_TBytes_Buffer (TBytes_Buffer.mk ((a0.drop 0).take (((0 : Int)).toNat - 0)) (0 : Int) (0 : Int))) 9 4 rfl rfl rfl rfl (Nat.zero_le _) ?_
          obtain ⟨y93, q94, h0⟩ := bind_elim h0
          refine AC.drawS [0, 1, 2, 3, 4, 5, 6] [5, 6] [7] (fun L => [.fix 24 [.d (.v (.slice none 0 0))], .fix 3 [(bif L 6 then .d (di .i64 y93) else .d (di .i64 (0 : Int)))], .fix 4 [.d (dbool false)], .dead, .dead, .dead, .dead, .dead, .fix 102 (List.map (fun z => SV.d (keS0 z)) c19), .dead, .dead, .dead, .dead, .dead, .fix 94 [], .fix 63 (List.map (fun z => SV.d (keS1 z)) (List.replicate ((v54 * a2)).toNat (0 : Nat))), .dead, .fix 5 (List.map (fun z => SV.d (keS0 z)) c76), .dead, .dead, .dead, .dead, .dead, .dead, .dead]) [(5, (fun _ => true)), (6, (fun _ => true))] mixed (by kernel_rfl) (fun L L' h => by simp only [h 5 (by decide), h 6 (by decide)]) rfl ?_
          refine AS.op [6] [] [5, 6] [] rfl rfl rfl (by kernel_rfl) (by kernel_rfl) rfl rfl (fun _ _ _ h => AOp.load1 rfl rfl (ltb rfl) rfl agg24 rfl rfl h) (by kernel_rfl) ?_
          refine AS.op [9] [] [5, 6] [] rfl rfl rfl (by kernel_rfl) (by kernel_rfl) rfl rfl (fun _ _ _ h => AOp.move rfl rfl (ltb rfl) rfl h) (by kernel_rfl) ?_
          refine AS.op [24] [] [5, 6] [] rfl rfl rfl (by kernel_rfl) (by kernel_rfl) rfl rfl (fun _ _ _ h => AOp.callD rfl rfl (ltb rfl) rfl rfl (w_Buffer_Len (TBytes_Buffer.mk ((a0.drop 0).take (((0 : Int)).toNat - 0)) (0 : Int) (0 : Int)) y93 q94) (by rintro _ rfl; exact h)) (by kernel_rfl) ?_
          refine AS.op [10] [] [] [5, 6] rfl rfl rfl (by kernel_rfl) (by kernel_rfl) rfl rfl (fun _ _ _ h => AOp.move rfl rfl (ltb rfl) rfl h) (by kernel_rfl) ?_
          refine AS.op [26] [] [] [5, 6] rfl rfl rfl (by kernel_rfl) (by kernel_rfl) rfl rfl (fun _ _ _ h => AOp.errEql rfl rfl (ltb rfl) rfl (by simp [GlobsP]) imeth57 h) (by kernel_rfl) ?_
          refine AS.mid0 [6, 23] [] [6, 5] [] rfl rfl rfl rfl (by kernel_rfl) (by kernel_rfl) rfl rfl (fun _ _ _ h => AOp.store rfl rfl rfl rfl size24 rfl rfl rfl (leb rfl) (AO.dropT h)) (by kernel_rfl) rfl ?_
          refine AS.mid0 [7, 25] [5] [6] [] rfl rfl rfl rfl (by kernel_rfl) (by kernel_rfl) rfl rfl (fun _ _ _ h => AOp.store rfl rfl rfl rfl size3 rfl rfl rfl (leb rfl) (AO.dropT h)) (by kernel_rfl) rfl ?_
          refine AS.done ?_
          refine AO.objs (obs' := [.fix 24 [.d (.v (.slice none 0 0))], .fix 3 [.d (di .i64 y93)], .fix 4 [.d (dbool false)], .dead, .dead, .dead, .dead, .dead, .fix 102 (List.map (fun z => SV.d (keS0 z)) c19), .dead, .dead, .dead, .dead, .dead, .fix 94 [], .fix 63 (List.map (fun z => SV.d (keS1 z)) (List.replicate ((v54 * a2)).toNat (0 : Nat))), .dead, .fix 5 (List.map (fun z => SV.d (keS0 z)) c76), .dead, .dead, .dead, .dead, .dead, .dead, .dead]) rfl ?_
          refine AO.op rfl (AOp.store rfl rfl rfl rfl size4 rfl rfl rfl (leb rfl) ?_)
          refine AO.nil ?_
          change AC _ _ _ _
          refine AC.subO 0 rfl (.cons (SVLe.nil 1) .nil) ?_
          refine AC.ret ?_
          change RetQ _ _ _ .ret _
          obtain rfl := Option.some.inj h0
          refine retq rfl rfl
        replace h0 := cF h0 q85
        cases h0
      replace h0 := cF h0 q81
      refine AO.guardN rfl rfl rfl (ltb rfl) rfl q81 ?_
      refine AO.guardN rfl rfl rfl (ltb rfl) rfl q81 ?_
      refine AO.op rfl (AOp.pickN rfl rfl (ltb rfl) rfl q81 rfl ?_)
      refine AO.nil ?_
      change AC _ _ _ _
      refine AC.condF rfl rfl ?_
      refine AC.exit ?_
      change AC _ _ _ _
      refine AC.seq ?_
      refine AC.seq ?_
      refine AC.region ?_
      refine AO.op rfl (AOp.move rfl rfl (ltb rfl) rfl ?_)
      refine AO.op rfl (AOp.move rfl rfl (ltb rfl) rfl ?_)
      refine AO.op rfl (AOp.igeq rfl rfl (ltb rfl) rfl rfl ?_)
      refine AO.nil ?_
      change AC _ _ _ _
      refine AC.condT rfl (dlt_ge q81) ?_
      refine AC.region ?_
      refine AO.op rfl (AOp.assign rfl rfl (ltb rfl) rfl ?_)
      refine AO.nil ?_
      change AC _ _ _ _
      refine AC.ret ?_
      refine inlret (ob' := [.fix 24 [.d (.v (.slice none 0 0))], .fix 3 [.d (di .i64 (0 : Int))], .fix 4 [.d (dbool false)], .dead, .fix 71 [.d (eS0 a0), .d (di .i64 (((m17 : Nat) : Int) + ((m74 : Nat) : Int))), .d (di .i8 g79)], .dead, .frame fr4 [(6, .ptr 0 0), (7, .ptr 1 0), (8, .ptr 2 0), (9, .ptr 4 0)], .dead, .fix 102 (List.map (fun z => SV.d (keS0 z)) c19), .dead, .dead, .dead, .dead, .dead, .fix 94 [], .fix 63 (List.map (fun z => SV.d (keS1 z)) (List.replicate ((v54 * a2)).toNat (0 : Nat))), .frame fr58 [(11, .sl 15 1 0 (((v54 * a2)).toNat) (((v54 * a2)).toNat))], .fix 5 (List.map (fun z => SV.d (keS0 z)) c76), .frame fr61 [(1, .ifc 94 (.ag [])), (2, .sl 15 1 0 (((v54 * a2)).toNat) (((v54 * a2)).toNat)), (7, .sl 17 1 0 ((((8 : Int) * ((((v54 * a2)).toNat : Nat) : Int))).toNat) ((((8 : Int) * ((((v54 * a2)).toNat : Nat) : Int))).toNat))], .dead, .dead, .dead]) (e' := [(4, .d (di .i64 (0 : Int))), (5, .d (.v (.nilIface)))]) (r := .tu [.d (di .i64 ((m74 : Nat) : Int)), .d (.v (.nilIface))]) rfl rfl rfl ?_
      change AO _ _ _ _ _
      first | refine AO.op rfl (AOp.extractD rfl rfl (ltb rfl) rfl rfl ?_) | refine AO.op rfl (AOp.extract rfl rfl (ltb rfl) rfl rfl ?_)
      first | refine AO.op rfl (AOp.extractD rfl rfl (ltb rfl) rfl rfl ?_) | refine AO.op rfl (AOp.extract rfl rfl (ltb rfl) rfl rfl ?_)
      refine AO.op rfl (AOp.assign rfl rfl (ltb rfl) rfl ?_)
      refine AO.op rfl (AOp.assign rfl rfl (ltb rfl) rfl ?_)
      refine AO.objs (obs' := [.fix 24 [.d (.v (.slice none 0 0))], .fix 3 [.d (di .i64 (0 : Int))], .fix 4 [.d (dbool false)], .dead, .fix 71 [.d (eS0 a0), .d (di .i64 (((m17 : Nat) : Int) + ((m74 : Nat) : Int))), .d (di .i8 g79)], .dead, .frame fr4 [(6, .ptr 0 0), (7, .ptr 1 0), (8, .ptr 2 0), (9, .ptr 4 0)], .dead, .fix 102 (List.map (fun z => SV.d (keS0 z)) c19), .dead, .dead, .dead, .dead, .dead, .fix 94 [], .fix 63 (List.map (fun z => SV.d (keS1 z)) (List.replicate ((v54 * a2)).toNat (0 : Nat))), .frame fr58 [(11, .sl 15 1 0 (((v54 * a2)).toNat) (((v54 * a2)).toNat))], .fix 5 (List.map (fun z => SV.d (keS0 z)) c76), .frame fr61 [(1, .ifc 94 (.ag [])), (2, .sl 15 1 0 (((v54 * a2)).toNat) (((v54 * a2)).toNat)), (7, .sl 17 1 0 ((((8 : Int) * ((((v54 * a2)).toNat : Nat) : Int))).toNat) ((((8 : Int) * ((((v54 * a2)).toNat : Nat) : Int))).toNat))], .dead, .dead, .dead]) rfl ?_
      refine AO.nil ?_
      change AC _ _ _ _
      refine AC.ret ?_
      refine inlret (ob' := [.fix 24 [.d (.v (.slice none 0 0))], .fix 3 [.d (di .i64 (0 : Int))], .fix 4 [.d (dbool false)], .dead, .fix 71 [.d (eS0 a0), .d (di .i64 (((m17 : Nat) : Int) + ((m74 : Nat) : Int))), .d (di .i8 g79)], .dead, .frame fr4 [(6, .ptr 0 0), (7, .ptr 1 0), (8, .ptr 2 0), (9, .ptr 4 0)], .dead, .fix 102 (List.map (fun z => SV.d (keS0 z)) c19), .dead, .dead, .dead, .dead, .dead, .fix 94 [], .fix 63 (List.map (fun z => SV.d (keS1 z)) (List.replicate ((v54 * a2)).toNat (0 : Nat))), .frame fr58 [(11, .sl 15 1 0 (((v54 * a2)).toNat) (((v54 * a2)).toNat))], .fix 5 (List.map (fun z => SV.d (keS0 z)) c76), .dead, .dead, .dead, .dead]) (e' := [(1, .ifc 94 (.ag [])), (2, .sl 15 1 0 (((v54 * a2)).toNat) (((v54 * a2)).toNat)), (7, .sl 17 1 0 ((((8 : Int) * ((((v54 * a2)).toNat : Nat) : Int))).toNat) ((((8 : Int) * ((((v54 * a2)).toNat : Nat) : Int))).toNat))]) (r := .tu [.d (di .i64 ((m74 : Nat) : Int)), .d (.v (.nilIface))]) rfl rfl rfl ?_
      change AO _ _ _ _ _
      refine AO.op rfl (AOp.move rfl rfl (ltb rfl) rfl ?_)
      first | refine AO.op rfl (AOp.extractD rfl rfl (ltb rfl) rfl rfl ?_) | refine AO.op rfl (AOp.extract rfl rfl (ltb rfl) rfl rfl ?_)
      first | refine AO.op rfl (AOp.extractD rfl rfl (ltb rfl) rfl rfl ?_) | refine AO.op rfl (AOp.extract rfl rfl (ltb rfl) rfl rfl ?_)
      refine AO.op rfl (AOp.assign rfl rfl (ltb rfl) rfl ?_)
      refine AO.op rfl (AOp.assign rfl rfl (ltb rfl) rfl ?_)
      refine AO.objs (obs' := [.fix 24 [.d (.v (.slice none 0 0))], .fix 3 [.d (di .i64 (0 : Int))], .fix 4 [.d (dbool false)], .dead, .fix 71 [.d (eS0 a0), .d (di .i64 (((m17 : Nat) : Int) + ((m74 : Nat) : Int))), .d (di .i8 g79)], .dead, .frame fr4 [(6, .ptr 0 0), (7, .ptr 1 0), (8, .ptr 2 0), (9, .ptr 4 0)], .dead, .fix 102 (List.map (fun z => SV.d (keS0 z)) c19), .dead, .dead, .dead, .dead, .dead, .fix 94 [], .fix 63 (List.map (fun z => SV.d (keS1 z)) (List.replicate ((v54 * a2)).toNat (0 : Nat))), .frame fr58 [(11, .sl 15 1 0 (((v54 * a2)).toNat) (((v54 * a2)).toNat))], .fix 5 (List.map (fun z => SV.d (keS0 z)) c76), .dead, .dead, .dead, .dead]) rfl ?_
      refine AO.nil ?_
      change AC _ _ _ _
      refine AC.seq ?_
      refine AC.region ?_
      refine AO.op rfl (AOp.move rfl rfl (ltb rfl) rfl ?_)
      refine AO.op rfl (AOp.nilNeq rfl rfl (ltb rfl) rfl imeth57 ?_)
      refine AO.nil ?_
      change AC _ _ _ _
      refine AC.condF rfl rfl ?_
      refine AC.skip ?_
      change AC _ _ _ _
      refine AC.seq ?_
      refine AC.seq ?_
      refine AC.region ?_
      refine AO.op rfl (AOp.move rfl rfl (ltb rfl) rfl ?_)
      refine AO.op rfl (AOp.lenSl rfl rfl (ltb rfl) rfl el24 ?_)
      refine AO.op rfl (AOp.move rfl rfl (ltb rfl) rfl ?_)
      refine AO.nil ?_
      change AC _ _ _ _
      obtain ⟨q95, h0⟩ := need_elim h0
      refine AC.freezeF (ds := (List.map keS0 c76)) 7 17 rfl rfl rfl (by rw [List.map_map]; rfl) (lenq q95 (len1 _ _)) (Nat.le_refl _) ?_
      obtain ⟨o96, l97, h0⟩ := bind_elim h0
      refine AC.joinE (V := (List Nat)) [] [] 22 (fun g98 => []) (fun g98 => [.fix 24 [.d (.v (.slice none 0 0))], .fix 3 [.d (di .i64 (0 : Int))], .fix 4 [.d (dbool false)], .dead, .fix 71 [.d (eS0 a0), .d (di .i64 (((m17 : Nat) : Int) + ((m74 : Nat) : Int))), .d (di .i8 g79)], .dead, .frame fr4 [(6, .ptr 0 0), (7, .ptr 1 0), (8, .ptr 2 0), (9, .ptr 4 0)], .dead, .fix 102 (List.map (fun z => SV.d (keS0 z)) c19), .dead, .dead, .dead, .dead, .dead, .fix 94 [], .fix 63 (List.map (fun z => SV.d (keS1 z)) g98), .frame fr58 [(11, .sl 15 1 0 (((v54 * a2)).toNat) (((v54 * a2)).toNat))], .dead, .dead, .dead, .dead, .dead]) (fun g98 => (p_ReadFlat1_k3 a0 a2 m17 v54 m74 g79) g98 = some r0) rfl ?_ ?_
      · refine AC.block ?_
        refine AC.loopP (V := (Int × (List Nat))) (p_ReadFlat1_l4 a2 v54 c76) o96 [1, 2, 7, 25] [26] 22 (fun g102 => [(26, .d (di .i64 g102.1))]) (fun g102 => [.fix 24 [.d (.v (.slice none 0 0))], .fix 3 [.d (di .i64 (0 : Int))], .fix 4 [.d (dbool false)], .dead, .fix 71 [.d (eS0 a0), .d (di .i64 (((m17 : Nat) : Int) + ((m74 : Nat) : Int))), .d (di .i8 g79)], .dead, .frame fr4 [(6, .ptr 0 0), (7, .ptr 1 0), (8, .ptr 2 0), (9, .ptr 4 0)], .dead, .fix 102 (List.map (fun z => SV.d (keS0 z)) c19), .dead, .dead, .dead, .dead, .dead, .fix 94 [], .fix 63 (List.map (fun z => SV.d (keS1 z)) g102.2), .frame fr58 [(11, .sl 15 1 0 (((v54 * a2)).toNat) (((v54 * a2)).toNat))], .dead, .dead, .dead, .dead, .dead]) F ((0 : Int), (List.replicate ((v54 * a2)).toNat (0 : Nat))) l97 rfl rfl (LeL.refl _) rfl (okU_mk rfl (okU_cons rfl (okU_cons rfl (okU_cons rfl (okU_cons rfl (okU_cons rfl (okU_cons rfl (okU_cons rfl (okU_cons rfl (okU_cons (okU_fixl (fun _ => rfl)) (okU_cons rfl (okU_cons rfl (okU_cons rfl (okU_cons rfl (okU_cons rfl (okU_cons rfl (okU_cons (okU_fixl (fun _ => rfl)) (okU_cons rfl (okU_cons rfl (okU_cons rfl (okU_cons rfl (okU_cons rfl (okU_cons rfl okU_nil))))))))))))))))))))))) ?_
        intro n104 g102 h1
        unfold p_ReadFlat1_l4 at h1
        refine AC.seq ?_
        refine AC.region ?_
        refine AO.op rfl (AOp.ilss rfl rfl (ltb rfl) rfl rfl ?_)
        refine AO.nil ?_
        change AC _ _ _ _
        refine AC.seq ?_
        refine AC.cond rfl (fun q105 => ?_) (fun q105 => ?_)
        · replace h1 := cT h1 q105
          refine AC.skip ?_
          change AC _ _ _ _
          refine AC.seq ?_
          refine AC.block ?_
          refine AC.seq ?_
          refine AC.region ?_
          refine AO.op rfl (AOp.move rfl rfl (ltb rfl) rfl ?_)
          refine AO.op rfl (AOp.assign rfl rfl (ltb rfl) rfl ?_)
          refine AO.nil ?_
          change AC _ _ _ _
          refine AC.region ?_
          refine AO.op rfl (AOp.move rfl rfl (ltb rfl) rfl ?_)
          refine AO.op rfl (AOp.move rfl rfl (ltb rfl) rfl ?_)
          refine AO.op rfl (AOp.move rfl rfl (ltb rfl) rfl ?_)
          refine AO.op rfl (AOp.move rfl rfl (ltb rfl) rfl ?_)
          obtain ⟨q106, h1⟩ := need_elim h1
          refine AO.op rfl (AOp.imul rfl rfl (ltb rfl) rfl rfl rfl q106.1 q106.2 ?_)
          obtain ⟨q107, h1⟩ := need_elim h1
          refine AO.op rfl (AOp.sliceD (cells := (List.map keS0 c76)) (n := c76.length) (l := (((8 : Int) * g102.1)).toNat) (hh := c76.length) rfl rfl (ltb rfl) rfl (.inr ⟨_, _, _, rfl, rfl, q107.1.1, rfl⟩) (.inl ⟨rfl, rfl⟩) el22 (by decide) (len1 _ _) q107.2.1 q107.2.2 (sub1 _ _ _ _) ?_)
          refine AO.op rfl (AOp.move rfl rfl (ltb rfl) rfl ?_)
          refine AO.op rfl (AOp.inl [1, 2, 7, 25, 26, 29, 30] (by kernel_rfl) Tryd.func46 rfl Tryd.ntmps46 rfl rfl (ltb rfl) rfl (leb rfl) rfl ?_)
          intro fr108
          refine AC.seq ?_
          refine AC.region ?_
          refine AO.op rfl (AOp.assign rfl rfl (ltb rfl) rfl ?_)
          refine AO.objs (obs' := [.fix 24 [.d (.v (.slice none 0 0))], .fix 3 [.d (di .i64 (0 : Int))], .fix 4 [.d (dbool false)], .dead, .fix 71 [.d (eS0 a0), .d (di .i64 (((m17 : Nat) : Int) + ((m74 : Nat) : Int))), .d (di .i8 g79)], .dead, .frame fr4 [(6, .ptr 0 0), (7, .ptr 1 0), (8, .ptr 2 0), (9, .ptr 4 0)], .dead, .fix 102 (List.map (fun z => SV.d (keS0 z)) c19), .dead, .dead, .dead, .dead, .dead, .fix 94 [], .fix 63 (List.map (fun z => SV.d (keS1 z)) g102.2), .frame fr58 [(11, .sl 15 1 0 (((v54 * a2)).toNat) (((v54 * a2)).toNat))], .dead, .dead, .dead, .dead, .dead, .frame fr108 [(1, .ifc 94 (.ag [])), (2, .sl 15 1 0 (((v54 * a2)).toNat) (((v54 * a2)).toNat)), (7, .d (eS0 c76)), (25, .d (di .i64 ((((v54 * a2)).toNat : Nat) : Int))), (26, .d (di .i64 g102.1)), (29, .sl 15 1 0 (((v54 * a2)).toNat) (((v54 * a2)).toNat)), (30, .d (di .i64 g102.1))]]) rfl ?_
          refine AO.nil ?_
          change AC _ _ _ _
          refine AC.seq ?_
          refine AC.region ?_
          refine AO.op rfl (AOp.move rfl rfl (ltb rfl) rfl ?_)
          refine AO.op rfl (AOp.move rfl rfl (ltb rfl) rfl ?_)
          obtain ⟨y109, q110, h1⟩ := bind_elim h1
          refine AO.op rfl (AOp.callE (EntersS.meth (by kernel_rfl) rfl rfl rfl meth94_Uint64 rfl rfl) rfl (ltb rfl) rfl rfl (w_bigEndian_Uint64 TBinary_bigEndian.mk ((c76.drop (((8 : Int) * g102.1)).toNat).take (c76.length - (((8 : Int) * g102.1)).toNat)) y109 q110) ?_)
          rintro _ rfl
          refine AO.op rfl (AOp.assign rfl rfl (ltb rfl) rfl ?_)
          refine AO.nil ?_
          change AC _ _ _ _
          refine AC.seq ?_
          refine AC.region ?_
          refine AO.op rfl (AOp.move rfl rfl (ltb rfl) rfl ?_)
          obtain ⟨q111, h1⟩ := need_elim h1
          refine AO.op rfl (AOp.callX [.int .u64 (((y109).toNat : Nat) : Int)] rfl rfl (ltb rfl) (by rw [q111]; rfl) (callFromBits ((y109).toNat)) ?_)
          refine AO.op rfl (AOp.assign rfl rfl (ltb rfl) rfl ?_)
          refine AO.nil ?_
          change AC _ _ _ _
          refine AC.ret ?_
          refine inlret (ob' := [.fix 24 [.d (.v (.slice none 0 0))], .fix 3 [.d (di .i64 (0 : Int))], .fix 4 [.d (dbool false)], .dead, .fix 71 [.d (eS0 a0), .d (di .i64 (((m17 : Nat) : Int) + ((m74 : Nat) : Int))), .d (di .i8 g79)], .dead, .frame fr4 [(6, .ptr 0 0), (7, .ptr 1 0), (8, .ptr 2 0), (9, .ptr 4 0)], .dead, .fix 102 (List.map (fun z => SV.d (keS0 z)) c19), .dead, .dead, .dead, .dead, .dead, .fix 94 [], .fix 63 (List.map (fun z => SV.d (keS1 z)) g102.2), .frame fr58 [(11, .sl 15 1 0 (((v54 * a2)).toNat) (((v54 * a2)).toNat))], .dead, .dead, .dead, .dead, .dead, .dead]) (e' := [(1, .ifc 94 (.ag [])), (2, .sl 15 1 0 (((v54 * a2)).toNat) (((v54 * a2)).toNat)), (7, .d (eS0 c76)), (25, .d (di .i64 ((((v54 * a2)).toNat : Nat) : Int))), (26, .d (di .i64 g102.1)), (29, .sl 15 1 0 (((v54 * a2)).toNat) (((v54 * a2)).toNat)), (30, .d (di .i64 g102.1))]) (r := .d (dfl ((y109).toNat))) rfl rfl rfl ?_
          change AO _ _ _ _ _
          obtain ⟨q112, h1⟩ := need_elim h1
          refine AO.op rfl (AOp.indexSl rfl rfl (ltb rfl) rfl rfl el24 q112.1 q112.2 ?_)
          obtain ⟨q113, h1⟩ := need_elim h1
          refine AO.op rfl (AOp.storeL (f := fun z => SV.d (keS1 z)) (l := g102.2) (i := (g102.1).toNat) (v := (y109).toNat) rfl rfl rfl rfl size63 rfl rfl rfl q113 ?_)
          refine AO.objs (obs' := [.fix 24 [.d (.v (.slice none 0 0))], .fix 3 [.d (di .i64 (0 : Int))], .fix 4 [.d (dbool false)], .dead, .fix 71 [.d (eS0 a0), .d (di .i64 (((m17 : Nat) : Int) + ((m74 : Nat) : Int))), .d (di .i8 g79)], .dead, .frame fr4 [(6, .ptr 0 0), (7, .ptr 1 0), (8, .ptr 2 0), (9, .ptr 4 0)], .dead, .fix 102 (List.map (fun z => SV.d (keS0 z)) c19), .dead, .dead, .dead, .dead, .dead, .fix 94 [], .fix 63 (List.map (fun z => SV.d (keS1 z)) (g102.2.set (g102.1).toNat ((y109).toNat))), .frame fr58 [(11, .sl 15 1 0 (((v54 * a2)).toNat) (((v54 * a2)).toNat))], .dead, .dead, .dead, .dead, .dead, .dead]) rfl ?_
          refine AO.nil ?_
          change AC _ _ _ _
          refine AC.region ?_
          obtain ⟨q114, h1⟩ := need_elim h1
          refine AO.op rfl (AOp.iadd rfl rfl (ltb rfl) rfl rfl rfl q114.1 q114.2 ?_)
          refine AO.op rfl (AOp.move rfl rfl (ltb rfl) rfl ?_)
          refine AO.nil ?_
          exact ⟨((g102.1 + (1 : Int)), (g102.2.set (g102.1).toNat ((y109).toNat))), _, rfl, (LeL.refl _), rfl, (okU_mk rfl (okU_cons rfl (okU_cons rfl (okU_cons rfl (okU_cons rfl (okU_cons rfl (okU_cons rfl (okU_cons rfl (okU_cons rfl (okU_cons (okU_fixl (fun _ => rfl)) (okU_cons rfl (okU_cons rfl (okU_cons rfl (okU_cons rfl (okU_cons rfl (okU_cons rfl (okU_cons (okU_fixl (fun _ => rfl)) (okU_cons rfl (okU_cons rfl (okU_cons rfl (okU_cons rfl (okU_cons rfl (okU_cons rfl okU_nil))))))))))))))))))))))), h1⟩
        replace h1 := cF h1 q105
        refine AC.exit ?_
        obtain rfl := Option.some.inj h1
        exact ⟨g102.2, _, rfl, (LeL.refl _), rfl, (okU_mk rfl (okU_cons rfl (okU_cons rfl (okU_cons rfl (okU_cons rfl (okU_cons rfl (okU_cons rfl (okU_cons rfl (okU_cons rfl (okU_cons (okU_fixl (fun _ => rfl)) (okU_cons rfl (okU_cons rfl (okU_cons rfl (okU_cons rfl (okU_cons rfl (okU_cons rfl (okU_cons (okU_fixl (fun _ => rfl)) (okU_cons rfl (okU_cons rfl (okU_cons rfl (okU_cons rfl (okU_cons rfl (okU_cons rfl okU_nil))))))))))))))))))))))), aftL h0⟩
      intro g98 h0
      unfold p_ReadFlat1_k3 at h0
      change AC _ _ _ _
      refine AC.seq ?_
      refine AC.region ?_
      refine AO.op rfl (AOp.assign rfl rfl (ltb rfl) rfl ?_)
      refine AO.nil ?_
      change AC _ _ _ _
      refine AC.ret ?_
      refine inlret (ob' := [.fix 24 [.d (.v (.slice none 0 0))], .fix 3 [.d (di .i64 (0 : Int))], .fix 4 [.d (dbool false)], .dead, .fix 71 [.d (eS0 a0), .d (di .i64 (((m17 : Nat) : Int) + ((m74 : Nat) : Int))), .d (di .i8 g79)], .dead, .frame fr4 [(6, .ptr 0 0), (7, .ptr 1 0), (8, .ptr 2 0), (9, .ptr 4 0)], .dead, .fix 102 (List.map (fun z => SV.d (keS0 z)) c19), .dead, .dead, .dead, .dead, .dead, .fix 94 [], .fix 63 (List.map (fun z => SV.d (keS1 z)) g98), .dead, .dead, .dead, .dead, .dead, .dead]) (e' := [(11, .sl 15 1 0 (((v54 * a2)).toNat) (((v54 * a2)).toNat))]) (r := .d (.v (.nilIface))) rfl rfl rfl ?_
      change AO _ _ _ _ _
      refine AO.op rfl (AOp.assign rfl rfl (ltb rfl) rfl ?_)
      refine AO.objs (obs' := [.fix 24 [.d (.v (.slice none 0 0))], .fix 3 [.d (di .i64 (0 : Int))], .fix 4 [.d (dbool false)], .dead, .fix 71 [.d (eS0 a0), .d (di .i64 (((m17 : Nat) : Int) + ((m74 : Nat) : Int))), .d (di .i8 g79)], .dead, .frame fr4 [(6, .ptr 0 0), (7, .ptr 1 0), (8, .ptr 2 0), (9, .ptr 4 0)], .dead, .fix 102 (List.map (fun z => SV.d (keS0 z)) c19), .dead, .dead, .dead, .dead, .dead, .fix 94 [], .fix 63 (List.map (fun z => SV.d (keS1 z)) g98), .dead, .dead, .dead, .dead, .dead, .dead]) rfl ?_
      refine AO.nil ?_
      change AC _ _ _ _
      refine AC.seq ?_
      refine AC.region ?_
      refine AO.op rfl (AOp.move rfl rfl (ltb rfl) rfl ?_)
      refine AO.op rfl (AOp.nilNeq rfl rfl (ltb rfl) rfl imeth57 ?_)
      refine AO.nil ?_
      change AC _ _ _ _
      refine AC.condF rfl rfl ?_
      refine AC.skip ?_
      change AC _ _ _ _
      refine AC.seq ?_
      refine AC.region ?_
      refine AO.op rfl (AOp.move rfl rfl (ltb rfl) rfl ?_)
      refine AO.op rfl (AOp.assign rfl rfl (ltb rfl) rfl ?_)
      refine AO.op rfl (AOp.assign rfl rfl (ltb rfl) rfl ?_)
      refine AO.nil ?_
      change AC _ _ _ _
      refine AC.ret ?_
      refine inlret (ob' := [.fix 24 [.d (.v (.slice none 0 0))], .fix 3 [.d (di .i64 (0 : Int))], .fix 4 [.d (dbool false)], .dead, .fix 71 [.d (eS0 a0), .d (di .i64 (((m17 : Nat) : Int) + ((m74 : Nat) : Int))), .d (di .i8 g79)], .dead, .dead, .dead, .fix 102 (List.map (fun z => SV.d (keS0 z)) c19), .dead, .dead, .dead, .dead, .dead, .fix 94 [], .fix 63 (List.map (fun z => SV.d (keS1 z)) g98), .dead, .dead, .dead, .dead, .dead, .dead]) (e' := [(6, .ptr 0 0), (7, .ptr 1 0), (8, .ptr 2 0), (9, .ptr 4 0)]) (r := .tu [.sl 15 1 0 (((v54 * a2)).toNat) (((v54 * a2)).toNat), .d (.v (.nilIface))]) rfl rfl rfl ?_
      change AO _ _ _ _ _
      refine AO.op rfl (AOp.move rfl rfl (ltb rfl) rfl ?_)
      first | refine AO.op rfl (AOp.extractD rfl rfl (ltb rfl) rfl rfl ?_) | refine AO.op rfl (AOp.extract rfl rfl (ltb rfl) rfl rfl ?_)
      first | refine AO.op rfl (AOp.extractD rfl rfl (ltb rfl) rfl rfl ?_) | refine AO.op rfl (AOp.extract rfl rfl (ltb rfl) rfl rfl ?_)
      obtain ⟨q99, h0⟩ := need_elim h0
      refine AO.freezeF (ds := (List.map keS1 g98)) 21 15 rfl rfl rfl (by rw [List.map_map]; rfl) (lenq q99 (len1 _ _)) (Nat.le_refl _) ?_
      refine AO.op rfl (AOp.store rfl rfl rfl rfl size24 rfl rfl rfl (leb rfl) ?_)
      refine AO.op rfl (AOp.assign rfl rfl (ltb rfl) rfl ?_)
      refine AO.objs (obs' := [.fix 24 [.d (eS1 g98)], .fix 3 [.d (di .i64 (0 : Int))], .fix 4 [.d (dbool false)], .dead, .fix 71 [.d (eS0 a0), .d (di .i64 (((m17 : Nat) : Int) + ((m74 : Nat) : Int))), .d (di .i8 g79)], .dead, .dead, .dead, .fix 102 (List.map (fun z => SV.d (keS0 z)) c19), .dead, .dead, .dead, .dead, .dead, .fix 94 [], .dead, .dead, .dead, .dead, .dead, .dead, .dead]) rfl ?_
      refine AO.nil ?_
      change AC _ _ _ _
      refine AC.seq ?_
      refine AC.freezeP (ds := c_TBytes_Buffer (TBytes_Buffer.mk a0 (((m17 : Nat) : Int) + ((m74 : Nat) : Int)) g79)) 9 4 rfl rfl rfl rfl (Nat.zero_le _) ?_
      obtain ⟨y100, q101, h0⟩ := bind_elim h0
      refine AC.drawS [0, 1, 2, 3, 4, 5, 6] [5, 6] [7] (fun L => [.fix 24 [.d (eS1 g98)], .fix 3 [(bif L 6 then .d (di .i64 y100) else .d (di .i64 (0 : Int)))], .fix 4 [.d (dbool false)], .dead, .dead, .dead, .dead, .dead, .fix 102 (List.map (fun z => SV.d (keS0 z)) c19), .dead, .dead, .dead, .dead, .dead, .fix 94 [], .dead, .dead, .dead, .dead, .dead, .dead, .dead]) [(5, (fun _ => true)), (6, (fun _ => true))] mixed (by kernel_rfl) (fun L L' h => by simp only [h 5 (by decide), h 6 (by decide)]) rfl ?_
      refine AS.op [6] [] [5, 6] [] rfl rfl rfl (by kernel_rfl) (by kernel_rfl) rfl rfl (fun _ _ _ h => AOp.load1 rfl rfl (ltb rfl) rfl agg24 rfl rfl h) (by kernel_rfl) ?_
      refine AS.op [9] [] [5, 6] [] rfl rfl rfl (by kernel_rfl) (by kernel_rfl) rfl rfl (fun _ _ _ h => AOp.move rfl rfl (ltb rfl) rfl h) (by kernel_rfl) ?_
      refine AS.op [24] [] [5, 6] [] rfl rfl rfl (by kernel_rfl) (by kernel_rfl) rfl rfl (fun _ _ _ h => AOp.callD rfl rfl (ltb rfl) rfl rfl (w_Buffer_Len (TBytes_Buffer.mk a0 (((m17 : Nat) : Int) + ((m74 : Nat) : Int)) g79) y100 q101) (by rintro _ rfl; exact h)) (by kernel_rfl) ?_
      refine AS.op [10] [] [] [5, 6] rfl rfl rfl (by kernel_rfl) (by kernel_rfl) rfl rfl (fun _ _ _ h => AOp.move rfl rfl (ltb rfl) rfl h) (by kernel_rfl) ?_
      refine AS.op [26] [] [] [5, 6] rfl rfl rfl (by kernel_rfl) (by kernel_rfl) rfl rfl (fun _ _ _ h => AOp.nilEq rfl rfl (ltb rfl) rfl imeth57 h) (by kernel_rfl) ?_
      refine AS.mid0 [6, 23] [] [6, 5] [] rfl rfl rfl rfl (by kernel_rfl) (by kernel_rfl) rfl rfl (fun _ _ _ h => AOp.store rfl rfl rfl rfl size24 rfl rfl rfl (leb rfl) (AO.dropT h)) (by kernel_rfl) rfl ?_
      refine AS.mid0 [7, 25] [5] [6] [] rfl rfl rfl rfl (by kernel_rfl) (by kernel_rfl) rfl rfl (fun _ _ _ h => AOp.store rfl rfl rfl rfl size3 rfl rfl rfl (leb rfl) (AO.dropT h)) (by kernel_rfl) rfl ?_
      refine AS.done ?_
      refine AO.objs (obs' := [.fix 24 [.d (eS1 g98)], .fix 3 [.d (di .i64 y100)], .fix 4 [.d (dbool false)], .dead, .dead, .dead, .dead, .dead, .fix 102 (List.map (fun z => SV.d (keS0 z)) c19), .dead, .dead, .dead, .dead, .dead, .fix 94 [], .dead, .dead, .dead, .dead, .dead, .dead, .dead]) rfl ?_
      refine AO.op rfl (AOp.store rfl rfl rfl rfl size4 rfl rfl rfl (leb rfl) ?_)
      refine AO.nil ?_
      change AC _ _ _ _
      refine AC.ret ?_
      change RetQ _ _ _ .ret _
      obtain rfl := Option.some.inj h0
      refine retq rfl rfl
    replace h0 := cF h0 q63
    refine AO.guardN rfl rfl rfl (ltb rfl) rfl q63 ?_
    refine AO.guardN rfl rfl rfl (ltb rfl) rfl q63 ?_
    refine AO.op rfl (AOp.pickN rfl rfl (ltb rfl) rfl q63 rfl ?_)
    refine AO.nil ?_
    change AC _ _ _ _
    refine AC.condF rfl rfl ?_
    refine AC.exit ?_
    change AC _ _ _ _
    refine AC.seq ?_
    refine AC.seq ?_
    refine AC.region ?_
    refine AO.op rfl (AOp.move rfl rfl (ltb rfl) rfl ?_)
    refine AO.op rfl (AOp.move rfl rfl (ltb rfl) rfl ?_)
    refine AO.op rfl (AOp.igeq rfl rfl (ltb rfl) rfl rfl ?_)
    refine AO.nil ?_
    change AC _ _ _ _
    refine AC.condT rfl (dlt_ge q63) ?_
    refine AC.region ?_
    refine AO.op rfl (AOp.assign rfl rfl (ltb rfl) rfl ?_)
    refine AO.nil ?_
    change AC _ _ _ _
    refine AC.ret ?_
    refine inlret (ob' := [.fix 24 [.d (.v (.slice none 0 0))], .fix 3 [.d (di .i64 (0 : Int))], .fix 4 [.d (dbool false)], .dead, .fix 71 [.d (eS0 a0), .d (di .i64 ((m17 : Nat) : Int)), .d (di .i8 g22)], .dead, .frame fr4 [(6, .ptr 0 0), (7, .ptr 1 0), (8, .ptr 2 0), (9, .ptr 4 0)], .dead, .fix 102 (List.map (fun z => SV.d (keS0 z)) c19), .dead, .dead, .dead, .dead, .dead, .fix 94 [], .fix 63 (List.map (fun z => SV.d (keS1 z)) (List.replicate ((v54 * a2)).toNat (0 : Nat))), .frame fr58 [(11, .sl 15 1 0 (((v54 * a2)).toNat) (((v54 * a2)).toNat))], .fix 5 (List.map (fun z => SV.d (keS0 z)) (List.replicate (((8 : Int) * ((((v54 * a2)).toNat : Nat) : Int))).toNat (0 : Int))), .frame fr61 [(1, .ifc 94 (.ag [])), (2, .sl 15 1 0 (((v54 * a2)).toNat) (((v54 * a2)).toNat)), (7, .sl 17 1 0 ((((8 : Int) * ((((v54 * a2)).toNat : Nat) : Int))).toNat) ((((8 : Int) * ((((v54 * a2)).toNat : Nat) : Int))).toNat))], .dead]) (e' := [(4, .d (di .i64 (0 : Int))), (5, .d (.v (.nilIface)))]) (r := .tu [.d (di .i64 (0 : Int)), .d (.v (.nilIface))]) rfl rfl rfl ?_
    change AO _ _ _ _ _
    first | refine AO.op rfl (AOp.extractD rfl rfl (ltb rfl) rfl rfl ?_) | refine AO.op rfl (AOp.extract rfl rfl (ltb rfl) rfl rfl ?_)
    first | refine AO.op rfl (AOp.extractD rfl rfl (ltb rfl) rfl rfl ?_) | refine AO.op rfl (AOp.extract rfl rfl (ltb rfl) rfl rfl ?_)
    refine AO.op rfl (AOp.assign rfl rfl (ltb rfl) rfl ?_)
    refine AO.op rfl (AOp.assign rfl rfl (ltb rfl) rfl ?_)
    refine AO.objs (obs' := [.fix 24 [.d (.v (.slice none 0 0))], .fix 3 [.d (di .i64 (0 : Int))], .fix 4 [.d (dbool false)], .dead, .fix 71 [.d (eS0 a0), .d (di .i64 ((m17 : Nat) : Int)), .d (di .i8 g22)], .dead, .frame fr4 [(6, .ptr 0 0), (7, .ptr 1 0), (8, .ptr 2 0), (9, .ptr 4 0)], .dead, .fix 102 (List.map (fun z => SV.d (keS0 z)) c19), .dead, .dead, .dead, .dead, .dead, .fix 94 [], .fix 63 (List.map (fun z => SV.d (keS1 z)) (List.replicate ((v54 * a2)).toNat (0 : Nat))), .frame fr58 [(11, .sl 15 1 0 (((v54 * a2)).toNat) (((v54 * a2)).toNat))], .fix 5 (List.map (fun z => SV.d (keS0 z)) (List.replicate (((8 : Int) * ((((v54 * a2)).toNat : Nat) : Int))).toNat (0 : Int))), .frame fr61 [(1, .ifc 94 (.ag [])), (2, .sl 15 1 0 (((v54 * a2)).toNat) (((v54 * a2)).toNat)), (7, .sl 17 1 0 ((((8 : Int) * ((((v54 * a2)).toNat : Nat) : Int))).toNat) ((((8 : Int) * ((((v54 * a2)).toNat : Nat) : Int))).toNat))], .dead]) rfl ?_
    refine AO.nil ?_
    change AC _ _ _ _
    refine AC.ret ?_
    refine inlret (ob' := [.fix 24 [.d (.v (.slice none 0 0))], .fix 3 [.d (di .i64 (0 : Int))], .fix 4 [.d (dbool false)], .dead, .fix 71 [.d (eS0 a0), .d (di .i64 ((m17 : Nat) : Int)), .d (di .i8 g22)], .dead, .frame fr4 [(6, .ptr 0 0), (7, .ptr 1 0), (8, .ptr 2 0), (9, .ptr 4 0)], .dead, .fix 102 (List.map (fun z => SV.d (keS0 z)) c19), .dead, .dead, .dead, .dead, .dead, .fix 94 [], .fix 63 (List.map (fun z => SV.d (keS1 z)) (List.replicate ((v54 * a2)).toNat (0 : Nat))), .frame fr58 [(11, .sl 15 1 0 (((v54 * a2)).toNat) (((v54 * a2)).toNat))], .fix 5 (List.map (fun z => SV.d (keS0 z)) (List.replicate (((8 : Int) * ((((v54 * a2)).toNat : Nat) : Int))).toNat (0 : Int))), .dead, .dead]) (e' := [(1, .ifc 94 (.ag [])), (2, .sl 15 1 0 (((v54 * a2)).toNat) (((v54 * a2)).toNat)), (7, .sl 17 1 0 ((((8 : Int) * ((((v54 * a2)).toNat : Nat) : Int))).toNat) ((((8 : Int) * ((((v54 * a2)).toNat : Nat) : Int))).toNat))]) (r := .tu [.d (di .i64 (0 : Int)), .d (.v (.nilIface))]) rfl rfl rfl ?_
    change AO _ _ _ _ _
    refine AO.op rfl (AOp.move rfl rfl (ltb rfl) rfl ?_)
    first | refine AO.op rfl (AOp.extractD rfl rfl (ltb rfl) rfl rfl ?_) | refine AO.op rfl (AOp.extract rfl rfl (ltb rfl) rfl rfl ?_)
    first | refine AO.op rfl (AOp.extractD rfl rfl (ltb rfl) rfl rfl ?_) | refine AO.op rfl (AOp.extract rfl rfl (ltb rfl) rfl rfl ?_)
    refine AO.op rfl (AOp.assign rfl rfl (ltb rfl) rfl ?_)
    refine AO.op rfl (AOp.assign rfl rfl (ltb rfl) rfl ?_)
    refine AO.objs (obs' := [.fix 24 [.d (.v (.slice none 0 0))], .fix 3 [.d (di .i64 (0 : Int))], .fix 4 [.d (dbool false)], .dead, .fix 71 [.d (eS0 a0), .d (di .i64 ((m17 : Nat) : Int)), .d (di .i8 g22)], .dead, .frame fr4 [(6, .ptr 0 0), (7, .ptr 1 0), (8, .ptr 2 0), (9, .ptr 4 0)], .dead, .fix 102 (List.map (fun z => SV.d (keS0 z)) c19), .dead, .dead, .dead, .dead, .dead, .fix 94 [], .fix 63 (List.map (fun z => SV.d (keS1 z)) (List.replicate ((v54 * a2)).toNat (0 : Nat))), .frame fr58 [(11, .sl 15 1 0 (((v54 * a2)).toNat) (((v54 * a2)).toNat))], .fix 5 (List.map (fun z => SV.d (keS0 z)) (List.replicate (((8 : Int) * ((((v54 * a2)).toNat : Nat) : Int))).toNat (0 : Int))), .dead, .dead]) rfl ?_
    refine AO.nil ?_
    change AC _ _ _ _
    refine AC.seq ?_
    refine AC.region ?_
    refine AO.op rfl (AOp.move rfl rfl (ltb rfl) rfl ?_)
    refine AO.op rfl (AOp.nilNeq rfl rfl (ltb rfl) rfl imeth57 ?_)
    refine AO.nil ?_
    change AC _ _ _ _
    refine AC.condF rfl rfl ?_
    refine AC.skip ?_
    change AC _ _ _ _
    refine AC.seq ?_
    refine AC.seq ?_
    refine AC.region ?_
    refine AO.op rfl (AOp.move rfl rfl (ltb rfl) rfl ?_)
    refine AO.op rfl (AOp.lenSl rfl rfl (ltb rfl) rfl el24 ?_)
    refine AO.op rfl (AOp.move rfl rfl (ltb rfl) rfl ?_)
    refine AO.nil ?_
    change AC _ _ _ _
    obtain ⟨q116, h0⟩ := need_elim h0
    refine AC.freezeF (ds := (List.map keS0 (List.replicate (((8 : Int) * ((((v54 * a2)).toNat : Nat) : Int))).toNat (0 : Int)))) 7 17 rfl rfl rfl (by rw [List.map_map]; rfl) (lenq q116 (len1 _ _)) (Nat.le_refl _) ?_
    obtain ⟨o117, l118, h0⟩ := bind_elim h0
    refine AC.joinE (V := (List Nat)) [] [] 20 (fun g119 => []) (fun g119 => [.fix 24 [.d (.v (.slice none 0 0))], .fix 3 [.d (di .i64 (0 : Int))], .fix 4 [.d (dbool false)], .dead, .fix 71 [.d (eS0 a0), .d (di .i64 ((m17 : Nat) : Int)), .d (di .i8 g22)], .dead, .frame fr4 [(6, .ptr 0 0), (7, .ptr 1 0), (8, .ptr 2 0), (9, .ptr 4 0)], .dead, .fix 102 (List.map (fun z => SV.d (keS0 z)) c19), .dead, .dead, .dead, .dead, .dead, .fix 94 [], .fix 63 (List.map (fun z => SV.d (keS1 z)) g119), .frame fr58 [(11, .sl 15 1 0 (((v54 * a2)).toNat) (((v54 * a2)).toNat))], .dead, .dead, .dead]) (fun g119 => (p_ReadFlat1_k5 a0 a2 m17 g22 v54) g119 = some r0) rfl ?_ ?_
    · refine AC.block ?_
      refine AC.loopP (V := (Int × (List Nat))) (p_ReadFlat1_l6 a2 v54) o117 [1, 2, 7, 25] [26] 20 (fun g123 => [(26, .d (di .i64 g123.1))]) (fun g123 => [.fix 24 [.d (.v (.slice none 0 0))], .fix 3 [.d (di .i64 (0 : Int))], .fix 4 [.d (dbool false)], .dead, .fix 71 [.d (eS0 a0), .d (di .i64 ((m17 : Nat) : Int)), .d (di .i8 g22)], .dead, .frame fr4 [(6, .ptr 0 0), (7, .ptr 1 0), (8, .ptr 2 0), (9, .ptr 4 0)], .dead, .fix 102 (List.map (fun z => SV.d (keS0 z)) c19), .dead, .dead, .dead, .dead, .dead, .fix 94 [], .fix 63 (List.map (fun z => SV.d (keS1 z)) g123.2), .frame fr58 [(11, .sl 15 1 0 (((v54 * a2)).toNat) (((v54 * a2)).toNat))], .dead, .dead, .dead]) F ((0 : Int), (List.replicate ((v54 * a2)).toNat (0 : Nat))) l118 rfl rfl (LeL.refl _) rfl (okU_mk rfl (okU_cons rfl (okU_cons rfl (okU_cons rfl (okU_cons rfl (okU_cons rfl (okU_cons rfl (okU_cons rfl (okU_cons rfl (okU_cons (okU_fixl (fun _ => rfl)) (okU_cons rfl (okU_cons rfl (okU_cons rfl (okU_cons rfl (okU_cons rfl (okU_cons rfl (okU_cons (okU_fixl (fun _ => rfl)) (okU_cons rfl (okU_cons rfl (okU_cons rfl (okU_cons rfl okU_nil))))))))))))))))))))) ?_
      intro n125 g123 h1
      unfold p_ReadFlat1_l6 at h1
      refine AC.seq ?_
      refine AC.region ?_
      refine AO.op rfl (AOp.ilss rfl rfl (ltb rfl) rfl rfl ?_)
      refine AO.nil ?_
      change AC _ _ _ _
      refine AC.seq ?_
      refine AC.cond rfl (fun q126 => ?_) (fun q126 => ?_)
      · replace h1 := cT h1 q126
        refine AC.skip ?_
        change AC _ _ _ _
        refine AC.seq ?_
        refine AC.block ?_
        refine AC.seq ?_
        refine AC.region ?_
        refine AO.op rfl (AOp.move rfl rfl (ltb rfl) rfl ?_)
        refine AO.op rfl (AOp.assign rfl rfl (ltb rfl) rfl ?_)
        refine AO.nil ?_
        change AC _ _ _ _
        refine AC.region ?_
        refine AO.op rfl (AOp.move rfl rfl (ltb rfl) rfl ?_)
        refine AO.op rfl (AOp.move rfl rfl (ltb rfl) rfl ?_)
        refine AO.op rfl (AOp.move rfl rfl (ltb rfl) rfl ?_)
        refine AO.op rfl (AOp.move rfl rfl (ltb rfl) rfl ?_)
        obtain ⟨q127, h1⟩ := need_elim h1
        refine AO.op rfl (AOp.imul rfl rfl (ltb rfl) rfl rfl rfl q127.1 q127.2 ?_)
        obtain ⟨q128, h1⟩ := need_elim h1
        refine AO.op rfl (AOp.sliceD (cells := (List.map keS0 (List.replicate (((8 : Int) * ((((v54 * a2)).toNat : Nat) : Int))).toNat (0 : Int)))) (n := (List.replicate (((8 : Int) * ((((v54 * a2)).toNat : Nat) : Int))).toNat (0 : Int)).length) (l := (((8 : Int) * g123.1)).toNat) (hh := (List.replicate (((8 : Int) * ((((v54 * a2)).toNat : Nat) : Int))).toNat (0 : Int)).length) rfl rfl (ltb rfl) rfl (.inr ⟨_, _, _, rfl, rfl, q128.1.1, rfl⟩) (.inl ⟨rfl, rfl⟩) el22 (by decide) (len1 _ _) q128.2.1 q128.2.2 (sub1 _ _ _ _) ?_)
        refine AO.op rfl (AOp.move rfl rfl (ltb rfl) rfl ?_)
        refine AO.op rfl (AOp.inl [1, 2, 7, 25, 26, 29, 30] (by kernel_rfl) Tryd.func46 rfl Tryd.ntmps46 rfl rfl (ltb rfl) rfl (leb rfl) rfl ?_)
        intro fr129
        refine AC.seq ?_
        refine AC.region ?_
        refine AO.op rfl (AOp.assign rfl rfl (ltb rfl) rfl ?_)
        refine AO.objs (obs' := [.fix 24 [.d (.v (.slice none 0 0))], .fix 3 [.d (di .i64 (0 : Int))], .fix 4 [.d (dbool false)], .dead, .fix 71 [.d (eS0 a0), .d (di .i64 ((m17 : Nat) : Int)), .d (di .i8 g22)], .dead, .frame fr4 [(6, .ptr 0 0), (7, .ptr 1 0), (8, .ptr 2 0), (9, .ptr 4 0)], .dead, .fix 102 (List.map (fun z => SV.d (keS0 z)) c19), .dead, .dead, .dead, .dead, .dead, .fix 94 [], .fix 63 (List.map (fun z => SV.d (keS1 z)) g123.2), .frame fr58 [(11, .sl 15 1 0 (((v54 * a2)).toNat) (((v54 * a2)).toNat))], .dead, .dead, .dead, .frame fr129 [(1, .ifc 94 (.ag [])), (2, .sl 15 1 0 (((v54 * a2)).toNat) (((v54 * a2)).toNat)), (7, .d (eS0 (List.replicate (((8 : Int) * ((((v54 * a2)).toNat : Nat) : Int))).toNat (0 : Int)))), (25, .d (di .i64 ((((v54 * a2)).toNat : Nat) : Int))), (26, .d (di .i64 g123.1)), (29, .sl 15 1 0 (((v54 * a2)).toNat) (((v54 * a2)).toNat)), (30, .d (di .i64 g123.1))]]) rfl ?_
        refine AO.nil ?_
        change AC _ _ _ _
        refine AC.seq ?_
        refine AC.region ?_
        refine AO.op rfl (AOp.move rfl rfl (ltb rfl) rfl ?_)
        refine AO.op rfl (AOp.move rfl rfl (ltb rfl) rfl ?_)
        obtain ⟨y130, q131, h1⟩ := bind_elim h1
        refine AO.op rfl (AOp.callE (EntersS.meth (by kernel_rfl) rfl rfl rfl meth94_Uint64 rfl rfl) rfl (ltb rfl) rfl rfl (w_bigEndian_Uint64 TBinary_bigEndian.mk (((List.replicate (((8 : Int) * ((((v54 * a2)).toNat : Nat) : Int))).toNat (0 : Int)).drop (((8 : Int) * g123.1)).toNat).take ((List.replicate (((8 : Int) * ((((v54 * a2)).toNat : Nat) : Int))).toNat (0 : Int)).length - (((8 : Int) * g123.1)).toNat)) y130 q131) ?_)
        rintro _ rfl
        refine AO.op rfl (AOp.assign rfl rfl (ltb rfl) rfl ?_)
        refine AO.nil ?_
        change AC _ _ _ _
        refine AC.seq ?_
        refine AC.region ?_
        refine AO.op rfl (AOp.move rfl rfl (ltb rfl) rfl ?_)
        obtain ⟨q132, h1⟩ := need_elim h1
        refine AO.op rfl (AOp.callX [.int .u64 (((y130).toNat : Nat) : Int)] rfl rfl (ltb rfl) (by rw [q132]; rfl) (callFromBits ((y130).toNat)) ?_)
        refine AO.op rfl (AOp.assign rfl rfl (ltb rfl) rfl ?_)
        refine AO.nil ?_
        change AC _ _ _ _
        refine AC.ret ?_
        refine inlret (ob' := [.fix 24 [.d (.v (.slice none 0 0))], .fix 3 [.d (di .i64 (0 : Int))], .fix 4 [.d (dbool false)], .dead, .fix 71 [.d (eS0 a0), .d (di .i64 ((m17 : Nat) : Int)), .d (di .i8 g22)], .dead, .frame fr4 [(6, .ptr 0 0), (7, .ptr 1 0), (8, .ptr 2 0), (9, .ptr 4 0)], .dead, .fix 102 (List.map (fun z => SV.d (keS0 z)) c19), .dead, .dead, .dead, .dead, .dead, .fix 94 [], .fix 63 (List.map (fun z => SV.d (keS1 z)) g123.2), .frame fr58 [(11, .sl 15 1 0 (((v54 * a2)).toNat) (((v54 * a2)).toNat))], .dead, .dead, .dead, .dead]) (e' := [(1, .ifc 94 (.ag [])), (2, .sl 15 1 0 (((v54 * a2)).toNat) (((v54 * a2)).toNat)), (7, .d (eS0 (List.replicate (((8 : Int) * ((((v54 * a2)).toNat : Nat) : Int))).toNat (0 : Int)))), (25, .d (di .i64 ((((v54 * a2)).toNat : Nat) : Int))), (26, .d (di .i64 g123.1)), (29, .sl 15 1 0 (((v54 * a2)).toNat) (((v54 * a2)).toNat)), (30, .d (di .i64 g123.1))]) (r := .d (dfl ((y130).toNat))) rfl rfl rfl ?_
        change AO _ _ _ _ _
        obtain ⟨q133, h1⟩ := need_elim h1
        refine AO.op rfl (AOp.indexSl rfl rfl (ltb rfl) rfl rfl el24 q133.1 q133.2 ?_)
        obtain ⟨q134, h1⟩ := need_elim h1
        refine AO.op rfl (AOp.storeL (f := fun z => SV.d (keS1 z)) (l := g123.2) (i := (g123.1).toNat) (v := (y130).toNat) rfl rfl rfl rfl size63 rfl rfl rfl q134 ?_)
        refine AO.objs (obs' := [.fix 24 [.d (.v (.slice none 0 0))], .fix 3 [.d (di .i64 (0 : Int))], .fix 4 [.d (dbool false)], .dead, .fix 71 [.d (eS0 a0), .d (di .i64 ((m17 : Nat) : Int)), .d (di .i8 g22)], .dead, .frame fr4 [(6, .ptr 0 0), (7, .ptr 1 0), (8, .ptr 2 0), (9, .ptr 4 0)], .dead, .fix 102 (List.map (fun z => SV.d (keS0 z)) c19), .dead, .dead, .dead, .dead, .dead, .fix 94 [], .fix 63 (List.map (fun z => SV.d (keS1 z)) (g123.2.set (g123.1).toNat ((y130).toNat))), .frame fr58 [(11, .sl 15 1 0 (((v54 * a2)).toNat) (((v54 * a2)).toNat))], .dead, .dead, .dead, .dead]) rfl ?_
        refine AO.nil ?_
        change AC _ _ _ _
        refine AC.region ?_
        obtain ⟨q135, h1⟩ := need_elim h1
        refine AO.op rfl (AOp.iadd rfl rfl (ltb rfl) rfl rfl rfl q135.1 q135.2 ?_)
        refine AO.op rfl (AOp.move rfl rfl (ltb rfl) rfl ?_)
        refine AO.nil ?_
        exact ⟨((g123.1 + (1 : Int)), (g123.2.set (g123.1).toNat ((y130).toNat))), _, rfl, (LeL.refl _), rfl, (okU_mk rfl (okU_cons rfl (okU_cons rfl (okU_cons rfl (okU_cons rfl (okU_cons rfl (okU_cons rfl (okU_cons rfl (okU_cons rfl (okU_cons (okU_fixl (fun _ => rfl)) (okU_cons rfl (okU_cons rfl (okU_cons rfl (okU_cons rfl (okU_cons rfl (okU_cons rfl (okU_cons (okU_fixl (fun _ => rfl)) (okU_cons rfl (okU_cons rfl (okU_cons rfl (okU_cons rfl okU_nil))))))))))))))))))))), h1⟩
      replace h1 := cF h1 q126
      refine AC.exit ?_
      obtain rfl := Option.some.inj h1
      exact ⟨g123.2, _, rfl, (LeL.refl _), rfl, (okU_mk rfl (okU_cons rfl (okU_cons rfl (okU_cons rfl (okU_cons rfl (okU_cons rfl (okU_cons rfl (okU_cons rfl (okU_cons rfl (okU_cons (okU_fixl (fun _ => rfl)) (okU_cons rfl (okU_cons rfl (okU_cons rfl (okU_cons rfl (okU_cons rfl (okU_cons rfl (okU_cons (okU_fixl (fun _ => rfl)) (okU_cons rfl (okU_cons rfl (okU_cons rfl (okU_cons rfl okU_nil))))))))))))))))))))), aftL h0⟩
    intro g119 h0
    unfold p_ReadFlat1_k5 at h0
    change AC _ _ _ _
    refine AC.seq ?_
    refine AC.region ?_
    refine AO.op rfl (AOp.assign rfl rfl (ltb rfl) rfl ?_)
    refine AO.nil ?_
    change AC _ _ _ _
    refine AC.ret ?_
    refine inlret (ob' := [.fix 24 [.d (.v (.slice none 0 0))], .fix 3 [.d (di .i64 (0 : Int))], .fix 4 [.d (dbool false)], .dead, .fix 71 [.d (eS0 a0), .d (di .i64 ((m17 : Nat) : Int)), .d (di .i8 g22)], .dead, .frame fr4 [(6, .ptr 0 0), (7, .ptr 1 0), (8, .ptr 2 0), (9, .ptr 4 0)], .dead, .fix 102 (List.map (fun z => SV.d (keS0 z)) c19), .dead, .dead, .dead, .dead, .dead, .fix 94 [], .fix 63 (List.map (fun z => SV.d (keS1 z)) g119), .dead, .dead, .dead, .dead]) (e' := [(11, .sl 15 1 0 (((v54 * a2)).toNat) (((v54 * a2)).toNat))]) (r := .d (.v (.nilIface))) rfl rfl rfl ?_
    change AO _ _ _ _ _
    refine AO.op rfl (AOp.assign rfl rfl (ltb rfl) rfl ?_)
    refine AO.objs (obs' := [.fix 24 [.d (.v (.slice none 0 0))], .fix 3 [.d (di .i64 (0 : Int))], .fix 4 [.d (dbool false)], .dead, .fix 71 [.d (eS0 a0), .d (di .i64 ((m17 : Nat) : Int)), .d (di .i8 g22)], .dead, .frame fr4 [(6, .ptr 0 0), (7, .ptr 1 0), (8, .ptr 2 0), (9, .ptr 4 0)], .dead, .fix 102 (List.map (fun z => SV.d (keS0 z)) c19), .dead, .dead, .dead, .dead, .dead, .fix 94 [], .fix 63 (List.map (fun z => SV.d (keS1 z)) g119), .dead, .dead, .dead, .dead]) rfl ?_
    refine AO.nil ?_
    change AC _ _ _ _
    refine AC.seq ?_
    refine AC.region ?_
    refine AO.op rfl (AOp.move rfl rfl (ltb rfl) rfl ?_)
    refine AO.op rfl (AOp.nilNeq rfl rfl (ltb rfl) rfl imeth57 ?_)
    refine AO.nil ?_
    change AC _ _ _ _
    refine AC.condF rfl rfl ?_
    refine AC.skip ?_
    change AC _ _ _ _
    refine AC.seq ?_
    refine AC.region ?_
    refine AO.op rfl (AOp.move rfl rfl (ltb rfl) rfl ?_)
    refine AO.op rfl (AOp.assign rfl rfl (ltb rfl) rfl ?_)
    refine AO.op rfl (AOp.assign rfl rfl (ltb rfl) rfl ?_)
    refine AO.nil ?_
    change AC _ _ _ _
    refine AC.ret ?_
    refine inlret (ob' := [.fix 24 [.d (.v (.slice none 0 0))], .fix 3 [.d (di .i64 (0 : Int))], .fix 4 [.d (dbool false)], .dead, .fix 71 [.d (eS0 a0), .d (di .i64 ((m17 : Nat) : Int)), .d (di .i8 g22)], .dead, .dead, .dead, .fix 102 (List.map (fun z => SV.d (keS0 z)) c19), .dead, .dead, .dead, .dead, .dead, .fix 94 [], .fix 63 (List.map (fun z => SV.d (keS1 z)) g119), .dead, .dead, .dead, .dead]) (e' := [(6, .ptr 0 0), (7, .ptr 1 0), (8, .ptr 2 0), (9, .ptr 4 0)]) (r := .tu [.sl 15 1 0 (((v54 * a2)).toNat) (((v54 * a2)).toNat), .d (.v (.nilIface))]) rfl rfl rfl ?_
    change AO _ _ _ _ _
    refine AO.op rfl (AOp.move rfl rfl (ltb rfl) rfl ?_)
    first | refine AO.op rfl (AOp.extractD rfl rfl (ltb rfl) rfl rfl ?_) | refine AO.op rfl (AOp.extract rfl rfl (ltb rfl) rfl rfl ?_)
    first | refine AO.op rfl (AOp.extractD rfl rfl (ltb rfl) rfl rfl ?_) | refine AO.op rfl (AOp.extract rfl rfl (ltb rfl) rfl rfl ?_)
    obtain ⟨q120, h0⟩ := need_elim h0
    refine AO.freezeF (ds := (List.map keS1 g119)) 21 15 rfl rfl rfl (by rw [List.map_map]; rfl) (lenq q120 (len1 _ _)) (Nat.le_refl _) ?_
    refine AO.op rfl (AOp.store rfl rfl rfl rfl size24 rfl rfl rfl (leb rfl) ?_)
    refine AO.op rfl (AOp.assign rfl rfl (ltb rfl) rfl ?_)
    refine AO.objs (obs' := [.fix 24 [.d (eS1 g119)], .fix 3 [.d (di .i64 (0 : Int))], .fix 4 [.d (dbool false)], .dead, .fix 71 [.d (eS0 a0), .d (di .i64 ((m17 : Nat) : Int)), .d (di .i8 g22)], .dead, .dead, .dead, .fix 102 (List.map (fun z => SV.d (keS0 z)) c19), .dead, .dead, .dead, .dead, .dead, .fix 94 [], .dead, .dead, .dead, .dead, .dead]) rfl ?_
    refine AO.nil ?_
    change AC _ _ _ _
    refine AC.seq ?_
    refine AC.freezeP (ds := c_TBytes_Buffer (TBytes_Buffer.mk a0 ((m17 : Nat) : Int) g22)) 9 4 rfl rfl rfl rfl (Nat.zero_le _) ?_
    obtain ⟨y121, q122, h0⟩ := bind_elim h0
    refine AC.drawS [0, 1, 2, 3, 4, 5, 6] [5, 6] [7] (fun L => [.fix 24 [.d (eS1 g119)], .fix 3 [(bif L 6 then .d (di .i64 y121) else .d (di .i64 (0 : Int)))], .fix 4 [.d (dbool false)], .dead, .dead, .dead, .dead, .dead, .fix 102 (List.map (fun z => SV.d (keS0 z)) c19), .dead, .dead, .dead, .dead, .dead, .fix 94 [], .dead, .dead, .dead, .dead, .dead]) [(5, (fun _ => true)), (6, (fun _ => true))] mixed (by kernel_rfl) (fun L L' h => by simp only [h 5 (by decide), h 6 (by decide)]) rfl ?_
    refine AS.op [6] [] [5, 6] [] rfl rfl rfl (by kernel_rfl) (by kernel_rfl) rfl rfl (fun _ _ _ h => AOp.load1 rfl rfl (ltb rfl) rfl agg24 rfl rfl h) (by kernel_rfl) ?_
    refine AS.op [9] [] [5, 6] [] rfl rfl rfl (by kernel_rfl) (by kernel_rfl) rfl rfl (fun _ _ _ h => AOp.move rfl rfl (ltb rfl) rfl h) (by kernel_rfl) ?_
    refine AS.op [24] [] [5, 6] [] rfl rfl rfl (by kernel_rfl) (by kernel_rfl) rfl rfl (fun _ _ _ h => AOp.callD rfl rfl (ltb rfl) rfl rfl (w_Buffer_Len (TBytes_Buffer.mk a0 ((m17 : Nat) : Int) g22) y121 q122) (by rintro _ rfl; exact h)) (by kernel_rfl) ?_
    refine AS.op [10] [] [] [5, 6] rfl rfl rfl (by kernel_rfl) (by kernel_rfl) rfl rfl (fun _ _ _ h => AOp.move rfl rfl (ltb rfl) rfl h) (by kernel_rfl) ?_
    refine AS.op [26] [] [] [5, 6] rfl rfl rfl (by kernel_rfl) (by kernel_rfl) rfl rfl (fun _ _ _ h => AOp.nilEq rfl rfl (ltb rfl) rfl imeth57 h) (by kernel_rfl) ?_
    refine AS.mid0 [6, 23] [] [6, 5] [] rfl rfl rfl rfl (by kernel_rfl) (by kernel_rfl) rfl rfl (fun _ _ _ h => AOp.store rfl rfl rfl rfl size24 rfl rfl rfl (leb rfl) (AO.dropT h)) (by kernel_rfl) rfl ?_
    refine AS.mid0 [7, 25] [5] [6] [] rfl rfl rfl rfl (by kernel_rfl) (by kernel_rfl) rfl rfl (fun _ _ _ h => AOp.store rfl rfl rfl rfl size3 rfl rfl rfl (leb rfl) (AO.dropT h)) (by kernel_rfl) rfl ?_
    refine AS.done ?_
    refine AO.objs (obs' := [.fix 24 [.d (eS1 g119)], .fix 3 [.d (di .i64 y121)], .fix 4 [.d (dbool false)], .dead, .dead, .dead, .dead, .dead, .fix 102 (List.map (fun z => SV.d (keS0 z)) c19), .dead, .dead, .dead, .dead, .dead, .fix 94 [], .dead, .dead, .dead, .dead, .dead]) rfl ?_
    refine AO.op rfl (AOp.store rfl rfl rfl rfl size4 rfl rfl rfl (leb rfl) ?_)
    refine AO.nil ?_
    change AC _ _ _ _
    refine AC.ret ?_
    change RetQ _ _ _ .ret _
    obtain rfl := Option.some.inj h0
    refine retq rfl rfl
  exact absurd (hp0.symm.trans q3) (by decide)

end Go.Proofs.YtjhdpnjlphpboaaDoor.Wk
