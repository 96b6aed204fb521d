/- Proved: more of it. -/
import Derived.Test.YtjhdpnjlphpboaaDoorWRd_1
namespace Go.Proofs.YtjhdpnjlphpboaaDoor.Wk
open Go.Vm
set_option linter.unusedVariables false
set_option linter.unusedSimpArgs false
set_option maxRecDepth 100000 in
set_option maxHeartbeats 4000000 in
/-- pub-orthodrome/impl.ReadFlat1 -/
theorem w_ReadFlat1_c1 (F : Nat) (a0 : (List Int)) (a1 : Bool) (a2 : Int) (r0 : ((List Nat) × Int × Bool)) (h0 : p_ReadFlat1 F a0 a1 a2 = some r0) (hp0 : a1 = false) (hp1 : (decide (((a0.length : Nat) : Int) ≤ (0 : Int))) = true) : FnD Tryd.prog 7 [eS0 a0, dbool a1, di .i64 a2] (fun r => r = .tu [eS1 r0.1, di .i64 r0.2.1, dbool r0.2.2]) := by
  refine FnD.wrap (g := 19) (m := 3) (fun vs w h => idle19 vs w h) (by kernel_rfl) Tryd.func7 rfl Tryd.ntmps7 rfl (leb rfl) fun W ok => ?_
  unfold p_ReadFlat1 at h0
  refine AW.seq ?_
  refine AC.region ?_
  refine AO.op rfl (AOp.alloc rfl rfl (ltb rfl) zero24 rfl ?_)
  refine AO.op rfl (AOp.alloc rfl rfl (ltb rfl) zero3 rfl ?_)
  refine AO.op rfl (AOp.alloc rfl rfl (ltb rfl) zero4 rfl ?_)
  refine AO.nil ?_
  refine ⟨rfl, ?_⟩
  refine AW.defer (caps := [.tmp 6, .tmp 7, .tmp 8]) rfl rfl rfl (ltb rfl) rfl rfl rfl rfl (by kernel_rfl) rfl fun df => ?_
  refine AC.seq ?_
  refine AC.region ?_
  refine AO.op rfl (AOp.move rfl rfl (ltb rfl) rfl ?_)
  refine AO.op rfl (AOp.inl [1, 2, 6, 7, 8] (by kernel_rfl) Tryd.func20 rfl Tryd.ntmps20 rfl rfl (ltb rfl) rfl (leb rfl) rfl ?_)
  intro fr1
  refine AC.seq ?_
  refine AC.region ?_
  refine AO.op rfl (AOp.assign rfl rfl (ltb rfl) rfl ?_)
  refine AO.nil ?_
  change AC _ _ _ _
  refine AC.seq ?_
  refine AC.region ?_
  refine AO.op rfl (AOp.move rfl rfl (ltb rfl) rfl ?_)
  refine AO.op rfl (AOp.build rfl rfl (ltb rfl) zero71 rfl places71 rfl rfl ?_)
  refine AO.op rfl (AOp.box rfl rfl (ltb rfl) rfl rfl ?_)
  refine AO.op rfl (AOp.assign rfl rfl (ltb rfl) rfl ?_)
  refine AO.nil ?_
  change AC _ _ _ _
  refine AC.ret ?_
  refine inlret (ob' := [.fix 24 [.d (.v (.slice none 0 0))], .fix 3 [.d (di .i64 (0 : Int))], .fix 4 [.d (dbool false)], .dead, .fix 71 [.d (eS0 a0), .d (di .i64 (0 : Int)), .d (di .i8 (0 : Int))]]) (e' := [(1, .d (dbool a1)), (2, .d (di .i64 a2)), (6, .ptr 0 0), (7, .ptr 1 0), (8, .ptr 2 0)]) (r := .ptr 4 0) rfl rfl rfl ?_
  change AO _ _ _ _ _
  refine AO.op rfl (AOp.assign rfl rfl (ltb rfl) rfl ?_)
  refine AO.nil ?_
  change AC _ _ _ _
  refine AC.seq ?_
  refine AC.region ?_
  refine AO.op rfl (AOp.move rfl rfl (ltb rfl) rfl ?_)
  refine AO.op rfl (AOp.makeIfc rfl rfl (ltb rfl) rfl conc54 ?_)
  refine AO.op rfl (AOp.move rfl rfl (ltb rfl) rfl ?_)
  refine AO.op rfl (AOp.inl [2, 6, 7, 8, 9, 16] (by kernel_rfl) Tryd.func22 rfl Tryd.ntmps22 rfl rfl (ltb rfl) rfl (leb rfl) rfl ?_)
  intro fr2
  refine AC.seq ?_
  refine AC.region ?_
  refine AO.op rfl (AOp.assign rfl rfl (ltb rfl) rfl ?_)
  refine AO.objs (obs' := [.fix 24 [.d (.v (.slice none 0 0))], .fix 3 [.d (di .i64 (0 : Int))], .fix 4 [.d (dbool false)], .dead, .fix 71 [.d (eS0 a0), .d (di .i64 (0 : Int)), .d (di .i8 (0 : Int))], .frame fr2 [(2, .d (di .i64 a2)), (6, .ptr 0 0), (7, .ptr 1 0), (8, .ptr 2 0), (9, .ptr 4 0), (16, .ifc 54 (.ptr 4 0))]]) rfl ?_
  refine AO.nil ?_
  change AC _ _ _ _
  refine AC.seq ?_
  refine AC.seq ?_
  refine AC.region ?_
  refine AO.op rfl (AOp.move rfl rfl (ltb rfl) rfl ?_)
  refine AO.nil ?_
  change AC _ _ _ _
  refine AC.cond rfl (fun q3 => ?_) (fun q3 => ?_)
  · exact absurd (hp0.symm.trans q3) (by decide)
  replace h0 := cF h0 q3
  refine AC.skip ?_
  change AC _ _ _ _
  refine AC.seq ?_
  refine AC.region ?_
  refine AO.op rfl (AOp.loadG0 rfl rfl (ltb rfl) agg95 size95 ?_)
  refine AO.op rfl (AOp.makeIfc rfl rfl (ltb rfl) rfl conc95 ?_)
  refine AO.op rfl (AOp.assign rfl rfl (ltb rfl) rfl ?_)
  refine AO.nil ?_
  change AC _ _ _ _
  refine AC.ret ?_
  refine inlret (ob' := [.fix 24 [.d (.v (.slice none 0 0))], .fix 3 [.d (di .i64 (0 : Int))], .fix 4 [.d (dbool false)], .dead, .fix 71 [.d (eS0 a0), .d (di .i64 (0 : Int)), .d (di .i8 (0 : Int))], .dead]) (e' := [(2, .d (di .i64 a2)), (6, .ptr 0 0), (7, .ptr 1 0), (8, .ptr 2 0), (9, .ptr 4 0), (16, .ifc 54 (.ptr 4 0))]) (r := .ifc 95 (.ag [])) rfl rfl rfl ?_
  change AO _ _ _ _ _
  refine AO.op rfl (AOp.move rfl rfl (ltb rfl) rfl ?_)
  refine AO.op rfl (AOp.inl [6, 7, 8, 9] (by kernel_rfl) Tryd.func21 rfl Tryd.ntmps21 rfl rfl (ltb rfl) rfl (leb rfl) rfl ?_)
  intro fr137
  refine AC.seq ?_
  refine AC.region ?_
  refine AO.op rfl (AOp.assign rfl rfl (ltb rfl) rfl ?_)
  refine AO.op rfl (AOp.assign rfl rfl (ltb rfl) rfl ?_)
  refine AO.objs (obs' := [.fix 24 [.d (.v (.slice none 0 0))], .fix 3 [.d (di .i64 (0 : Int))], .fix 4 [.d (dbool false)], .dead, .fix 71 [.d (eS0 a0), .d (di .i64 (0 : Int)), .d (di .i8 (0 : Int))], .dead, .frame fr137 [(6, .ptr 0 0), (7, .ptr 1 0), (8, .ptr 2 0), (9, .ptr 4 0)]]) rfl ?_
  refine AO.nil ?_
  change AC _ _ _ _
  refine AC.seq ?_
  refine AC.region ?_
  refine AO.op rfl (AOp.move rfl rfl (ltb rfl) rfl ?_)
  refine AO.op rfl (AOp.move rfl rfl (ltb rfl) rfl ?_)
  refine AO.op rfl (AOp.inl [0, 1, 2] (by kernel_rfl) Tryd.func38 rfl Tryd.ntmps38 rfl rfl (ltb rfl) rfl (leb rfl) rfl ?_)
  intro fr138
  refine AC.seq ?_
  refine AC.region ?_
  refine AO.op rfl (AOp.assign rfl rfl (ltb rfl) rfl ?_)
  refine AO.op rfl (AOp.assign rfl rfl (ltb rfl) rfl ?_)
  refine AO.objs (obs' := [.fix 24 [.d (.v (.slice none 0 0))], .fix 3 [.d (di .i64 (0 : Int))], .fix 4 [.d (dbool false)], .dead, .fix 71 [.d (eS0 a0), .d (di .i64 (0 : Int)), .d (di .i8 (0 : Int))], .dead, .frame fr137 [(6, .ptr 0 0), (7, .ptr 1 0), (8, .ptr 2 0), (9, .ptr 4 0)], .frame fr138 [(0, .ifc 54 (.ptr 4 0)), (1, .ifc 95 (.ag [])), (2, .d (di .i64 a2))]]) rfl ?_
  refine AO.nil ?_
  change AC _ _ _ _
  refine AC.seq ?_
  refine AC.region ?_
  refine AO.op rfl (AOp.alloc rfl rfl (ltb rfl) zero102 rfl ?_)
  refine AO.nil ?_
  change AC _ _ _ _
  refine AC.seq ?_
  refine AC.seq ?_
  refine AC.region ?_
  refine AO.op rfl (AOp.move rfl rfl (ltb rfl) rfl ?_)
  refine AO.op rfl (AOp.sliceArr rfl rfl (ltb rfl) rfl ar102 ⟨_, _, rfl⟩ ?_)
  refine AO.op rfl (AOp.inl [1, 6] (by kernel_rfl) Tryd.func45 rfl Tryd.ntmps45 rfl rfl (ltb rfl) rfl (leb rfl) rfl ?_)
  intro fr139
  refine AC.seq ?_
  refine AC.region ?_
  refine AO.op rfl (AOp.assign rfl rfl (ltb rfl) rfl ?_)
  refine AO.op rfl (AOp.assign rfl rfl (ltb rfl) rfl ?_)
  refine AO.objs (obs' := [.fix 24 [.d (.v (.slice none 0 0))], .fix 3 [.d (di .i64 (0 : Int))], .fix 4 [.d (dbool false)], .dead, .fix 71 [.d (eS0 a0), .d (di .i64 (0 : Int)), .d (di .i8 (0 : Int))], .dead, .frame fr137 [(6, .ptr 0 0), (7, .ptr 1 0), (8, .ptr 2 0), (9, .ptr 4 0)], .frame fr138 [(0, .ifc 54 (.ptr 4 0)), (1, .ifc 95 (.ag [])), (2, .d (di .i64 a2))], .fix 102 (List.map (fun z => SV.d (keS0 z)) [(0 : Int), (0 : Int), (0 : Int), (0 : Int)]), .frame fr139 [(1, .ifc 95 (.ag [])), (6, .ptr 8 0)]]) rfl ?_
  refine AO.nil ?_
  change AC _ _ _ _
  refine AC.seq ?_
  refine AC.region ?_
  refine AO.op rfl (AOp.move rfl rfl (ltb rfl) rfl ?_)
  refine AO.op rfl (AOp.move rfl rfl (ltb rfl) rfl ?_)
  refine AO.op rfl (AOp.move rfl rfl (ltb rfl) rfl ?_)
  refine AO.op rfl (AOp.lenSl rfl rfl (ltb rfl) rfl el22 ?_)
  refine AO.op rfl (AOp.inl [4, 5] (by kernel_rfl) Tryd.func53 rfl Tryd.ntmps53 rfl rfl (ltb rfl) rfl (leb rfl) rfl ?_)
  intro fr140
  refine AC.seq ?_
  refine AC.region ?_
  refine AO.op rfl (AOp.assign rfl rfl (ltb rfl) rfl ?_)
  refine AO.op rfl (AOp.assign rfl rfl (ltb rfl) rfl ?_)
  refine AO.objs (obs' := [.fix 24 [.d (.v (.slice none 0 0))], .fix 3 [.d (di .i64 (0 : Int))], .fix 4 [.d (dbool false)], .dead, .fix 71 [.d (eS0 a0), .d (di .i64 (0 : Int)), .d (di .i8 (0 : Int))], .dead, .frame fr137 [(6, .ptr 0 0), (7, .ptr 1 0), (8, .ptr 2 0), (9, .ptr 4 0)], .frame fr138 [(0, .ifc 54 (.ptr 4 0)), (1, .ifc 95 (.ag [])), (2, .d (di .i64 a2))], .fix 102 (List.map (fun z => SV.d (keS0 z)) [(0 : Int), (0 : Int), (0 : Int), (0 : Int)]), .frame fr139 [(1, .ifc 95 (.ag [])), (6, .ptr 8 0)], .frame fr140 [(4, .d (di .i64 (0 : Int))), (5, .d (.v (.nilIface)))]]) rfl ?_
  refine AO.nil ?_
  change AC _ _ _ _
  refine AC.seq ?_
  refine AC.seq ?_
  refine AC.region ?_
  refine AO.op rfl (AOp.move rfl rfl (ltb rfl) rfl ?_)
  refine AO.op rfl (AOp.lenSl rfl rfl (ltb rfl) rfl el22 ?_)
  refine AO.op rfl (AOp.move rfl rfl (ltb rfl) rfl ?_)
  refine AO.op rfl (AOp.ilss rfl rfl (ltb rfl) rfl rfl ?_)
  refine AO.nil ?_
  change AC _ _ _ _
  refine AC.condF rfl rfl ?_
  refine AC.skip ?_
  change AC _ _ _ _
  refine AC.seq ?_
  refine AC.block ?_
  refine AC.loopU ?_
  refine ACL.round ?_
  refine AC.seq ?_
  refine AC.seq ?_
  refine AC.region ?_
  refine AO.op rfl (AOp.move rfl rfl (ltb rfl) rfl ?_)
  refine AO.op rfl (AOp.move rfl rfl (ltb rfl) rfl ?_)
  refine AO.op rfl (AOp.ilss rfl rfl (ltb rfl) rfl rfl ?_)
  refine AO.op rfl (AOp.move rfl rfl (ltb rfl) rfl ?_)
  refine AO.guardY rfl rfl rfl rfl (AOp.move rfl rfl (ltb rfl) rfl ?_)
  refine AO.guardY rfl rfl rfl rfl (AOp.nilEq rfl rfl (ltb rfl) rfl imeth57 ?_)
  refine AO.op rfl (AOp.pick rfl rfl (ltb rfl) rfl rfl rfl ?_)
  refine AO.nil ?_
  change AC _ _ _ _
  refine AC.condT rfl rfl ?_
  refine AC.skip ?_
  change AC _ _ _ _
  refine AC.block ?_
  refine AC.seq ?_
  refine AC.region ?_
  refine AO.op rfl (AOp.assign rfl rfl (ltb rfl) rfl ?_)
  refine AO.nil ?_
  change AC _ _ _ _
  refine AC.seq ?_
  refine AC.drawC 7 mixed (by kernel_rfl) rfl ?_
  refine AD.op [0] rfl (by kernel_rfl) rfl rfl (fun _ _ h => AOp.move rfl rfl (ltb rfl) rfl h) ?_
  refine AD.op [1] rfl (by kernel_rfl) rfl rfl (fun _ _ h => AOp.move rfl rfl (ltb rfl) rfl h) ?_
  refine AD.op [6] rfl (by kernel_rfl) rfl rfl (fun _ _ h => AOp.move rfl rfl (ltb rfl) rfl h) ?_
  refine AD.op [23, 24] rfl (by kernel_rfl) rfl rfl (fun _ _ h => AOp.sliceSl0 rfl rfl (ltb rfl) rfl rfl el22 h) ?_
  refine AD.op [22] rfl (by kernel_rfl) rfl rfl (fun _ _ h => AOp.makeMeth rfl rfl (ltb rfl) rfl h) ?_
  refine AD.op [26] rfl (by kernel_rfl) rfl rfl (fun _ _ h => AOp.nilMeth rfl rfl (ltb rfl) rfl rfl nilm54_Read h) ?_
  refine AD.op [22] rfl (by kernel_rfl) rfl rfl (fun _ _ h => AOp.move rfl rfl (ltb rfl) rfl h) ?_
  refine AD.done ?_
  refine AO.op rfl (AOp.inlE [0, 1, 2, 6, 7, 8] (EntersS.meth (by kernel_rfl) rfl rfl rfl meth54_Read rfl rfl) Tryd.func71 rfl Tryd.ntmps71 rfl (ltb rfl) (leb rfl) rfl ?_)
  intro fr141
  refine AC.seq ?_
  refine AC.region ?_
  refine AO.op rfl (AOp.assign rfl rfl (ltb rfl) rfl ?_)
  refine AO.op rfl (AOp.assign rfl rfl (ltb rfl) rfl ?_)
  refine AO.objs (obs' := [.fix 24 [.d (.v (.slice none 0 0))], .fix 3 [.d (di .i64 (0 : Int))], .fix 4 [.d (dbool false)], .dead, .fix 71 [.d (eS0 a0), .d (di .i64 (0 : Int)), .d (di .i8 (0 : Int))], .dead, .frame fr137 [(6, .ptr 0 0), (7, .ptr 1 0), (8, .ptr 2 0), (9, .ptr 4 0)], .frame fr138 [(0, .ifc 54 (.ptr 4 0)), (1, .ifc 95 (.ag [])), (2, .d (di .i64 a2))], .fix 102 (List.map (fun z => SV.d (keS0 z)) [(0 : Int), (0 : Int), (0 : Int), (0 : Int)]), .frame fr139 [(1, .ifc 95 (.ag [])), (6, .ptr 8 0)], .frame fr140 [(4, .d (di .i64 (0 : Int))), (5, .d (.v (.nilIface)))], .frame fr141 [(0, .ifc 54 (.ptr 4 0)), (1, .sl 8 1 0 4 4), (2, .d (di .i64 (4 : Int))), (6, .d (di .i64 (0 : Int))), (7, .d (.v (.nilIface))), (8, .d (di .i64 (0 : Int)))]]) rfl ?_
  refine AO.nil ?_
  change AC _ _ _ _
  refine AC.seq ?_
  refine AC.region ?_
  refine AO.op rfl (AOp.move rfl rfl (ltb rfl) rfl ?_)
  refine AO.op rfl (AOp.nilCheck rfl rfl (ltb rfl) rfl rfl ?_)
  refine AO.op rfl (AOp.fieldAddr rfl rfl (ltb rfl) rfl fo71_2 ?_)
  refine AO.op rfl (AOp.store rfl rfl rfl rfl size69 rfl rfl rfl (leb rfl) ?_)
  refine AO.nil ?_
  change AC _ _ _ _
  refine AC.seq ?_
  refine AC.seq ?_
  refine AC.region ?_
  refine AO.op rfl (AOp.move rfl rfl (ltb rfl) rfl ?_)
  refine AO.op rfl (AOp.inl [0, 1] (by kernel_rfl) Tryd.func75 rfl Tryd.ntmps75 rfl rfl (ltb rfl) rfl (leb rfl) rfl ?_)
  intro fr142
  refine AC.seq ?_
  refine AC.region ?_
  refine AO.op rfl (AOp.assign rfl rfl (ltb rfl) rfl ?_)
  refine AO.objs (obs' := [.fix 24 [.d (.v (.slice none 0 0))], .fix 3 [.d (di .i64 (0 : Int))], .fix 4 [.d (dbool false)], .dead, .fix 71 [.d (eS0 a0), .d (di .i64 (0 : Int)), .d (di .i8 (0 : Int))], .dead, .frame fr137 [(6, .ptr 0 0), (7, .ptr 1 0), (8, .ptr 2 0), (9, .ptr 4 0)], .frame fr138 [(0, .ifc 54 (.ptr 4 0)), (1, .ifc 95 (.ag [])), (2, .d (di .i64 a2))], .fix 102 (List.map (fun z => SV.d (keS0 z)) [(0 : Int), (0 : Int), (0 : Int), (0 : Int)]), .frame fr139 [(1, .ifc 95 (.ag [])), (6, .ptr 8 0)], .frame fr140 [(4, .d (di .i64 (0 : Int))), (5, .d (.v (.nilIface)))], .frame fr141 [(0, .ifc 54 (.ptr 4 0)), (1, .sl 8 1 0 4 4), (2, .d (di .i64 (4 : Int))), (6, .d (di .i64 (0 : Int))), (7, .d (.v (.nilIface))), (8, .d (di .i64 (0 : Int)))], .frame fr142 [(0, .ptr 4 0), (1, .sl 8 1 0 4 4)]]) rfl ?_
  refine AO.nil ?_
  change AC _ _ _ _
  refine AC.seq ?_
  refine AC.draw 11 mixed (by kernel_rfl) ?_
  refine AD.op [0] rfl (by kernel_rfl) rfl rfl (fun _ _ h => AOp.move rfl rfl (ltb rfl) rfl h) ?_
  refine AD.op [3] rfl (by kernel_rfl) rfl rfl (fun _ _ h => AOp.nilCheck rfl rfl (ltb rfl) rfl rfl h) ?_
  refine AD.op [4] rfl (by kernel_rfl) rfl rfl (fun _ _ h => AOp.fieldAddr rfl rfl (ltb rfl) rfl fo71_0 h) ?_
  refine AD.op [5] rfl (by kernel_rfl) rfl rfl (fun _ _ h => AOp.load1 rfl rfl (ltb rfl) rfl agg22 rfl rfl h) ?_
  refine AD.op [6] rfl (by kernel_rfl) rfl rfl (fun _ _ h => AOp.lenDs (n := a0.length) (cells := (List.map keS0 a0)) rfl rfl (ltb rfl) rfl el22 (by decide) (len1 _ _) h) ?_
  refine AD.op [0] rfl (by kernel_rfl) rfl rfl (fun _ _ h => AOp.move rfl rfl (ltb rfl) rfl h) ?_
  refine AD.op [8] rfl (by kernel_rfl) rfl rfl (fun _ _ h => AOp.nilCheck rfl rfl (ltb rfl) rfl rfl h) ?_
  refine AD.op [9] rfl (by kernel_rfl) rfl rfl (fun _ _ h => AOp.fieldAddr rfl rfl (ltb rfl) rfl fo71_1 h) ?_
  refine AD.op [10] rfl (by kernel_rfl) rfl rfl (fun _ _ h => AOp.load1 rfl rfl (ltb rfl) rfl agg3 rfl rfl h) ?_
  refine AD.op [7, 11] rfl (by kernel_rfl) rfl rfl (fun _ _ h => AOp.ileq rfl rfl (ltb rfl) rfl rfl h) ?_
  refine AD.op [12] rfl (by kernel_rfl) rfl rfl (fun _ _ h => AOp.assign rfl rfl (ltb rfl) rfl h) ?_
  refine AD.done ?_
  refine AO.nil ?_
  change AC _ _ _ _
  refine AC.ret ?_
  refine inlret (ob' := [.fix 24 [.d (.v (.slice none 0 0))], .fix 3 [.d (di .i64 (0 : Int))], .fix 4 [.d (dbool false)], .dead, .fix 71 [.d (eS0 a0), .d (di .i64 (0 : Int)), .d (di .i8 (0 : Int))], .dead, .frame fr137 [(6, .ptr 0 0), (7, .ptr 1 0), (8, .ptr 2 0), (9, .ptr 4 0)], .frame fr138 [(0, .ifc 54 (.ptr 4 0)), (1, .ifc 95 (.ag [])), (2, .d (di .i64 a2))], .fix 102 (List.map (fun z => SV.d (keS0 z)) [(0 : Int), (0 : Int), (0 : Int), (0 : Int)]), .frame fr139 [(1, .ifc 95 (.ag [])), (6, .ptr 8 0)], .frame fr140 [(4, .d (di .i64 (0 : Int))), (5, .d (.v (.nilIface)))], .frame fr141 [(0, .ifc 54 (.ptr 4 0)), (1, .sl 8 1 0 4 4), (2, .d (di .i64 (4 : Int))), (6, .d (di .i64 (0 : Int))), (7, .d (.v (.nilIface))), (8, .d (di .i64 (0 : Int)))], .dead]) (e' := [(0, .ptr 4 0), (1, .sl 8 1 0 4 4)]) (r := .d (dbool (decide (((a0.length : Nat) : Int) ≤ (0 : Int))))) rfl rfl rfl ?_
  change AO _ _ _ _ _
  refine AO.objs (obs' := [.fix 24 [.d (.v (.slice none 0 0))], .fix 3 [.d (di .i64 (0 : Int))], .fix 4 [.d (dbool false)], .dead, .fix 71 [.d (eS0 a0), .d (di .i64 (0 : Int)), .d (di .i8 (0 : Int))], .dead, .frame fr137 [(6, .ptr 0 0), (7, .ptr 1 0), (8, .ptr 2 0), (9, .ptr 4 0)], .frame fr138 [(0, .ifc 54 (.ptr 4 0)), (1, .ifc 95 (.ag [])), (2, .d (di .i64 a2))], .fix 102 (List.map (fun z => SV.d (keS0 z)) [(0 : Int), (0 : Int), (0 : Int), (0 : Int)]), .frame fr139 [(1, .ifc 95 (.ag [])), (6, .ptr 8 0)], .frame fr140 [(4, .d (di .i64 (0 : Int))), (5, .d (.v (.nilIface)))], .frame fr141 [(0, .ifc 54 (.ptr 4 0)), (1, .sl 8 1 0 4 4), (2, .d (di .i64 (4 : Int))), (6, .d (di .i64 (0 : Int))), (7, .d (.v (.nilIface))), (8, .d (di .i64 (0 : Int)))], .dead]) rfl ?_
  refine AO.nil ?_
  change AC _ _ _ _
  refine AC.cond rfl (fun q143 => ?_) (fun q143 => ?_)
  · replace h0 := cT h0 q143
    refine AC.seq ?_
    refine AC.region ?_
    refine AO.op rfl (AOp.move rfl rfl (ltb rfl) rfl ?_)
    refine AO.op rfl (AOp.inl [1] (by kernel_rfl) Tryd.func72 rfl Tryd.ntmps72 rfl rfl (ltb rfl) rfl (leb rfl) rfl ?_)
    intro fr144
    refine AC.seq ?_
    refine AC.region ?_
    refine AO.op rfl (AOp.move rfl rfl (ltb rfl) rfl ?_)
    refine AO.op rfl (AOp.move rfl rfl (ltb rfl) rfl ?_)
    refine AO.op rfl (AOp.nilCheck rfl rfl (ltb rfl) rfl rfl ?_)
    refine AO.op rfl (AOp.fieldAddr rfl rfl (ltb rfl) rfl fo71_0 ?_)
    refine AO.op rfl (AOp.load1 rfl rfl (ltb rfl) rfl agg22 rfl rfl ?_)
    obtain ⟨q145, h0⟩ := need_elim h0
    refine AO.op rfl (AOp.sliceD (cells := (List.map keS0 a0)) (n := a0.length) (l := 0) (hh := ((0 : Int)).toNat) rfl rfl (ltb rfl) rfl (.inl ⟨rfl, rfl⟩) (.inr ⟨_, _, _, rfl, rfl, q145.1.2, rfl⟩) el22 (by decide) (len1 _ _) q145.2.1 q145.2.2 (sub1 _ _ _ _) ?_)
    refine AO.op rfl (AOp.nilCheck rfl rfl (ltb rfl) rfl rfl ?_)
    refine AO.op rfl (AOp.fieldAddr rfl rfl (ltb rfl) rfl fo71_0 ?_)
    refine AO.op rfl (AOp.store rfl rfl rfl rfl size22 rfl rfl rfl (leb rfl) ?_)
    refine AO.objs (obs' := [.fix 24 [.d (.v (.slice none 0 0))], .fix 3 [.d (di .i64 (0 : Int))], .fix 4 [.d (dbool false)], .dead, .fix 71 [.d (eS0 ((a0.drop 0).take (((0 : Int)).toNat - 0))), .d (di .i64 (0 : Int)), .d (di .i8 (0 : Int))], .dead, .frame fr137 [(6, .ptr 0 0), (7, .ptr 1 0), (8, .ptr 2 0), (9, .ptr 4 0)], .frame fr138 [(0, .ifc 54 (.ptr 4 0)), (1, .ifc 95 (.ag [])), (2, .d (di .i64 a2))], .fix 102 (List.map (fun z => SV.d (keS0 z)) [(0 : Int), (0 : Int), (0 : Int), (0 : Int)]), .frame fr139 [(1, .ifc 95 (.ag [])), (6, .ptr 8 0)], .frame fr140 [(4, .d (di .i64 (0 : Int))), (5, .d (.v (.nilIface)))], .frame fr141 [(0, .ifc 54 (.ptr 4 0)), (1, .sl 8 1 0 4 4), (2, .d (di .i64 (4 : Int))), (6, .d (di .i64 (0 : Int))), (7, .d (.v (.nilIface))), (8, .d (di .i64 (0 : Int)))], .dead, .frame fr144 [(1, .sl 8 1 0 4 4)]]) rfl ?_
    refine AO.nil ?_
    change AC _ _ _ _
    refine AC.seq ?_
    refine AC.region ?_
    refine AO.op rfl (AOp.move rfl rfl (ltb rfl) rfl ?_)
    refine AO.op rfl (AOp.nilCheck rfl rfl (ltb rfl) rfl rfl ?_)
    refine AO.op rfl (AOp.fieldAddr rfl rfl (ltb rfl) rfl fo71_1 ?_)
    refine AO.op rfl (AOp.store rfl rfl rfl rfl size3 rfl rfl rfl (leb rfl) ?_)
    refine AO.nil ?_
    change AC _ _ _ _
    refine AC.region ?_
    refine AO.op rfl (AOp.move rfl rfl (ltb rfl) rfl ?_)
    refine AO.op rfl (AOp.nilCheck rfl rfl (ltb rfl) rfl rfl ?_)
    refine AO.op rfl (AOp.fieldAddr rfl rfl (ltb rfl) rfl fo71_2 ?_)
    refine AO.op rfl (AOp.store rfl rfl rfl rfl size69 rfl rfl rfl (leb rfl) ?_)
    refine AO.nil ?_
    refine inlend (ob' := [.fix 24 [.d (.v (.slice none 0 0))], .fix 3 [.d (di .i64 (0 : Int))], .fix 4 [.d (dbool false)], .dead, .fix 71 [.d (eS0 ((a0.drop 0).take (((0 : Int)).toNat - 0))), .d (di .i64 (0 : Int)), .d (di .i8 (0 : Int))], .dead, .frame fr137 [(6, .ptr 0 0), (7, .ptr 1 0), (8, .ptr 2 0), (9, .ptr 4 0)], .frame fr138 [(0, .ifc 54 (.ptr 4 0)), (1, .ifc 95 (.ag [])), (2, .d (di .i64 a2))], .fix 102 (List.map (fun z => SV.d (keS0 z)) [(0 : Int), (0 : Int), (0 : Int), (0 : Int)]), .frame fr139 [(1, .ifc 95 (.ag [])), (6, .ptr 8 0)], .frame fr140 [(4, .d (di .i64 (0 : Int))), (5, .d (.v (.nilIface)))], .frame fr141 [(0, .ifc 54 (.ptr 4 0)), (1, .sl 8 1 0 4 4), (2, .d (di .i64 (4 : Int))), (6, .d (di .i64 (0 : Int))), (7, .d (.v (.nilIface))), (8, .d (di .i64 (0 : Int)))], .dead, .dead]) (e' := [(1, .sl 8 1 0 4 4)]) (r := .tu []) rfl rfl rfl ?_
    change AO _ _ _ _ _
    refine AO.objs (obs' := [.fix 24 [.d (.v (.slice none 0 0))], .fix 3 [.d (di .i64 (0 : Int))], .fix 4 [.d (dbool false)], .dead, .fix 71 [.d (eS0 ((a0.drop 0).take (((0 : Int)).toNat - 0))), .d (di .i64 (0 : Int)), .d (di .i8 (0 : Int))], .dead, .frame fr137 [(6, .ptr 0 0), (7, .ptr 1 0), (8, .ptr 2 0), (9, .ptr 4 0)], .frame fr138 [(0, .ifc 54 (.ptr 4 0)), (1, .ifc 95 (.ag [])), (2, .d (di .i64 a2))], .fix 102 (List.map (fun z => SV.d (keS0 z)) [(0 : Int), (0 : Int), (0 : Int), (0 : Int)]), .frame fr139 [(1, .ifc 95 (.ag [])), (6, .ptr 8 0)], .frame fr140 [(4, .d (di .i64 (0 : Int))), (5, .d (.v (.nilIface)))], .frame fr141 [(0, .ifc 54 (.ptr 4 0)), (1, .sl 8 1 0 4 4), (2, .d (di .i64 (4 : Int))), (6, .d (di .i64 (0 : Int))), (7, .d (.v (.nilIface))), (8, .d (di .i64 (0 : Int)))], .dead, .dead]) rfl ?_
    refine AO.nil ?_
    change AC _ _ _ _
    refine AC.seq ?_
    refine AC.seq ?_
    refine AC.region ?_
    refine AO.op rfl (AOp.move rfl rfl (ltb rfl) rfl ?_)
    refine AO.op rfl (AOp.lenSl rfl rfl (ltb rfl) rfl el22 ?_)
    refine AO.op rfl (AOp.ieql rfl rfl (ltb rfl) rfl rfl ?_)
    refine AO.nil ?_
    change AC _ _ _ _
    refine AC.condF rfl rfl ?_
    refine AC.skip ?_
    change AC _ _ _ _
    refine AC.seq ?_
    refine AC.draw 3 mixed (by kernel_rfl) ?_
    refine AD.op [] rfl (by kernel_rfl) rfl rfl (fun _ _ h => AOp.loadEV rfl rfl (ltb rfl) rfl agg57 (by simp [GlobsP]) h) ?_
    refine AD.op [] rfl (by kernel_rfl) rfl rfl (fun _ _ h => AOp.assign rfl rfl (ltb rfl) rfl h) ?_
    refine AD.op [16] rfl (by kernel_rfl) rfl rfl (fun _ _ h => AOp.assign rfl rfl (ltb rfl) rfl h) ?_
    refine AD.done ?_
    refine AO.nil ?_
    change AC _ _ _ _
    refine AC.ret ?_
    refine inlret (ob' := [.fix 24 [.d (.v (.slice none 0 0))], .fix 3 [.d (di .i64 (0 : Int))], .fix 4 [.d (dbool false)], .dead, .fix 71 [.d (eS0 ((a0.drop 0).take (((0 : Int)).toNat - 0))), .d (di .i64 (0 : Int)), .d (di .i8 (0 : Int))], .dead, .frame fr137 [(6, .ptr 0 0), (7, .ptr 1 0), (8, .ptr 2 0), (9, .ptr 4 0)], .frame fr138 [(0, .ifc 54 (.ptr 4 0)), (1, .ifc 95 (.ag [])), (2, .d (di .i64 a2))], .fix 102 (List.map (fun z => SV.d (keS0 z)) [(0 : Int), (0 : Int), (0 : Int), (0 : Int)]), .frame fr139 [(1, .ifc 95 (.ag [])), (6, .ptr 8 0)], .frame fr140 [(4, .d (di .i64 (0 : Int))), (5, .d (.v (.nilIface)))], .dead, .dead, .dead]) (e' := [(0, .ifc 54 (.ptr 4 0)), (1, .sl 8 1 0 4 4), (2, .d (di .i64 (4 : Int))), (6, .d (di .i64 (0 : Int))), (7, .d (.v (.nilIface))), (8, .d (di .i64 (0 : Int)))]) (r := .tu [.d (di .i64 (0 : Int)), .d (.v (errV W 5))]) rfl rfl rfl ?_
    change AO _ _ _ _ _
    refine AO.objs (obs' := [.fix 24 [.d (.v (.slice none 0 0))], .fix 3 [.d (di .i64 (0 : Int))], .fix 4 [.d (dbool false)], .dead, .fix 71 [.d (eS0 ((a0.drop 0).take (((0 : Int)).toNat - 0))), .d (di .i64 (0 : Int)), .d (di .i8 (0 : Int))], .dead, .frame fr137 [(6, .ptr 0 0), (7, .ptr 1 0), (8, .ptr 2 0), (9, .ptr 4 0)], .frame fr138 [(0, .ifc 54 (.ptr 4 0)), (1, .ifc 95 (.ag [])), (2, .d (di .i64 a2))], .fix 102 (List.map (fun z => SV.d (keS0 z)) [(0 : Int), (0 : Int), (0 : Int), (0 : Int)]), .frame fr139 [(1, .ifc 95 (.ag [])), (6, .ptr 8 0)], .frame fr140 [(4, .d (di .i64 (0 : Int))), (5, .d (.v (.nilIface)))], .dead, .dead, .dead]) rfl ?_
    refine AO.nil ?_
    change AD _ _ _ _ _
    refine AD.op [29] rfl (by kernel_rfl) rfl rfl (fun _ _ h => AOp.move rfl rfl (ltb rfl) rfl h) ?_
    first | refine AD.op [21] rfl (by kernel_rfl) rfl rfl (fun _ _ h => AOp.extractD rfl rfl (ltb rfl) rfl rfl h) ?_ | refine AD.op [21] rfl (by kernel_rfl) rfl rfl (fun _ _ h => AOp.extract rfl rfl (ltb rfl) rfl rfl h) ?_
    first | refine AD.op [21] rfl (by kernel_rfl) rfl rfl (fun _ _ h => AOp.extractD rfl rfl (ltb rfl) rfl rfl h) ?_ | refine AD.op [21] rfl (by kernel_rfl) rfl rfl (fun _ _ h => AOp.extract rfl rfl (ltb rfl) rfl rfl h) ?_
    refine AD.op [30] rfl (by kernel_rfl) rfl rfl (fun _ _ h => AOp.assign rfl rfl (ltb rfl) rfl h) ?_
    refine AD.op [31] rfl (by kernel_rfl) rfl rfl (fun _ _ h => AOp.assign rfl rfl (ltb rfl) rfl h) ?_
    refine AD.done ?_
    refine AO.nil ?_
    change AC _ _ _ _
    refine AC.region ?_
    refine AO.op rfl (AOp.move rfl rfl (ltb rfl) rfl ?_)
    refine AO.op rfl (AOp.move rfl rfl (ltb rfl) rfl ?_)
    refine AO.op rfl (AOp.iadd rfl rfl (ltb rfl) rfl rfl (show (0 : Int) + (0 : Int) = (0 : Int) by decide) (by decide) (by decide) ?_)
    refine AO.op rfl (AOp.assign rfl rfl (ltb rfl) rfl ?_)
    refine AO.nil ?_
    change ACL _ _ _ _
    refine ACL.round ?_
    refine AC.seq ?_
    refine AC.seq ?_
    refine AC.region ?_
    refine AO.op rfl (AOp.move rfl rfl (ltb rfl) rfl ?_)
    refine AO.op rfl (AOp.move rfl rfl (ltb rfl) rfl ?_)
    refine AO.op rfl (AOp.ilss rfl rfl (ltb rfl) rfl rfl ?_)
    refine AO.op rfl (AOp.move rfl rfl (ltb rfl) rfl ?_)
    refine AO.guardY rfl rfl rfl rfl (AOp.move rfl rfl (ltb rfl) rfl ?_)
    refine AO.guardY rfl rfl rfl rfl (AOp.errEql rfl rfl (ltb rfl) rfl (by simp [GlobsP]) imeth57 ?_)
    refine AO.op rfl (AOp.pick rfl rfl (ltb rfl) rfl rfl rfl ?_)
    refine AO.nil ?_
    change AC _ _ _ _
    refine AC.condF rfl rfl ?_
    refine AC.exit ?_
    change AC _ _ _ _
    refine AC.seq ?_
    refine AC.seq ?_
    refine AC.region ?_
    refine AO.op rfl (AOp.move rfl rfl (ltb rfl) rfl ?_)
    refine AO.op rfl (AOp.move rfl rfl (ltb rfl) rfl ?_)
    refine AO.op rfl (AOp.igeq rfl rfl (ltb rfl) rfl rfl ?_)
    refine AO.nil ?_
    change AC _ _ _ _
    refine AC.condF rfl rfl ?_
    refine AC.seq ?_
    refine AC.region ?_
    refine AO.op rfl (AOp.move rfl rfl (ltb rfl) rfl ?_)
    refine AO.op rfl (AOp.igtr rfl rfl (ltb rfl) rfl rfl ?_)
    refine AO.op rfl (AOp.move rfl rfl (ltb rfl) rfl ?_)
    refine AO.guardN rfl rfl rfl (ltb rfl) rfl rfl ?_
    refine AO.guardN rfl rfl rfl (ltb rfl) rfl rfl ?_
    refine AO.guardN rfl rfl rfl (ltb rfl) rfl rfl ?_
    refine AO.op rfl (AOp.pickN rfl rfl (ltb rfl) rfl rfl rfl ?_)
    refine AO.nil ?_
    change AC _ _ _ _
    refine AC.condF rfl rfl ?_
    refine AC.skip ?_
    change AC _ _ _ _
    refine AC.ret ?_
    refine inlret (ob' := [.fix 24 [.d (.v (.slice none 0 0))], .fix 3 [.d (di .i64 (0 : Int))], .fix 4 [.d (dbool false)], .dead, .fix 71 [.d (eS0 ((a0.drop 0).take (((0 : Int)).toNat - 0))), .d (di .i64 (0 : Int)), .d (di .i8 (0 : Int))], .dead, .frame fr137 [(6, .ptr 0 0), (7, .ptr 1 0), (8, .ptr 2 0), (9, .ptr 4 0)], .frame fr138 [(0, .ifc 54 (.ptr 4 0)), (1, .ifc 95 (.ag [])), (2, .d (di .i64 a2))], .fix 102 (List.map (fun z => SV.d (keS0 z)) [(0 : Int), (0 : Int), (0 : Int), (0 : Int)]), .frame fr139 [(1, .ifc 95 (.ag [])), (6, .ptr 8 0)], .dead, .dead, .dead, .dead]) (e' := [(4, .d (di .i64 (0 : Int))), (5, .d (.v (.nilIface)))]) (r := .tu [.d (di .i64 (0 : Int)), .d (.v (errV W 5))]) rfl rfl rfl ?_
    change AO _ _ _ _ _
    first | refine AO.op rfl (AOp.extractD rfl rfl (ltb rfl) rfl rfl ?_) | refine AO.op rfl (AOp.extract rfl rfl (ltb rfl) rfl rfl ?_)
    first | refine AO.op rfl (AOp.extractD rfl rfl (ltb rfl) rfl rfl ?_) | refine AO.op rfl (AOp.extract rfl rfl (ltb rfl) rfl rfl ?_)
    refine AO.op rfl (AOp.assign rfl rfl (ltb rfl) rfl ?_)
    refine AO.op rfl (AOp.assign rfl rfl (ltb rfl) rfl ?_)
    refine AO.objs (obs' := [.fix 24 [.d (.v (.slice none 0 0))], .fix 3 [.d (di .i64 (0 : Int))], .fix 4 [.d (dbool false)], .dead, .fix 71 [.d (eS0 ((a0.drop 0).take (((0 : Int)).toNat - 0))), .d (di .i64 (0 : Int)), .d (di .i8 (0 : Int))], .dead, .frame fr137 [(6, .ptr 0 0), (7, .ptr 1 0), (8, .ptr 2 0), (9, .ptr 4 0)], .frame fr138 [(0, .ifc 54 (.ptr 4 0)), (1, .ifc 95 (.ag [])), (2, .d (di .i64 a2))], .fix 102 (List.map (fun z => SV.d (keS0 z)) [(0 : Int), (0 : Int), (0 : Int), (0 : Int)]), .frame fr139 [(1, .ifc 95 (.ag [])), (6, .ptr 8 0)], .dead, .dead, .dead, .dead]) rfl ?_
    refine AO.nil ?_
    change AC _ _ _ _
    refine AC.ret ?_
    refine inlret (ob' := [.fix 24 [.d (.v (.slice none 0 0))], .fix 3 [.d (di .i64 (0 : Int))], .fix 4 [.d (dbool false)], .dead, .fix 71 [.d (eS0 ((a0.drop 0).take (((0 : Int)).toNat - 0))), .d (di .i64 (0 : Int)), .d (di .i8 (0 : Int))], .dead, .frame fr137 [(6, .ptr 0 0), (7, .ptr 1 0), (8, .ptr 2 0), (9, .ptr 4 0)], .frame fr138 [(0, .ifc 54 (.ptr 4 0)), (1, .ifc 95 (.ag [])), (2, .d (di .i64 a2))], .fix 102 (List.map (fun z => SV.d (keS0 z)) [(0 : Int), (0 : Int), (0 : Int), (0 : Int)]), .dead, .dead, .dead, .dead, .dead]) (e' := [(1, .ifc 95 (.ag [])), (6, .ptr 8 0)]) (r := .tu [.d (di .i64 (0 : Int)), .d (.v (errV W 5))]) rfl rfl rfl ?_
    change AO _ _ _ _ _
    refine AO.op rfl (AOp.move rfl rfl (ltb rfl) rfl ?_)
    first | refine AO.op rfl (AOp.extractD rfl rfl (ltb rfl) rfl rfl ?_) | refine AO.op rfl (AOp.extract rfl rfl (ltb rfl) rfl rfl ?_)
    first | refine AO.op rfl (AOp.extractD rfl rfl (ltb rfl) rfl rfl ?_) | refine AO.op rfl (AOp.extract rfl rfl (ltb rfl) rfl rfl ?_)
    refine AO.op rfl (AOp.assign rfl rfl (ltb rfl) rfl ?_)
    refine AO.op rfl (AOp.assign rfl rfl (ltb rfl) rfl ?_)
    refine AO.objs (obs' := [.fix 24 [.d (.v (.slice none 0 0))], .fix 3 [.d (di .i64 (0 : Int))], .fix 4 [.d (dbool false)], .dead, .fix 71 [.d (eS0 ((a0.drop 0).take (((0 : Int)).toNat - 0))), .d (di .i64 (0 : Int)), .d (di .i8 (0 : Int))], .dead, .frame fr137 [(6, .ptr 0 0), (7, .ptr 1 0), (8, .ptr 2 0), (9, .ptr 4 0)], .frame fr138 [(0, .ifc 54 (.ptr 4 0)), (1, .ifc 95 (.ag [])), (2, .d (di .i64 a2))], .fix 102 (List.map (fun z => SV.d (keS0 z)) [(0 : Int), (0 : Int), (0 : Int), (0 : Int)]), .dead, .dead, .dead, .dead, .dead]) rfl ?_
    refine AO.nil ?_
    change AC _ _ _ _
    refine AC.seq ?_
    refine AC.region ?_
    refine AO.op rfl (AOp.move rfl rfl (ltb rfl) rfl ?_)
    refine AO.op rfl (AOp.errNeq rfl rfl (ltb rfl) rfl (by simp [GlobsP]) imeth57 ?_)
    refine AO.nil ?_
    change AC _ _ _ _
    refine AC.condT rfl rfl ?_
    refine AC.seq ?_
    refine AC.region ?_
    refine AO.op rfl (AOp.move rfl rfl (ltb rfl) rfl ?_)
    refine AO.op rfl (AOp.assign rfl rfl (ltb rfl) rfl ?_)
    refine AO.op rfl (AOp.assign rfl rfl (ltb rfl) rfl ?_)
    refine AO.nil ?_
    change AC _ _ _ _
    refine AC.ret ?_
    refine inlret (ob' := [.fix 24 [.d (.v (.slice none 0 0))], .fix 3 [.d (di .i64 (0 : Int))], .fix 4 [.d (dbool false)], .dead, .fix 71 [.d (eS0 ((a0.drop 0).take (((0 : Int)).toNat - 0))), .d (di .i64 (0 : Int)), .d (di .i8 (0 : Int))], .dead, .frame fr137 [(6, .ptr 0 0), (7, .ptr 1 0), (8, .ptr 2 0), (9, .ptr 4 0)], .dead, .fix 102 (List.map (fun z => SV.d (keS0 z)) [(0 : Int), (0 : Int), (0 : Int), (0 : Int)]), .dead, .dead, .dead, .dead, .dead]) (e' := [(0, .ifc 54 (.ptr 4 0)), (1, .ifc 95 (.ag [])), (2, .d (di .i64 a2))]) (r := .tu [.d (di .u32 (0 : Int)), .d (.v (errV W 5))]) rfl rfl rfl ?_
    change AO _ _ _ _ _
    refine AO.op rfl (AOp.move rfl rfl (ltb rfl) rfl ?_)
    first | refine AO.op rfl (AOp.extractD rfl rfl (ltb rfl) rfl rfl ?_) | refine AO.op rfl (AOp.extract rfl rfl (ltb rfl) rfl rfl ?_)
    first | refine AO.op rfl (AOp.extractD rfl rfl (ltb rfl) rfl rfl ?_) | refine AO.op rfl (AOp.extract rfl rfl (ltb rfl) rfl rfl ?_)
    refine AO.op rfl (AOp.assign rfl rfl (ltb rfl) rfl ?_)
    refine AO.op rfl (AOp.assign rfl rfl (ltb rfl) rfl ?_)
    refine AO.objs (obs' := [.fix 24 [.d (.v (.slice none 0 0))], .fix 3 [.d (di .i64 (0 : Int))], .fix 4 [.d (dbool false)], .dead, .fix 71 [.d (eS0 ((a0.drop 0).take (((0 : Int)).toNat - 0))), .d (di .i64 (0 : Int)), .d (di .i8 (0 : Int))], .dead, .frame fr137 [(6, .ptr 0 0), (7, .ptr 1 0), (8, .ptr 2 0), (9, .ptr 4 0)], .dead, .fix 102 (List.map (fun z => SV.d (keS0 z)) [(0 : Int), (0 : Int), (0 : Int), (0 : Int)]), .dead, .dead, .dead, .dead, .dead]) rfl ?_
    refine AO.nil ?_
    change AC _ _ _ _
    refine AC.seq ?_
    refine AC.seq ?_
    refine AC.region ?_
    refine AO.op rfl (AOp.move rfl rfl (ltb rfl) rfl ?_)
    refine AO.op rfl (AOp.errNeq rfl rfl (ltb rfl) rfl (by simp [GlobsP]) imeth57 ?_)
    refine AO.nil ?_
    change AC _ _ _ _
    refine AC.condT rfl rfl ?_
    refine AC.seq ?_
    refine AC.region ?_
    refine AO.op rfl (AOp.move rfl rfl (ltb rfl) rfl ?_)
    refine AO.op rfl (AOp.assign rfl rfl (ltb rfl) rfl ?_)
    refine AO.op rfl (AOp.assign rfl rfl (ltb rfl) rfl ?_)
    refine AO.nil ?_
    change AC _ _ _ _
    refine AC.ret ?_
    refine inlret (ob' := [.fix 24 [.d (.v (.slice none 0 0))], .fix 3 [.d (di .i64 (0 : Int))], .fix 4 [.d (dbool false)], .dead, .fix 71 [.d (eS0 ((a0.drop 0).take (((0 : Int)).toNat - 0))), .d (di .i64 (0 : Int)), .d (di .i8 (0 : Int))], .dead, .dead, .dead, .fix 102 (List.map (fun z => SV.d (keS0 z)) [(0 : Int), (0 : Int), (0 : Int), (0 : Int)]), .dead, .dead, .dead, .dead, .dead]) (e' := [(6, .ptr 0 0), (7, .ptr 1 0), (8, .ptr 2 0), (9, .ptr 4 0)]) (r := .tu [.d (.v (.slice none 0 0)), .d (.v (errV W 5))]) rfl rfl rfl ?_
    change AO _ _ _ _ _
    refine AO.op rfl (AOp.move rfl rfl (ltb rfl) rfl ?_)
    first | refine AO.op rfl (AOp.extractD rfl rfl (ltb rfl) rfl rfl ?_) | refine AO.op rfl (AOp.extract rfl rfl (ltb rfl) rfl rfl ?_)
    first | refine AO.op rfl (AOp.extractD rfl rfl (ltb rfl) rfl rfl ?_) | refine AO.op rfl (AOp.extract rfl rfl (ltb rfl) rfl rfl ?_)
    refine AO.op rfl (AOp.store rfl rfl rfl rfl size24 rfl rfl rfl (leb rfl) ?_)
    refine AO.op rfl (AOp.assign rfl rfl (ltb rfl) rfl ?_)
    refine AO.objs (obs' := [.fix 24 [.d (.v (.slice none 0 0))], .fix 3 [.d (di .i64 (0 : Int))], .fix 4 [.d (dbool false)], .dead, .fix 71 [.d (eS0 ((a0.drop 0).take (((0 : Int)).toNat - 0))), .d (di .i64 (0 : Int)), .d (di .i8 (0 : Int))], .dead, .dead, .dead, .fix 102 (List.map (fun z => SV.d (keS0 z)) [(0 : Int), (0 : Int), (0 : Int), (0 : Int)]), .dead, .dead, .dead, .dead, .dead]) rfl ?_
    refine AO.nil ?_
    change AC _ _ _ _
    refine AC.seq ?_
    refine AC.freezeP (ds := c_TBytes_Buffer (TBytes_Buffer.mk ((a0.drop 0).take (((0 : Int)).toNat - 0)) (0 : Int) (0 : Int))) 9 4 rfl rfl rfl rfl (Nat.zero_le _) ?_
    obtain ⟨y146, q147, h0⟩ := bind_elim h0
    refine AC.drawS [0, 1, 2, 3, 4, 5, 6] [5, 6] [7] (fun L => [.fix 24 [.d (.v (.slice none 0 0))], .fix 3 [(bif L 6 then .d (di .i64 y146) else .d (di .i64 (0 : Int)))], .fix 4 [.d (dbool false)], .dead, .dead, .dead, .dead, .dead, .fix 102 (List.map (fun z => SV.d (keS0 z)) [(0 : Int), (0 : Int), (0 : Int), (0 : Int)]), .dead, .dead, .dead, .dead, .dead]) [(5, (fun _ => true)), (6, (fun _ => true))] mixed (by kernel_rfl) (fun L L' h => by simp only [h 5 (by decide), h 6 (by decide)]) rfl ?_
    refine AS.op [6] [] [5, 6] [] rfl rfl rfl (by kernel_rfl) (by kernel_rfl) rfl rfl (fun _ _ _ h => AOp.load1 rfl rfl (ltb rfl) rfl agg24 rfl rfl h) (by kernel_rfl) ?_
    refine AS.op [9] [] [5, 6] [] rfl rfl rfl (by kernel_rfl) (by kernel_rfl) rfl rfl (fun _ _ _ h => AOp.move rfl rfl (ltb rfl) rfl h) (by kernel_rfl) ?_
    refine AS.op [24] [] [5, 6] [] rfl rfl rfl (by kernel_rfl) (by kernel_rfl) rfl rfl (fun _ _ _ h => AOp.callD rfl rfl (ltb rfl) rfl rfl (w_Buffer_Len (TBytes_Buffer.mk ((a0.drop 0).take (((0 : Int)).toNat - 0)) (0 : Int) (0 : Int)) y146 q147) (by rintro _ rfl; exact h)) (by kernel_rfl) ?_
    refine AS.op [10] [] [] [5, 6] rfl rfl rfl (by kernel_rfl) (by kernel_rfl) rfl rfl (fun _ _ _ h => AOp.move rfl rfl (ltb rfl) rfl h) (by kernel_rfl) ?_
    refine AS.op [26] [] [] [5, 6] rfl rfl rfl (by kernel_rfl) (by kernel_rfl) rfl rfl (fun _ _ _ h => AOp.errEql rfl rfl (ltb rfl) rfl (by simp [GlobsP]) imeth57 h) (by kernel_rfl) ?_
    refine AS.mid0 [6, 23] [] [6, 5] [] rfl rfl rfl rfl (by kernel_rfl) (by kernel_rfl) rfl rfl (fun _ _ _ h => AOp.store rfl rfl rfl rfl size24 rfl rfl rfl (leb rfl) (AO.dropT h)) (by kernel_rfl) rfl ?_
    refine AS.mid0 [7, 25] [5] [6] [] rfl rfl rfl rfl (by kernel_rfl) (by kernel_rfl) rfl rfl (fun _ _ _ h => AOp.store rfl rfl rfl rfl size3 rfl rfl rfl (leb rfl) (AO.dropT h)) (by kernel_rfl) rfl ?_
    refine AS.done ?_
    refine AO.objs (obs' := [.fix 24 [.d (.v (.slice none 0 0))], .fix 3 [.d (di .i64 y146)], .fix 4 [.d (dbool false)], .dead, .dead, .dead, .dead, .dead, .fix 102 (List.map (fun z => SV.d (keS0 z)) [(0 : Int), (0 : Int), (0 : Int), (0 : Int)]), .dead, .dead, .dead, .dead, .dead]) rfl ?_
    refine AO.op rfl (AOp.store rfl rfl rfl rfl size4 rfl rfl rfl (leb rfl) ?_)
    refine AO.nil ?_
    change AC _ _ _ _
    refine AC.subO 0 rfl (.cons (SVLe.nil 1) .nil) ?_
    refine AC.ret ?_
    change RetQ _ _ _ .ret _
    obtain rfl := Option.some.inj h0
    refine retq rfl rfl
  exact absurd (hp1.symm.trans q143) (by decide)

set_option maxRecDepth 100000 in
set_option maxHeartbeats 4000000 in
/-- pub-orthodrome/impl.ReadFlat1 -/
theorem w_ReadFlat1_c2 (F : Nat) (a0 : (List Int)) (a1 : Bool) (a2 : Int) (r0 : ((List Nat) × Int × Bool)) (h0 : p_ReadFlat1 F a0 a1 a2 = some r0) (hp0 : a1 = false) (hp1 : (decide (((a0.length : Nat) : Int) ≤ (0 : Int))) = false) : FnD Tryd.prog 7 [eS0 a0, dbool a1, di .i64 a2] (fun r => r = .tu [eS1 r0.1, di .i64 r0.2.1, dbool r0.2.2]) := by
  refine FnD.wrap (g := 19) (m := 3) (fun vs w h => idle19 vs w h) (by kernel_rfl) Tryd.func7 rfl Tryd.ntmps7 rfl (leb rfl) fun W ok => ?_
  unfold p_ReadFlat1 at h0
  refine AW.seq ?_
  refine AC.region ?_
  refine AO.op rfl (AOp.alloc rfl rfl (ltb rfl) zero24 rfl ?_)
  refine AO.op rfl (AOp.alloc rfl rfl (ltb rfl) zero3 rfl ?_)
  refine AO.op rfl (AOp.alloc rfl rfl (ltb rfl) zero4 rfl ?_)
  refine AO.nil ?_
  refine ⟨rfl, ?_⟩
  refine AW.defer (caps := [.tmp 6, .tmp 7, .tmp 8]) rfl rfl rfl (ltb rfl) rfl rfl rfl rfl (by kernel_rfl) rfl fun df => ?_
  refine AC.seq ?_
  refine AC.region ?_
  refine AO.op rfl (AOp.move rfl rfl (ltb rfl) rfl ?_)
  refine AO.op rfl (AOp.inl [1, 2, 6, 7, 8] (by kernel_rfl) Tryd.func20 rfl Tryd.ntmps20 rfl rfl (ltb rfl) rfl (leb rfl) rfl ?_)
  intro fr1
  refine AC.seq ?_
  refine AC.region ?_
  refine AO.op rfl (AOp.assign rfl rfl (ltb rfl) rfl ?_)
  refine AO.nil ?_
  change AC _ _ _ _
  refine AC.seq ?_
  refine AC.region ?_
  refine AO.op rfl (AOp.move rfl rfl (ltb rfl) rfl ?_)
  refine AO.op rfl (AOp.build rfl rfl (ltb rfl) zero71 rfl places71 rfl rfl ?_)
  refine AO.op rfl (AOp.box rfl rfl (ltb rfl) rfl rfl ?_)
  refine AO.op rfl (AOp.assign rfl rfl (ltb rfl) rfl ?_)
  refine AO.nil ?_
  change AC _ _ _ _
  refine AC.ret ?_
  refine inlret (ob' := [.fix 24 [.d (.v (.slice none 0 0))], .fix 3 [.d (di .i64 (0 : Int))], .fix 4 [.d (dbool false)], .dead, .fix 71 [.d (eS0 a0), .d (di .i64 (0 : Int)), .d (di .i8 (0 : Int))]]) (e' := [(1, .d (dbool a1)), (2, .d (di .i64 a2)), (6, .ptr 0 0), (7, .ptr 1 0), (8, .ptr 2 0)]) (r := .ptr 4 0) rfl rfl rfl ?_
  change AO _ _ _ _ _
  refine AO.op rfl (AOp.assign rfl rfl (ltb rfl) rfl ?_)
  refine AO.nil ?_
  change AC _ _ _ _
  refine AC.seq ?_
  refine AC.region ?_
  refine AO.op rfl (AOp.move rfl rfl (ltb rfl) rfl ?_)
  refine AO.op rfl (AOp.makeIfc rfl rfl (ltb rfl) rfl conc54 ?_)
  refine AO.op rfl (AOp.move rfl rfl (ltb rfl) rfl ?_)
  refine AO.op rfl (AOp.inl [2, 6, 7, 8, 9, 16] (by kernel_rfl) Tryd.func22 rfl Tryd.ntmps22 rfl rfl (ltb rfl) rfl (leb rfl) rfl ?_)
  intro fr2
  refine AC.seq ?_
  refine AC.region ?_
  refine AO.op rfl (AOp.assign rfl rfl (ltb rfl) rfl ?_)
  refine AO.objs (obs' := [.fix 24 [.d (.v (.slice none 0 0))], .fix 3 [.d (di .i64 (0 : Int))], .fix 4 [.d (dbool false)], .dead, .fix 71 [.d (eS0 a0), .d (di .i64 (0 : Int)), .d (di .i8 (0 : Int))], .frame fr2 [(2, .d (di .i64 a2)), (6, .ptr 0 0), (7, .ptr 1 0), (8, .ptr 2 0), (9, .ptr 4 0), (16, .ifc 54 (.ptr 4 0))]]) rfl ?_
  refine AO.nil ?_
  change AC _ _ _ _
  refine AC.seq ?_
  refine AC.seq ?_
  refine AC.region ?_
  refine AO.op rfl (AOp.move rfl rfl (ltb rfl) rfl ?_)
  refine AO.nil ?_
  change AC _ _ _ _
  refine AC.cond rfl (fun q3 => ?_) (fun q3 => ?_)
  · exact absurd (hp0.symm.trans q3) (by decide)
  replace h0 := cF h0 q3
  refine AC.skip ?_
  change AC _ _ _ _
  refine AC.seq ?_
  refine AC.region ?_
  refine AO.op rfl (AOp.loadG0 rfl rfl (ltb rfl) agg95 size95 ?_)
  refine AO.op rfl (AOp.makeIfc rfl rfl (ltb rfl) rfl conc95 ?_)
  refine AO.op rfl (AOp.assign rfl rfl (ltb rfl) rfl ?_)
  refine AO.nil ?_
  change AC _ _ _ _
  refine AC.ret ?_
  refine inlret (ob' := [.fix 24 [.d (.v (.slice none 0 0))], .fix 3 [.d (di .i64 (0 : Int))], .fix 4 [.d (dbool false)], .dead, .fix 71 [.d (eS0 a0), .d (di .i64 (0 : Int)), .d (di .i8 (0 : Int))], .dead]) (e' := [(2, .d (di .i64 a2)), (6, .ptr 0 0), (7, .ptr 1 0), (8, .ptr 2 0), (9, .ptr 4 0), (16, .ifc 54 (.ptr 4 0))]) (r := .ifc 95 (.ag [])) rfl rfl rfl ?_
  change AO _ _ _ _ _
  refine AO.op rfl (AOp.move rfl rfl (ltb rfl) rfl ?_)
  refine AO.op rfl (AOp.inl [6, 7, 8, 9] (by kernel_rfl) Tryd.func21 rfl Tryd.ntmps21 rfl rfl (ltb rfl) rfl (leb rfl) rfl ?_)
  intro fr137
  refine AC.seq ?_
  refine AC.region ?_
  refine AO.op rfl (AOp.assign rfl rfl (ltb rfl) rfl ?_)
  refine AO.op rfl (AOp.assign rfl rfl (ltb rfl) rfl ?_)
  refine AO.objs (obs' := [.fix 24 [.d (.v (.slice none 0 0))], .fix 3 [.d (di .i64 (0 : Int))], .fix 4 [.d (dbool false)], .dead, .fix 71 [.d (eS0 a0), .d (di .i64 (0 : Int)), .d (di .i8 (0 : Int))], .dead, .frame fr137 [(6, .ptr 0 0), (7, .ptr 1 0), (8, .ptr 2 0), (9, .ptr 4 0)]]) rfl ?_
  refine AO.nil ?_
  change AC _ _ _ _
  refine AC.seq ?_
  refine AC.region ?_
  refine AO.op rfl (AOp.move rfl rfl (ltb rfl) rfl ?_)
  refine AO.op rfl (AOp.move rfl rfl (ltb rfl) rfl ?_)
  refine AO.op rfl (AOp.inl [0, 1, 2] (by kernel_rfl) Tryd.func38 rfl Tryd.ntmps38 rfl rfl (ltb rfl) rfl (leb rfl) rfl ?_)
  intro fr138
  refine AC.seq ?_
  refine AC.region ?_
  refine AO.op rfl (AOp.assign rfl rfl (ltb rfl) rfl ?_)
  refine AO.op rfl (AOp.assign rfl rfl (ltb rfl) rfl ?_)
  refine AO.objs (obs' := [.fix 24 [.d (.v (.slice none 0 0))], .fix 3 [.d (di .i64 (0 : Int))], .fix 4 [.d (dbool false)], .dead, .fix 71 [.d (eS0 a0), .d (di .i64 (0 : Int)), .d (di .i8 (0 : Int))], .dead, .frame fr137 [(6, .ptr 0 0), (7, .ptr 1 0), (8, .ptr 2 0), (9, .ptr 4 0)], .frame fr138 [(0, .ifc 54 (.ptr 4 0)), (1, .ifc 95 (.ag [])), (2, .d (di .i64 a2))]]) rfl ?_
  refine AO.nil ?_
  change AC _ _ _ _
  refine AC.seq ?_
  refine AC.region ?_
  refine AO.op rfl (AOp.alloc rfl rfl (ltb rfl) zero102 rfl ?_)
  refine AO.nil ?_
  change AC _ _ _ _
  refine AC.seq ?_
  refine AC.seq ?_
  refine AC.region ?_
  refine AO.op rfl (AOp.move rfl rfl (ltb rfl) rfl ?_)
  refine AO.op rfl (AOp.sliceArr rfl rfl (ltb rfl) rfl ar102 ⟨_, _, rfl⟩ ?_)
  refine AO.op rfl (AOp.inl [1, 6] (by kernel_rfl) Tryd.func45 rfl Tryd.ntmps45 rfl rfl (ltb rfl) rfl (leb rfl) rfl ?_)
  intro fr139
  refine AC.seq ?_
  refine AC.region ?_
  refine AO.op rfl (AOp.assign rfl rfl (ltb rfl) rfl ?_)
  refine AO.op rfl (AOp.assign rfl rfl (ltb rfl) rfl ?_)
  refine AO.objs (obs' := [.fix 24 [.d (.v (.slice none 0 0))], .fix 3 [.d (di .i64 (0 : Int))], .fix 4 [.d (dbool false)], .dead, .fix 71 [.d (eS0 a0), .d (di .i64 (0 : Int)), .d (di .i8 (0 : Int))], .dead, .frame fr137 [(6, .ptr 0 0), (7, .ptr 1 0), (8, .ptr 2 0), (9, .ptr 4 0)], .frame fr138 [(0, .ifc 54 (.ptr 4 0)), (1, .ifc 95 (.ag [])), (2, .d (di .i64 a2))], .fix 102 (List.map (fun z => SV.d (keS0 z)) [(0 : Int), (0 : Int), (0 : Int), (0 : Int)]), .frame fr139 [(1, .ifc 95 (.ag [])), (6, .ptr 8 0)]]) rfl ?_
  refine AO.nil ?_
  change AC _ _ _ _
  refine AC.seq ?_
  refine AC.region ?_
  refine AO.op rfl (AOp.move rfl rfl (ltb rfl) rfl ?_)
  refine AO.op rfl (AOp.move rfl rfl (ltb rfl) rfl ?_)
  refine AO.op rfl (AOp.move rfl rfl (ltb rfl) rfl ?_)
  refine AO.op rfl (AOp.lenSl rfl rfl (ltb rfl) rfl el22 ?_)
  refine AO.op rfl (AOp.inl [4, 5] (by kernel_rfl) Tryd.func53 rfl Tryd.ntmps53 rfl rfl (ltb rfl) rfl (leb rfl) rfl ?_)
  intro fr140
  refine AC.seq ?_
  refine AC.region ?_
  refine AO.op rfl (AOp.assign rfl rfl (ltb rfl) rfl ?_)
  refine AO.op rfl (AOp.assign rfl rfl (ltb rfl) rfl ?_)
  refine AO.objs (obs' := [.fix 24 [.d (.v (.slice none 0 0))], .fix 3 [.d (di .i64 (0 : Int))], .fix 4 [.d (dbool false)], .dead, .fix 71 [.d (eS0 a0), .d (di .i64 (0 : Int)), .d (di .i8 (0 : Int))], .dead, .frame fr137 [(6, .ptr 0 0), (7, .ptr 1 0), (8, .ptr 2 0), (9, .ptr 4 0)], .frame fr138 [(0, .ifc 54 (.ptr 4 0)), (1, .ifc 95 (.ag [])), (2, .d (di .i64 a2))], .fix 102 (List.map (fun z => SV.d (keS0 z)) [(0 : Int), (0 : Int), (0 : Int), (0 : Int)]), .frame fr139 [(1, .ifc 95 (.ag [])), (6, .ptr 8 0)], .frame fr140 [(4, .d (di .i64 (0 : Int))), (5, .d (.v (.nilIface)))]]) rfl ?_
  refine AO.nil ?_
  change AC _ _ _ _
  refine AC.seq ?_
  refine AC.seq ?_
  refine AC.region ?_
  refine AO.op rfl (AOp.move rfl rfl (ltb rfl) rfl ?_)
  refine AO.op rfl (AOp.lenSl rfl rfl (ltb rfl) rfl el22 ?_)
  refine AO.op rfl (AOp.move rfl rfl (ltb rfl) rfl ?_)
  refine AO.op rfl (AOp.ilss rfl rfl (ltb rfl) rfl rfl ?_)
  refine AO.nil ?_
  change AC _ _ _ _
  refine AC.condF rfl rfl ?_
  refine AC.skip ?_
  change AC _ _ _ _
  refine AC.seq ?_
  refine AC.block ?_
  refine AC.loopU ?_
  refine ACL.round ?_
  refine AC.seq ?_
  refine AC.seq ?_
  refine AC.region ?_
  refine AO.op rfl (AOp.move rfl rfl (ltb rfl) rfl ?_)
  refine AO.op rfl (AOp.move rfl rfl (ltb rfl) rfl ?_)
  refine AO.op rfl (AOp.ilss rfl rfl (ltb rfl) rfl rfl ?_)
  refine AO.op rfl (AOp.move rfl rfl (ltb rfl) rfl ?_)
  refine AO.guardY rfl rfl rfl rfl (AOp.move rfl rfl (ltb rfl) rfl ?_)
  refine AO.guardY rfl rfl rfl rfl (AOp.nilEq rfl rfl (ltb rfl) rfl imeth57 ?_)
  refine AO.op rfl (AOp.pick rfl rfl (ltb rfl) rfl rfl rfl ?_)
  refine AO.nil ?_
  change AC _ _ _ _
  refine AC.condT rfl rfl ?_
  refine AC.skip ?_
  change AC _ _ _ _
  refine AC.block ?_
  refine AC.seq ?_
  refine AC.region ?_
  refine AO.op rfl (AOp.assign rfl rfl (ltb rfl) rfl ?_)
  refine AO.nil ?_
  change AC _ _ _ _
  refine AC.seq ?_
  refine AC.drawC 7 mixed (by kernel_rfl) rfl ?_
  refine AD.op [0] rfl (by kernel_rfl) rfl rfl (fun _ _ h => AOp.move rfl rfl (ltb rfl) rfl h) ?_
  refine AD.op [1] rfl (by kernel_rfl) rfl rfl (fun _ _ h => AOp.move rfl rfl (ltb rfl) rfl h) ?_
  refine AD.op [6] rfl (by kernel_rfl) rfl rfl (fun _ _ h => AOp.move rfl rfl (ltb rfl) rfl h) ?_
  refine AD.op [23, 24] rfl (by kernel_rfl) rfl rfl (fun _ _ h => AOp.sliceSl0 rfl rfl (ltb rfl) rfl rfl el22 h) ?_
  refine AD.op [22] rfl (by kernel_rfl) rfl rfl (fun _ _ h => AOp.makeMeth rfl rfl (ltb rfl) rfl h) ?_
  refine AD.op [26] rfl (by kernel_rfl) rfl rfl (fun _ _ h => AOp.nilMeth rfl rfl (ltb rfl) rfl rfl nilm54_Read h) ?_
  refine AD.op [22] rfl (by kernel_rfl) rfl rfl (fun _ _ h => AOp.move rfl rfl (ltb rfl) rfl h) ?_
  refine AD.done ?_
  refine AO.op rfl (AOp.inlE [0, 1, 2, 6, 7, 8] (EntersS.meth (by kernel_rfl) rfl rfl rfl meth54_Read rfl rfl) Tryd.func71 rfl Tryd.ntmps71 rfl (ltb rfl) (leb rfl) rfl ?_)
  intro fr141
  refine AC.seq ?_
  refine AC.region ?_
  refine AO.op rfl (AOp.assign rfl rfl (ltb rfl) rfl ?_)
  refine AO.op rfl (AOp.assign rfl rfl (ltb rfl) rfl ?_)
  refine AO.objs (obs' := [.fix 24 [.d (.v (.slice none 0 0))], .fix 3 [.d (di .i64 (0 : Int))], .fix 4 [.d (dbool false)], .dead, .fix 71 [.d (eS0 a0), .d (di .i64 (0 : Int)), .d (di .i8 (0 : Int))], .dead, .frame fr137 [(6, .ptr 0 0), (7, .ptr 1 0), (8, .ptr 2 0), (9, .ptr 4 0)], .frame fr138 [(0, .ifc 54 (.ptr 4 0)), (1, .ifc 95 (.ag [])), (2, .d (di .i64 a2))], .fix 102 (List.map (fun z => SV.d (keS0 z)) [(0 : Int), (0 : Int), (0 : Int), (0 : Int)]), .frame fr139 [(1, .ifc 95 (.ag [])), (6, .ptr 8 0)], .frame fr140 [(4, .d (di .i64 (0 : Int))), (5, .d (.v (.nilIface)))], .frame fr141 [(0, .ifc 54 (.ptr 4 0)), (1, .sl 8 1 0 4 4), (2, .d (di .i64 (4 : Int))), (6, .d (di .i64 (0 : Int))), (7, .d (.v (.nilIface))), (8, .d (di .i64 (0 : Int)))]]) rfl ?_
  refine AO.nil ?_
  change AC _ _ _ _
  refine AC.seq ?_
  refine AC.region ?_
  refine AO.op rfl (AOp.move rfl rfl (ltb rfl) rfl ?_)
  refine AO.op rfl (AOp.nilCheck rfl rfl (ltb rfl) rfl rfl ?_)
  refine AO.op rfl (AOp.fieldAddr rfl rfl (ltb rfl) rfl fo71_2 ?_)
  refine AO.op rfl (AOp.store rfl rfl rfl rfl size69 rfl rfl rfl (leb rfl) ?_)
  refine AO.nil ?_
  change AC _ _ _ _
  refine AC.seq ?_
  refine AC.seq ?_
  refine AC.region ?_
  refine AO.op rfl (AOp.move rfl rfl (ltb rfl) rfl ?_)
  refine AO.op rfl (AOp.inl [0, 1] (by kernel_rfl) Tryd.func75 rfl Tryd.ntmps75 rfl rfl (ltb rfl) rfl (leb rfl) rfl ?_)
  intro fr142
  refine AC.seq ?_
  refine AC.region ?_
  refine AO.op rfl (AOp.assign rfl rfl (ltb rfl) rfl ?_)
  refine AO.objs (obs' := [.fix 24 [.d (.v (.slice none 0 0))], .fix 3 [.d (di .i64 (0 : Int))], .fix 4 [.d (dbool false)], .dead, .fix 71 [.d (eS0 a0), .d (di .i64 (0 : Int)), .d (di .i8 (0 : Int))], .dead, .frame fr137 [(6, .ptr 0 0), (7, .ptr 1 0), (8, .ptr 2 0), (9, .ptr 4 0)], .frame fr138 [(0, .ifc 54 (.ptr 4 0)), (1, .ifc 95 (.ag [])), (2, .d (di .i64 a2))], .fix 102 (List.map (fun z => SV.d (keS0 z)) [(0 : Int), (0 : Int), (0 : Int), (0 : Int)]), .frame fr139 [(1, .ifc 95 (.ag [])), (6, .ptr 8 0)], .frame fr140 [(4, .d (di .i64 (0 : Int))), (5, .d (.v (.nilIface)))], .frame fr141 [(0, .ifc 54 (.ptr 4 0)), (1, .sl 8 1 0 4 4), (2, .d (di .i64 (4 : Int))), (6, .d (di .i64 (0 : Int))), (7, .d (.v (.nilIface))), (8, .d (di .i64 (0 : Int)))], .frame fr142 [(0, .ptr 4 0), (1, .sl 8 1 0 4 4)]]) rfl ?_
  refine AO.nil ?_
  change AC _ _ _ _
  refine AC.seq ?_
  refine AC.draw 11 mixed (by kernel_rfl) ?_
  refine AD.op [0] rfl (by kernel_rfl) rfl rfl (fun _ _ h => AOp.move rfl rfl (ltb rfl) rfl h) ?_
  refine AD.op [3] rfl (by kernel_rfl) rfl rfl (fun _ _ h => AOp.nilCheck rfl rfl (ltb rfl) rfl rfl h) ?_
  refine AD.op [4] rfl (by kernel_rfl) rfl rfl (fun _ _ h => AOp.fieldAddr rfl rfl (ltb rfl) rfl fo71_0 h) ?_
  refine AD.op [5] rfl (by kernel_rfl) rfl rfl (fun _ _ h => AOp.load1 rfl rfl (ltb rfl) rfl agg22 rfl rfl h) ?_
  refine AD.op [6] rfl (by kernel_rfl) rfl rfl (fun _ _ h => AOp.lenDs (n := a0.length) (cells := (List.map keS0 a0)) rfl rfl (ltb rfl) rfl el22 (by decide) (len1 _ _) h) ?_
  refine AD.op [0] rfl (by kernel_rfl) rfl rfl (fun _ _ h => AOp.move rfl rfl (ltb rfl) rfl h) ?_
  refine AD.op [8] rfl (by kernel_rfl) rfl rfl (fun _ _ h => AOp.nilCheck rfl rfl (ltb rfl) rfl rfl h) ?_
  refine AD.op [9] rfl (by kernel_rfl) rfl rfl (fun _ _ h => AOp.fieldAddr rfl rfl (ltb rfl) rfl fo71_1 h) ?_
  refine AD.op [10] rfl (by kernel_rfl) rfl rfl (fun _ _ h => AOp.load1 rfl rfl (ltb rfl) rfl agg3 rfl rfl h) ?_
  refine AD.op [7, 11] rfl (by kernel_rfl) rfl rfl (fun _ _ h => AOp.ileq rfl rfl (ltb rfl) rfl rfl h) ?_
  refine AD.op [12] rfl (by kernel_rfl) rfl rfl (fun _ _ h => AOp.assign rfl rfl (ltb rfl) rfl h) ?_
  refine AD.done ?_
  refine AO.nil ?_
  change AC _ _ _ _
  refine AC.ret ?_
  refine inlret (ob' := [.fix 24 [.d (.v (.slice none 0 0))], .fix 3 [.d (di .i64 (0 : Int))], .fix 4 [.d (dbool false)], .dead, .fix 71 [.d (eS0 a0), .d (di .i64 (0 : Int)), .d (di .i8 (0 : Int))], .dead, .frame fr137 [(6, .ptr 0 0), (7, .ptr 1 0), (8, .ptr 2 0), (9, .ptr 4 0)], .frame fr138 [(0, .ifc 54 (.ptr 4 0)), (1, .ifc 95 (.ag [])), (2, .d (di .i64 a2))], .fix 102 (List.map (fun z => SV.d (keS0 z)) [(0 : Int), (0 : Int), (0 : Int), (0 : Int)]), .frame fr139 [(1, .ifc 95 (.ag [])), (6, .ptr 8 0)], .frame fr140 [(4, .d (di .i64 (0 : Int))), (5, .d (.v (.nilIface)))], .frame fr141 [(0, .ifc 54 (.ptr 4 0)), (1, .sl 8 1 0 4 4), (2, .d (di .i64 (4 : Int))), (6, .d (di .i64 (0 : Int))), (7, .d (.v (.nilIface))), (8, .d (di .i64 (0 : Int)))], .dead]) (e' := [(0, .ptr 4 0), (1, .sl 8 1 0 4 4)]) (r := .d (dbool (decide (((a0.length : Nat) : Int) ≤ (0 : Int))))) rfl rfl rfl ?_
  change AO _ _ _ _ _
  refine AO.objs (obs' := [.fix 24 [.d (.v (.slice none 0 0))], .fix 3 [.d (di .i64 (0 : Int))], .fix 4 [.d (dbool false)], .dead, .fix 71 [.d (eS0 a0), .d (di .i64 (0 : Int)), .d (di .i8 (0 : Int))], .dead, .frame fr137 [(6, .ptr 0 0), (7, .ptr 1 0), (8, .ptr 2 0), (9, .ptr 4 0)], .frame fr138 [(0, .ifc 54 (.ptr 4 0)), (1, .ifc 95 (.ag [])), (2, .d (di .i64 a2))], .fix 102 (List.map (fun z => SV.d (keS0 z)) [(0 : Int), (0 : Int), (0 : Int), (0 : Int)]), .frame fr139 [(1, .ifc 95 (.ag [])), (6, .ptr 8 0)], .frame fr140 [(4, .d (di .i64 (0 : Int))), (5, .d (.v (.nilIface)))], .frame fr141 [(0, .ifc 54 (.ptr 4 0)), (1, .sl 8 1 0 4 4), (2, .d (di .i64 (4 : Int))), (6, .d (di .i64 (0 : Int))), (7, .d (.v (.nilIface))), (8, .d (di .i64 (0 : Int)))], .dead]) rfl ?_
  refine AO.nil ?_
  change AC _ _ _ _
  refine AC.cond rfl (fun q143 => ?_) (fun q143 => ?_)
  · exact absurd (hp1.symm.trans q143) (by decide)
  replace h0 := cF h0 q143
  refine AC.skip ?_
  change AC _ _ _ _
  refine AC.seq ?_
  refine AC.draw 10 mixed (by kernel_rfl) ?_
  refine AD.op [1] rfl (by kernel_rfl) rfl rfl (fun _ _ h => AOp.move rfl rfl (ltb rfl) rfl h) ?_
  refine AD.op [0] rfl (by kernel_rfl) rfl rfl (fun _ _ h => AOp.move rfl rfl (ltb rfl) rfl h) ?_
  refine AD.op [18] rfl (by kernel_rfl) rfl rfl (fun _ _ h => AOp.nilCheck rfl rfl (ltb rfl) rfl rfl h) ?_
  refine AD.op [19] rfl (by kernel_rfl) rfl rfl (fun _ _ h => AOp.fieldAddr rfl rfl (ltb rfl) rfl fo71_0 h) ?_
  refine AD.op [20] rfl (by kernel_rfl) rfl rfl (fun _ _ h => AOp.load1 rfl rfl (ltb rfl) rfl agg22 rfl rfl h) ?_
  refine AD.op [0] rfl (by kernel_rfl) rfl rfl (fun _ _ h => AOp.move rfl rfl (ltb rfl) rfl h) ?_
  refine AD.op [22] rfl (by kernel_rfl) rfl rfl (fun _ _ h => AOp.nilCheck rfl rfl (ltb rfl) rfl rfl h) ?_
  refine AD.op [23] rfl (by kernel_rfl) rfl rfl (fun _ _ h => AOp.fieldAddr rfl rfl (ltb rfl) rfl fo71_1 h) ?_
  refine AD.op [24] rfl (by kernel_rfl) rfl rfl (fun _ _ h => AOp.load1 rfl rfl (ltb rfl) rfl agg3 rfl rfl h) ?_
  obtain ⟨q148, h0⟩ := need_elim h0
  refine AD.op [21, 25] rfl (by kernel_rfl) rfl rfl (fun _ _ h => AOp.sliceD (cells := (List.map keS0 a0)) (n := a0.length) (l := ((0 : Int)).toNat) (hh := a0.length) rfl rfl (ltb rfl) rfl (.inr ⟨_, _, _, rfl, rfl, q148.1.1, rfl⟩) (.inl ⟨rfl, rfl⟩) el22 (by decide) (len1 _ _) q148.2.1 q148.2.2 (sub1 _ _ _ _) h) ?_
  refine AD.done ?_
  obtain ⟨q149, h0⟩ := need_elim h0
  obtain ⟨m150, q151, h0⟩ := bind_elim h0
  obtain ⟨c152, q153, h0⟩ := bind_elim h0
  refine AO.op rfl (AOp.copyL2 (k := keS0) (l := [(0 : Int), (0 : Int), (0 : Int), (0 : Int)]) (l2 := ((a0.drop ((0 : Int)).toNat).take (a0.length - ((0 : Int)).toNat))) (m := m150) rfl rfl (ltb rfl) rfl rfl el22 rfl q149 (fun _ => rfl) ((Option.some.inj q151).symm) (Option.some.inj q153) ?_)
  refine AO.op rfl (AOp.assign rfl rfl (ltb rfl) rfl ?_)
  refine AO.nil ?_
  change AC _ _ _ _
  refine AC.seq ?_
  refine AC.region ?_
  refine AO.op rfl (AOp.move rfl rfl (ltb rfl) rfl ?_)
  refine AO.op rfl (AOp.nilCheck rfl rfl (ltb rfl) rfl rfl ?_)
  refine AO.op rfl (AOp.fieldAddr rfl rfl (ltb rfl) rfl fo71_1 ?_)
  refine AO.op rfl (AOp.load1 rfl rfl (ltb rfl) rfl agg3 rfl rfl ?_)
  refine AO.op rfl (AOp.move rfl rfl (ltb rfl) rfl ?_)
  obtain ⟨q154, h0⟩ := need_elim h0
  refine AO.op rfl (AOp.iadd rfl rfl (ltb rfl) rfl rfl (Int.zero_add _) q154.1 q154.2 ?_)
  refine AO.op rfl (AOp.nilCheck rfl rfl (ltb rfl) rfl rfl ?_)
  refine AO.op rfl (AOp.fieldAddr rfl rfl (ltb rfl) rfl fo71_1 ?_)
  refine AO.op rfl (AOp.store rfl rfl rfl rfl size3 rfl rfl rfl (leb rfl) ?_)
  refine AO.nil ?_
  change AC _ _ _ _
  refine AC.joinP (V := Int) [4] [] 13 (fun g155 => []) (fun g155 => [.fix 24 [.d (.v (.slice none 0 0))], .fix 3 [.d (di .i64 (0 : Int))], .fix 4 [.d (dbool false)], .dead, .fix 71 [.d (eS0 a0), .d (di .i64 ((m150 : Nat) : Int)), .d (di .i8 g155)], .dead, .frame fr137 [(6, .ptr 0 0), (7, .ptr 1 0), (8, .ptr 2 0), (9, .ptr 4 0)], .frame fr138 [(0, .ifc 54 (.ptr 4 0)), (1, .ifc 95 (.ag [])), (2, .d (di .i64 a2))], .fix 102 (List.map (fun z => SV.d (keS0 z)) c152), .frame fr139 [(1, .ifc 95 (.ag [])), (6, .ptr 8 0)], .frame fr140 [(4, .d (di .i64 (0 : Int))), (5, .d (.v (.nilIface)))], .frame fr141 [(0, .ifc 54 (.ptr 4 0)), (1, .sl 8 1 0 4 4), (2, .d (di .i64 (4 : Int))), (6, .d (di .i64 (0 : Int))), (7, .d (.v (.nilIface))), (8, .d (di .i64 (0 : Int)))], .dead]) (fun g155 => (p_ReadFlat1_k7 a0 a2 F m150 c152) g155 = some r0) rfl ?_ ?_
  · refine AC.seq ?_
    refine AC.region ?_
    refine AO.op rfl (AOp.move rfl rfl (ltb rfl) rfl ?_)
    refine AO.op rfl (AOp.igtr rfl rfl (ltb rfl) rfl rfl ?_)
    refine AO.nil ?_
    change AC _ _ _ _
    refine AC.cond rfl (fun q269 => ?_) (fun q269 => ?_)
    · replace h0 := cT h0 q269
      refine AC.region ?_
      refine AO.op rfl (AOp.move rfl rfl (ltb rfl) rfl ?_)
      refine AO.op rfl (AOp.nilCheck rfl rfl (ltb rfl) rfl rfl ?_)
      refine AO.op rfl (AOp.fieldAddr rfl rfl (ltb rfl) rfl fo71_2 ?_)
      refine AO.op rfl (AOp.store rfl rfl rfl rfl size69 rfl rfl rfl (leb rfl) ?_)
      refine AO.nil ?_
      exact ⟨(-1 : Int), _, rfl, (LeL.refl _), rfl, (okU_mk rfl (okU_cons rfl (okU_cons rfl (okU_cons rfl (okU_cons rfl (okU_cons rfl (okU_cons rfl (okU_cons rfl (okU_cons rfl (okU_cons (okU_fixl (fun _ => rfl)) (okU_cons rfl (okU_cons rfl (okU_cons rfl (okU_cons rfl okU_nil)))))))))))))), h0⟩
    replace h0 := cF h0 q269
    refine AC.skip ?_
    exact ⟨(0 : Int), _, rfl, (LeL.refl _), rfl, (okU_mk rfl (okU_cons rfl (okU_cons rfl (okU_cons rfl (okU_cons rfl (okU_cons rfl (okU_cons rfl (okU_cons rfl (okU_cons rfl (okU_cons (okU_fixl (fun _ => rfl)) (okU_cons rfl (okU_cons rfl (okU_cons rfl (okU_cons rfl okU_nil)))))))))))))), h0⟩
  intro g155 h0
  unfold p_ReadFlat1_k7 at h0
  refine AC.seq ?_
  refine AC.region ?_
  refine AO.op rfl (AOp.move rfl rfl (ltb rfl) rfl ?_)
  refine AO.op rfl (AOp.assign rfl rfl (ltb rfl) rfl ?_)
  refine AO.op rfl (AOp.assign rfl rfl (ltb rfl) rfl ?_)
  refine AO.nil ?_
  change AC _ _ _ _
  refine AC.ret ?_
  refine inlret (ob' := [.fix 24 [.d (.v (.slice none 0 0))], .fix 3 [.d (di .i64 (0 : Int))], .fix 4 [.d (dbool false)], .dead, .fix 71 [.d (eS0 a0), .d (di .i64 ((m150 : Nat) : Int)), .d (di .i8 g155)], .dead, .frame fr137 [(6, .ptr 0 0), (7, .ptr 1 0), (8, .ptr 2 0), (9, .ptr 4 0)], .frame fr138 [(0, .ifc 54 (.ptr 4 0)), (1, .ifc 95 (.ag [])), (2, .d (di .i64 a2))], .fix 102 (List.map (fun z => SV.d (keS0 z)) c152), .frame fr139 [(1, .ifc 95 (.ag [])), (6, .ptr 8 0)], .frame fr140 [(4, .d (di .i64 (0 : Int))), (5, .d (.v (.nilIface)))], .dead, .dead]) (e' := [(0, .ifc 54 (.ptr 4 0)), (1, .sl 8 1 0 4 4), (2, .d (di .i64 (4 : Int))), (6, .d (di .i64 (0 : Int))), (7, .d (.v (.nilIface))), (8, .d (di .i64 (0 : Int)))]) (r := .tu [.d (di .i64 ((m150 : Nat) : Int)), .d (.v (.nilIface))]) rfl rfl rfl ?_
  change AO _ _ _ _ _
  refine AO.objs (obs' := [.fix 24 [.d (.v (.slice none 0 0))], .fix 3 [.d (di .i64 (0 : Int))], .fix 4 [.d (dbool false)], .dead, .fix 71 [.d (eS0 a0), .d (di .i64 ((m150 : Nat) : Int)), .d (di .i8 g155)], .dead, .frame fr137 [(6, .ptr 0 0), (7, .ptr 1 0), (8, .ptr 2 0), (9, .ptr 4 0)], .frame fr138 [(0, .ifc 54 (.ptr 4 0)), (1, .ifc 95 (.ag [])), (2, .d (di .i64 a2))], .fix 102 (List.map (fun z => SV.d (keS0 z)) c152), .frame fr139 [(1, .ifc 95 (.ag [])), (6, .ptr 8 0)], .frame fr140 [(4, .d (di .i64 (0 : Int))), (5, .d (.v (.nilIface)))], .dead, .dead]) rfl ?_
  refine AO.nil ?_
  change AD _ _ _ _ _
  refine AD.op [29] rfl (by kernel_rfl) rfl rfl (fun _ _ h => AOp.move rfl rfl (ltb rfl) rfl h) ?_
  first | refine AD.op [21] rfl (by kernel_rfl) rfl rfl (fun _ _ h => AOp.extractD rfl rfl (ltb rfl) rfl rfl h) ?_ | refine AD.op [21] rfl (by kernel_rfl) rfl rfl (fun _ _ h => AOp.extract rfl rfl (ltb rfl) rfl rfl h) ?_
  first | refine AD.op [21] rfl (by kernel_rfl) rfl rfl (fun _ _ h => AOp.extractD rfl rfl (ltb rfl) rfl rfl h) ?_ | refine AD.op [21] rfl (by kernel_rfl) rfl rfl (fun _ _ h => AOp.extract rfl rfl (ltb rfl) rfl rfl h) ?_
  refine AD.op [30] rfl (by kernel_rfl) rfl rfl (fun _ _ h => AOp.assign rfl rfl (ltb rfl) rfl h) ?_
  refine AD.op [31] rfl (by kernel_rfl) rfl rfl (fun _ _ h => AOp.assign rfl rfl (ltb rfl) rfl h) ?_
  refine AD.done ?_
  refine AO.nil ?_
  change AC _ _ _ _
  refine AC.region ?_
  refine AO.op rfl (AOp.move rfl rfl (ltb rfl) rfl ?_)
  refine AO.op rfl (AOp.move rfl rfl (ltb rfl) rfl ?_)
  obtain ⟨q156, h0⟩ := need_elim h0
  refine AO.op rfl (AOp.iadd rfl rfl (ltb rfl) rfl rfl (Int.zero_add _) q156.1 q156.2 ?_)
  refine AO.op rfl (AOp.assign rfl rfl (ltb rfl) rfl ?_)
  refine AO.nil ?_
  change ACL _ _ _ _
  refine ACL.round ?_
  refine AC.seq ?_
  refine AC.seq ?_
  refine AC.region ?_
  refine AO.op rfl (AOp.move rfl rfl (ltb rfl) rfl ?_)
  refine AO.op rfl (AOp.move rfl rfl (ltb rfl) rfl ?_)
  refine AO.op rfl (AOp.ilss rfl rfl (ltb rfl) rfl rfl ?_)
  refine AO.op rfl (AOp.move rfl rfl (ltb rfl) rfl ?_)
  refine AO.dec (decide (((m150 : Nat) : Int) < (4 : Int))) (fun q157 => ?_) (fun q157 => ?_)
  · replace h0 := cT h0 q157
    refine AO.guardY rfl rfl rfl q157 (AOp.move rfl rfl (ltb rfl) rfl ?_)
    refine AO.guardY rfl rfl rfl q157 (AOp.nilEq rfl rfl (ltb rfl) rfl imeth57 ?_)
    refine AO.op rfl (AOp.pick rfl rfl (ltb rfl) rfl q157 rfl ?_)
    refine AO.nil ?_
    change AC _ _ _ _
    refine AC.condT rfl rfl ?_
    refine AC.skip ?_
    change AC _ _ _ _
    refine AC.block ?_
    refine AC.seq ?_
    refine AC.region ?_
    refine AO.op rfl (AOp.assign rfl rfl (ltb rfl) rfl ?_)
    refine AO.nil ?_
    change AC _ _ _ _
    refine AC.seq ?_
    refine AC.drawC 7 mixed (by kernel_rfl) rfl ?_
    refine AD.op [0] rfl (by kernel_rfl) rfl rfl (fun _ _ h => AOp.move rfl rfl (ltb rfl) rfl h) ?_
    refine AD.op [1] rfl (by kernel_rfl) rfl rfl (fun _ _ h => AOp.move rfl rfl (ltb rfl) rfl h) ?_
    refine AD.op [6] rfl (by kernel_rfl) rfl rfl (fun _ _ h => AOp.move rfl rfl (ltb rfl) rfl h) ?_
    obtain ⟨q158, h0⟩ := need_elim h0
    refine AD.op [23, 24] rfl (by kernel_rfl) rfl rfl (fun _ _ h => AOp.sliceSl (cap := 4) rfl rfl (ltb rfl) rfl rfl el22 q158.1 q158.2 h) ?_
    refine AD.op [22] rfl (by kernel_rfl) rfl rfl (fun _ _ h => AOp.makeMeth rfl rfl (ltb rfl) rfl h) ?_
    refine AD.op [26] rfl (by kernel_rfl) rfl rfl (fun _ _ h => AOp.nilMeth rfl rfl (ltb rfl) rfl rfl nilm54_Read h) ?_
    refine AD.op [22] rfl (by kernel_rfl) rfl rfl (fun _ _ h => AOp.move rfl rfl (ltb rfl) rfl h) ?_
    refine AD.done ?_
    refine AO.op rfl (AOp.inlE [0, 1, 2, 6, 7, 8, 21, 29, 30, 31] (EntersS.meth (by kernel_rfl) rfl rfl rfl meth54_Read rfl rfl) Tryd.func71 rfl Tryd.ntmps71 rfl (ltb rfl) (leb rfl) rfl ?_)
    intro fr159
    refine AC.seq ?_
    refine AC.region ?_
    refine AO.op rfl (AOp.assign rfl rfl (ltb rfl) rfl ?_)
    refine AO.op rfl (AOp.assign rfl rfl (ltb rfl) rfl ?_)
    refine AO.objs (obs' := [.fix 24 [.d (.v (.slice none 0 0))], .fix 3 [.d (di .i64 (0 : Int))], .fix 4 [.d (dbool false)], .dead, .fix 71 [.d (eS0 a0), .d (di .i64 ((m150 : Nat) : Int)), .d (di .i8 g155)], .dead, .frame fr137 [(6, .ptr 0 0), (7, .ptr 1 0), (8, .ptr 2 0), (9, .ptr 4 0)], .frame fr138 [(0, .ifc 54 (.ptr 4 0)), (1, .ifc 95 (.ag [])), (2, .d (di .i64 a2))], .fix 102 (List.map (fun z => SV.d (keS0 z)) c152), .frame fr139 [(1, .ifc 95 (.ag [])), (6, .ptr 8 0)], .frame fr140 [(4, .d (di .i64 (0 : Int))), (5, .d (.v (.nilIface)))], .dead, .dead, .frame fr159 [(0, .ifc 54 (.ptr 4 0)), (1, .sl 8 1 0 4 4), (2, .d (di .i64 (4 : Int))), (6, .d (di .i64 ((m150 : Nat) : Int))), (7, .d (.v (.nilIface))), (8, .d (di .i64 (0 : Int))), (21, .tu [.d (di .i64 ((m150 : Nat) : Int)), .d (.v (.nilIface))]), (29, .tu [.d (di .i64 ((m150 : Nat) : Int)), .d (.v (.nilIface))]), (30, .d (di .i64 ((m150 : Nat) : Int))), (31, .d (.v (.nilIface)))]]) rfl ?_
    refine AO.nil ?_
    change AC _ _ _ _
    refine AC.seq ?_
    refine AC.region ?_
    refine AO.op rfl (AOp.move rfl rfl (ltb rfl) rfl ?_)
    refine AO.op rfl (AOp.nilCheck rfl rfl (ltb rfl) rfl rfl ?_)
    refine AO.op rfl (AOp.fieldAddr rfl rfl (ltb rfl) rfl fo71_2 ?_)
    refine AO.op rfl (AOp.store rfl rfl rfl rfl size69 rfl rfl rfl (leb rfl) ?_)
    refine AO.nil ?_
    change AC _ _ _ _
    refine AC.seq ?_
    refine AC.seq ?_
    refine AC.region ?_
    refine AO.op rfl (AOp.move rfl rfl (ltb rfl) rfl ?_)
    refine AO.op rfl (AOp.inl [0, 1] (by kernel_rfl) Tryd.func75 rfl Tryd.ntmps75 rfl rfl (ltb rfl) rfl (leb rfl) rfl ?_)
    intro fr160
    refine AC.seq ?_
    refine AC.region ?_
    refine AO.op rfl (AOp.assign rfl rfl (ltb rfl) rfl ?_)
    refine AO.objs (obs' := [.fix 24 [.d (.v (.slice none 0 0))], .fix 3 [.d (di .i64 (0 : Int))], .fix 4 [.d (dbool false)], .dead, .fix 71 [.d (eS0 a0), .d (di .i64 ((m150 : Nat) : Int)), .d (di .i8 (0 : Int))], .dead, .frame fr137 [(6, .ptr 0 0), (7, .ptr 1 0), (8, .ptr 2 0), (9, .ptr 4 0)], .frame fr138 [(0, .ifc 54 (.ptr 4 0)), (1, .ifc 95 (.ag [])), (2, .d (di .i64 a2))], .fix 102 (List.map (fun z => SV.d (keS0 z)) c152), .frame fr139 [(1, .ifc 95 (.ag [])), (6, .ptr 8 0)], .frame fr140 [(4, .d (di .i64 (0 : Int))), (5, .d (.v (.nilIface)))], .dead, .dead, .frame fr159 [(0, .ifc 54 (.ptr 4 0)), (1, .sl 8 1 0 4 4), (2, .d (di .i64 (4 : Int))), (6, .d (di .i64 ((m150 : Nat) : Int))), (7, .d (.v (.nilIface))), (8, .d (di .i64 (0 : Int))), (21, .tu [.d (di .i64 ((m150 : Nat) : Int)), .d (.v (.nilIface))]), (29, .tu [.d (di .i64 ((m150 : Nat) : Int)), .d (.v (.nilIface))]), (30, .d (di .i64 ((m150 : Nat) : Int))), (31, .d (.v (.nilIface)))], .frame fr160 [(0, .ptr 4 0), (1, .sl 8 1 (if 4 = (((m150 : Nat) : Int)).toNat then 0 else 0 + (((m150 : Nat) : Int)).toNat * 1) (4 - (((m150 : Nat) : Int)).toNat) (4 - (((m150 : Nat) : Int)).toNat))]]) rfl ?_
    refine AO.nil ?_
    change AC _ _ _ _
    refine AC.seq ?_
    refine AC.draw 11 mixed (by kernel_rfl) ?_
    refine AD.op [0] rfl (by kernel_rfl) rfl rfl (fun _ _ h => AOp.move rfl rfl (ltb rfl) rfl h) ?_
    refine AD.op [3] rfl (by kernel_rfl) rfl rfl (fun _ _ h => AOp.nilCheck rfl rfl (ltb rfl) rfl rfl h) ?_
    refine AD.op [4] rfl (by kernel_rfl) rfl rfl (fun _ _ h => AOp.fieldAddr rfl rfl (ltb rfl) rfl fo71_0 h) ?_
    refine AD.op [5] rfl (by kernel_rfl) rfl rfl (fun _ _ h => AOp.load1 rfl rfl (ltb rfl) rfl agg22 rfl rfl h) ?_
    refine AD.op [6] rfl (by kernel_rfl) rfl rfl (fun _ _ h => AOp.lenDs (n := a0.length) (cells := (List.map keS0 a0)) rfl rfl (ltb rfl) rfl el22 (by decide) (len1 _ _) h) ?_
    refine AD.op [0] rfl (by kernel_rfl) rfl rfl (fun _ _ h => AOp.move rfl rfl (ltb rfl) rfl h) ?_
    refine AD.op [8] rfl (by kernel_rfl) rfl rfl (fun _ _ h => AOp.nilCheck rfl rfl (ltb rfl) rfl rfl h) ?_
    refine AD.op [9] rfl (by kernel_rfl) rfl rfl (fun _ _ h => AOp.fieldAddr rfl rfl (ltb rfl) rfl fo71_1 h) ?_
    refine AD.op [10] rfl (by kernel_rfl) rfl rfl (fun _ _ h => AOp.load1 rfl rfl (ltb rfl) rfl agg3 rfl rfl h) ?_
    refine AD.op [7, 11] rfl (by kernel_rfl) rfl rfl (fun _ _ h => AOp.ileq rfl rfl (ltb rfl) rfl rfl h) ?_
    refine AD.op [12] rfl (by kernel_rfl) rfl rfl (fun _ _ h => AOp.assign rfl rfl (ltb rfl) rfl h) ?_
    refine AD.done ?_
    refine AO.nil ?_
    change AC _ _ _ _
    refine AC.ret ?_
    refine inlret (ob' := [.fix 24 [.d (.v (.slice none 0 0))], .fix 3 [.d (di .i64 (0 : Int))], .fix 4 [.d (dbool false)], .dead, .fix 71 [.d (eS0 a0), .d (di .i64 ((m150 : Nat) : Int)), .d (di .i8 (0 : Int))], .dead, .frame fr137 [(6, .ptr 0 0), (7, .ptr 1 0), (8, .ptr 2 0), (9, .ptr 4 0)], .frame fr138 [(0, .ifc 54 (.ptr 4 0)), (1, .ifc 95 (.ag [])), (2, .d (di .i64 a2))], .fix 102 (List.map (fun z => SV.d (keS0 z)) c152), .frame fr139 [(1, .ifc 95 (.ag [])), (6, .ptr 8 0)], .frame fr140 [(4, .d (di .i64 (0 : Int))), (5, .d (.v (.nilIface)))], .dead, .dead, .frame fr159 [(0, .ifc 54 (.ptr 4 0)), (1, .sl 8 1 0 4 4), (2, .d (di .i64 (4 : Int))), (6, .d (di .i64 ((m150 : Nat) : Int))), (7, .d (.v (.nilIface))), (8, .d (di .i64 (0 : Int))), (21, .tu [.d (di .i64 ((m150 : Nat) : Int)), .d (.v (.nilIface))]), (29, .tu [.d (di .i64 ((m150 : Nat) : Int)), .d (.v (.nilIface))]), (30, .d (di .i64 ((m150 : Nat) : Int))), (31, .d (.v (.nilIface)))], .dead]) (e' := [(0, .ptr 4 0), (1, .sl 8 1 (if 4 = (((m150 : Nat) : Int)).toNat then 0 else 0 + (((m150 : Nat) : Int)).toNat * 1) (4 - (((m150 : Nat) : Int)).toNat) (4 - (((m150 : Nat) : Int)).toNat))]) (r := .d (dbool (decide (((a0.length : Nat) : Int) ≤ ((m150 : Nat) : Int))))) rfl rfl rfl ?_
    change AO _ _ _ _ _
    refine AO.objs (obs' := [.fix 24 [.d (.v (.slice none 0 0))], .fix 3 [.d (di .i64 (0 : Int))], .fix 4 [.d (dbool false)], .dead, .fix 71 [.d (eS0 a0), .d (di .i64 ((m150 : Nat) : Int)), .d (di .i8 (0 : Int))], .dead, .frame fr137 [(6, .ptr 0 0), (7, .ptr 1 0), (8, .ptr 2 0), (9, .ptr 4 0)], .frame fr138 [(0, .ifc 54 (.ptr 4 0)), (1, .ifc 95 (.ag [])), (2, .d (di .i64 a2))], .fix 102 (List.map (fun z => SV.d (keS0 z)) c152), .frame fr139 [(1, .ifc 95 (.ag [])), (6, .ptr 8 0)], .frame fr140 [(4, .d (di .i64 (0 : Int))), (5, .d (.v (.nilIface)))], .dead, .dead, .frame fr159 [(0, .ifc 54 (.ptr 4 0)), (1, .sl 8 1 0 4 4), (2, .d (di .i64 (4 : Int))), (6, .d (di .i64 ((m150 : Nat) : Int))), (7, .d (.v (.nilIface))), (8, .d (di .i64 (0 : Int))), (21, .tu [.d (di .i64 ((m150 : Nat) : Int)), .d (.v (.nilIface))]), (29, .tu [.d (di .i64 ((m150 : Nat) : Int)), .d (.v (.nilIface))]), (30, .d (di .i64 ((m150 : Nat) : Int))), (31, .d (.v (.nilIface)))], .dead]) rfl ?_
    refine AO.nil ?_
    change AC _ _ _ _
    refine AC.cond rfl (fun q161 => ?_) (fun q161 => ?_)
    · replace h0 := cT h0 q161
      refine AC.seq ?_
      refine AC.region ?_
      refine AO.op rfl (AOp.move rfl rfl (ltb rfl) rfl ?_)
      refine AO.op rfl (AOp.inl [1] (by kernel_rfl) Tryd.func72 rfl Tryd.ntmps72 rfl rfl (ltb rfl) rfl (leb rfl) rfl ?_)
      intro fr162
      refine AC.seq ?_
      refine AC.region ?_
      refine AO.op rfl (AOp.move rfl rfl (ltb rfl) rfl ?_)
      refine AO.op rfl (AOp.move rfl rfl (ltb rfl) rfl ?_)
      refine AO.op rfl (AOp.nilCheck rfl rfl (ltb rfl) rfl rfl ?_)
      refine AO.op rfl (AOp.fieldAddr rfl rfl (ltb rfl) rfl fo71_0 ?_)
      refine AO.op rfl (AOp.load1 rfl rfl (ltb rfl) rfl agg22 rfl rfl ?_)
      obtain ⟨q163, h0⟩ := need_elim h0
      refine AO.op rfl (AOp.sliceD (cells := (List.map keS0 a0)) (n := a0.length) (l := 0) (hh := ((0 : Int)).toNat) rfl rfl (ltb rfl) rfl (.inl ⟨rfl, rfl⟩) (.inr ⟨_, _, _, rfl, rfl, q163.1.2, rfl⟩) el22 (by decide) (len1 _ _) q163.2.1 q163.2.2 (sub1 _ _ _ _) ?_)
      refine AO.op rfl (AOp.nilCheck rfl rfl (ltb rfl) rfl rfl ?_)
      refine AO.op rfl (AOp.fieldAddr rfl rfl (ltb rfl) rfl fo71_0 ?_)
      refine AO.op rfl (AOp.store rfl rfl rfl rfl size22 rfl rfl rfl (leb rfl) ?_)
      refine AO.objs (obs' := [.fix 24 [.d (.v (.slice none 0 0))], .fix 3 [.d (di .i64 (0 : Int))], .fix 4 [.d (dbool false)], .dead, .fix 71 [.d (eS0 ((a0.drop 0).take (((0 : Int)).toNat - 0))), .d (di .i64 ((m150 : Nat) : Int)), .d (di .i8 (0 : Int))], .dead, .frame fr137 [(6, .ptr 0 0), (7, .ptr 1 0), (8, .ptr 2 0), (9, .ptr 4 0)], .frame fr138 [(0, .ifc 54 (.ptr 4 0)), (1, .ifc 95 (.ag [])), (2, .d (di .i64 a2))], .fix 102 (List.map (fun z => SV.d (keS0 z)) c152), .frame fr139 [(1, .ifc 95 (.ag [])), (6, .ptr 8 0)], .frame fr140 [(4, .d (di .i64 (0 : Int))), (5, .d (.v (.nilIface)))], .dead, .dead, .frame fr159 [(0, .ifc 54 (.ptr 4 0)), (1, .sl 8 1 0 4 4), (2, .d (di .i64 (4 : Int))), (6, .d (di .i64 ((m150 : Nat) : Int))), (7, .d (.v (.nilIface))), (8, .d (di .i64 (0 : Int))), (21, .tu [.d (di .i64 ((m150 : Nat) : Int)), .d (.v (.nilIface))]), (29, .tu [.d (di .i64 ((m150 : Nat) : Int)), .d (.v (.nilIface))]), (30, .d (di .i64 ((m150 : Nat) : Int))), (31, .d (.v (.nilIface)))], .dead, .frame fr162 [(1, .sl 8 1 (if 4 = (((m150 : Nat) : Int)).toNat then 0 else 0 + (((m150 : Nat) : Int)).toNat * 1) (4 - (((m150 : Nat) : Int)).toNat) (4 - (((m150 : Nat) : Int)).toNat))]]) rfl ?_
      refine AO.nil ?_
      change AC _ _ _ _
      refine AC.seq ?_
      refine AC.region ?_
      refine AO.op rfl (AOp.move rfl rfl (ltb rfl) rfl ?_)
      refine AO.op rfl (AOp.nilCheck rfl rfl (ltb rfl) rfl rfl ?_)
      refine AO.op rfl (AOp.fieldAddr rfl rfl (ltb rfl) rfl fo71_1 ?_)
      refine AO.op rfl (AOp.store rfl rfl rfl rfl size3 rfl rfl rfl (leb rfl) ?_)
      refine AO.nil ?_
      change AC _ _ _ _
      refine AC.region ?_
      refine AO.op rfl (AOp.move rfl rfl (ltb rfl) rfl ?_)
      refine AO.op rfl (AOp.nilCheck rfl rfl (ltb rfl) rfl rfl ?_)
      refine AO.op rfl (AOp.fieldAddr rfl rfl (ltb rfl) rfl fo71_2 ?_)
      refine AO.op rfl (AOp.store rfl rfl rfl rfl size69 rfl rfl rfl (leb rfl) ?_)
      refine AO.nil ?_
      refine inlend (ob' := [.fix 24 [.d (.v (.slice none 0 0))], .fix 3 [.d (di .i64 (0 : Int))], .fix 4 [.d (dbool false)], .dead, .fix 71 [.d (eS0 ((a0.drop 0).take (((0 : Int)).toNat - 0))), .d (di .i64 (0 : Int)), .d (di .i8 (0 : Int))], .dead, .frame fr137 [(6, .ptr 0 0), (7, .ptr 1 0), (8, .ptr 2 0), (9, .ptr 4 0)], .frame fr138 [(0, .ifc 54 (.ptr 4 0)), (1, .ifc 95 (.ag [])), (2, .d (di .i64 a2))], .fix 102 (List.map (fun z => SV.d (keS0 z)) c152), .frame fr139 [(1, .ifc 95 (.ag [])), (6, .ptr 8 0)], .frame fr140 [(4, .d (di .i64 (0 : Int))), (5, .d (.v (.nilIface)))], .dead, .dead, .frame fr159 [(0, .ifc 54 (.ptr 4 0)), (1, .sl 8 1 0 4 4), (2, .d (di .i64 (4 : Int))), (6, .d (di .i64 ((m150 : Nat) : Int))), (7, .d (.v (.nilIface))), (8, .d (di .i64 (0 : Int))), (21, .tu [.d (di .i64 ((m150 : Nat) : Int)), .d (.v (.nilIface))]), (29, .tu [.d (di .i64 ((m150 : Nat) : Int)), .d (.v (.nilIface))]), (30, .d (di .i64 ((m150 : Nat) : Int))), (31, .d (.v (.nilIface)))], .dead, .dead]) (e' := [(1, .sl 8 1 (if 4 = (((m150 : Nat) : Int)).toNat then 0 else 0 + (((m150 : Nat) : Int)).toNat * 1) (4 - (((m150 : Nat) : Int)).toNat) (4 - (((m150 : Nat) : Int)).toNat))]) (r := .tu []) rfl rfl rfl ?_
      change AO _ _ _ _ _
      refine AO.objs (obs' := [.fix 24 [.d (.v (.slice none 0 0))], .fix 3 [.d (di .i64 (0 : Int))], .fix 4 [.d (dbool false)], .dead, .fix 71 [.d (eS0 ((a0.drop 0).take (((0 : Int)).toNat - 0))), .d (di .i64 (0 : Int)), .d (di .i8 (0 : Int))], .dead, .frame fr137 [(6, .ptr 0 0), (7, .ptr 1 0), (8, .ptr 2 0), (9, .ptr 4 0)], .frame fr138 [(0, .ifc 54 (.ptr 4 0)), (1, .ifc 95 (.ag [])), (2, .d (di .i64 a2))], .fix 102 (List.map (fun z => SV.d (keS0 z)) c152), .frame fr139 [(1, .ifc 95 (.ag [])), (6, .ptr 8 0)], .frame fr140 [(4, .d (di .i64 (0 : Int))), (5, .d (.v (.nilIface)))], .dead, .dead, .frame fr159 [(0, .ifc 54 (.ptr 4 0)), (1, .sl 8 1 0 4 4), (2, .d (di .i64 (4 : Int))), (6, .d (di .i64 ((m150 : Nat) : Int))), (7, .d (.v (.nilIface))), (8, .d (di .i64 (0 : Int))), (21, .tu [.d (di .i64 ((m150 : Nat) : Int)), .d (.v (.nilIface))]), (29, .tu [.d (di .i64 ((m150 : Nat) : Int)), .d (.v (.nilIface))]), (30, .d (di .i64 ((m150 : Nat) : Int))), (31, .d (.v (.nilIface)))], .dead, .dead]) rfl ?_
      refine AO.nil ?_
      change AC _ _ _ _
      refine AC.seq ?_
      refine AC.seq ?_
      refine AC.region ?_
      refine AO.op rfl (AOp.move rfl rfl (ltb rfl) rfl ?_)
      refine AO.op rfl (AOp.lenSl rfl rfl (ltb rfl) rfl el22 ?_)
      refine AO.op rfl (AOp.ieql rfl rfl (ltb rfl) rfl rfl ?_)
      refine AO.nil ?_
      change AC _ _ _ _
      refine AC.cond rfl (fun q164 => ?_) (fun q164 => ?_)
      · replace h0 := cT h0 q164
        cases h0
      replace h0 := cF h0 q164
      refine AC.skip ?_
      change AC _ _ _ _
      refine AC.seq ?_
      refine AC.draw 3 mixed (by kernel_rfl) ?_
      refine AD.op [] rfl (by kernel_rfl) rfl rfl (fun _ _ h => AOp.loadEV rfl rfl (ltb rfl) rfl agg57 (by simp [GlobsP]) h) ?_
      refine AD.op [] rfl (by kernel_rfl) rfl rfl (fun _ _ h => AOp.assign rfl rfl (ltb rfl) rfl h) ?_
      refine AD.op [16] rfl (by kernel_rfl) rfl rfl (fun _ _ h => AOp.assign rfl rfl (ltb rfl) rfl h) ?_
      refine AD.done ?_
      refine AO.nil ?_
      change AC _ _ _ _
      refine AC.ret ?_
      refine inlret (ob' := [.fix 24 [.d (.v (.slice none 0 0))], .fix 3 [.d (di .i64 (0 : Int))], .fix 4 [.d (dbool false)], .dead, .fix 71 [.d (eS0 ((a0.drop 0).take (((0 : Int)).toNat - 0))), .d (di .i64 (0 : Int)), .d (di .i8 (0 : Int))], .dead, .frame fr137 [(6, .ptr 0 0), (7, .ptr 1 0), (8, .ptr 2 0), (9, .ptr 4 0)], .frame fr138 [(0, .ifc 54 (.ptr 4 0)), (1, .ifc 95 (.ag [])), (2, .d (di .i64 a2))], .fix 102 (List.map (fun z => SV.d (keS0 z)) c152), .frame fr139 [(1, .ifc 95 (.ag [])), (6, .ptr 8 0)], .frame fr140 [(4, .d (di .i64 (0 : Int))), (5, .d (.v (.nilIface)))], .dead, .dead, .dead, .dead, .dead]) (e' := [(0, .ifc 54 (.ptr 4 0)), (1, .sl 8 1 0 4 4), (2, .d (di .i64 (4 : Int))), (6, .d (di .i64 ((m150 : Nat) : Int))), (7, .d (.v (.nilIface))), (8, .d (di .i64 (0 : Int))), (21, .tu [.d (di .i64 ((m150 : Nat) : Int)), .d (.v (.nilIface))]), (29, .tu [.d (di .i64 ((m150 : Nat) : Int)), .d (.v (.nilIface))]), (30, .d (di .i64 ((m150 : Nat) : Int))), (31, .d (.v (.nilIface)))]) (r := .tu [.d (di .i64 (0 : Int)), .d (.v (errV W 5))]) rfl rfl rfl ?_
      change AO _ _ _ _ _
      refine AO.objs (obs' := [.fix 24 [.d (.v (.slice none 0 0))], .fix 3 [.d (di .i64 (0 : Int))], .fix 4 [.d (dbool false)], .dead, .fix 71 [.d (eS0 ((a0.drop 0).take (((0 : Int)).toNat - 0))), .d (di .i64 (0 : Int)), .d (di .i8 (0 : Int))], .dead, .frame fr137 [(6, .ptr 0 0), (7, .ptr 1 0), (8, .ptr 2 0), (9, .ptr 4 0)], .frame fr138 [(0, .ifc 54 (.ptr 4 0)), (1, .ifc 95 (.ag [])), (2, .d (di .i64 a2))], .fix 102 (List.map (fun z => SV.d (keS0 z)) c152), .frame fr139 [(1, .ifc 95 (.ag [])), (6, .ptr 8 0)], .frame fr140 [(4, .d (di .i64 (0 : Int))), (5, .d (.v (.nilIface)))], .dead, .dead, .dead, .dead, .dead]) rfl ?_
      refine AO.nil ?_
      change AD _ _ _ _ _
      refine AD.op [29] rfl (by kernel_rfl) rfl rfl (fun _ _ h => AOp.move rfl rfl (ltb rfl) rfl h) ?_
      first | refine AD.op [21] rfl (by kernel_rfl) rfl rfl (fun _ _ h => AOp.extractD rfl rfl (ltb rfl) rfl rfl h) ?_ | refine AD.op [21] rfl (by kernel_rfl) rfl rfl (fun _ _ h => AOp.extract rfl rfl (ltb rfl) rfl rfl h) ?_
      first | refine AD.op [21] rfl (by kernel_rfl) rfl rfl (fun _ _ h => AOp.extractD rfl rfl (ltb rfl) rfl rfl h) ?_ | refine AD.op [21] rfl (by kernel_rfl) rfl rfl (fun _ _ h => AOp.extract rfl rfl (ltb rfl) rfl rfl h) ?_
      refine AD.op [30] rfl (by kernel_rfl) rfl rfl (fun _ _ h => AOp.assign rfl rfl (ltb rfl) rfl h) ?_
      refine AD.op [31] rfl (by kernel_rfl) rfl rfl (fun _ _ h => AOp.assign rfl rfl (ltb rfl) rfl h) ?_
      refine AD.done ?_
      refine AO.nil ?_
      change AC _ _ _ _
      refine AC.region ?_
      refine AO.op rfl (AOp.move rfl rfl (ltb rfl) rfl ?_)
      refine AO.op rfl (AOp.move rfl rfl (ltb rfl) rfl ?_)
      obtain ⟨q165, h0⟩ := need_elim h0
      refine AO.op rfl (AOp.iadd rfl rfl (ltb rfl) rfl rfl (Int.add_zero _) q165.1 q165.2 ?_)
      refine AO.op rfl (AOp.assign rfl rfl (ltb rfl) rfl ?_)
      refine AO.nil ?_
      change ACL _ _ _ _
      refine ACL.round ?_
      refine AC.seq ?_
      refine AC.seq ?_
      refine AC.region ?_
      refine AO.op rfl (AOp.move rfl rfl (ltb rfl) rfl ?_)
      refine AO.op rfl (AOp.move rfl rfl (ltb rfl) rfl ?_)
      refine AO.op rfl (AOp.ilss rfl rfl (ltb rfl) rfl rfl ?_)
      refine AO.op rfl (AOp.move rfl rfl (ltb rfl) rfl ?_)
      refine AO.guardY rfl rfl rfl q157 (AOp.move rfl rfl (ltb rfl) rfl ?_)
      refine AO.guardY rfl rfl rfl q157 (AOp.errEql rfl rfl (ltb rfl) rfl (by simp [GlobsP]) imeth57 ?_)
      refine AO.op rfl (AOp.pick rfl rfl (ltb rfl) rfl q157 rfl ?_)
      refine AO.nil ?_
      change AC _ _ _ _
      refine AC.condF rfl rfl ?_
      refine AC.exit ?_
      change AC _ _ _ _
      refine AC.seq ?_
      refine AC.seq ?_
      refine AC.region ?_
      refine AO.op rfl (AOp.move rfl rfl (ltb rfl) rfl ?_)
      refine AO.op rfl (AOp.move rfl rfl (ltb rfl) rfl ?_)
      refine AO.op rfl (AOp.igeq rfl rfl (ltb rfl) rfl rfl ?_)
      refine AO.nil ?_
      change AC _ _ _ _
      refine AC.condF rfl (dlt_ge q157) ?_
      refine AC.seq ?_
      refine AC.region ?_
      refine AO.op rfl (AOp.move rfl rfl (ltb rfl) rfl ?_)
      refine AO.op rfl (AOp.igtr rfl rfl (ltb rfl) rfl rfl ?_)
      refine AO.op rfl (AOp.move rfl rfl (ltb rfl) rfl ?_)
      refine AO.dec (decide ((0 : Int) < ((m150 : Nat) : Int))) (fun q166 => ?_) (fun q166 => ?_)
      · replace h0 := cT h0 q166
        refine AO.guardY rfl rfl rfl q166 (AOp.move rfl rfl (ltb rfl) rfl ?_)
        refine AO.guardY rfl rfl rfl q166 (AOp.loadEV rfl rfl (ltb rfl) rfl agg57 (by simp [GlobsP]) ?_)
        refine AO.guardY rfl rfl rfl q166 (AOp.errSame rfl rfl (ltb rfl) rfl rfl (by simp [GlobsP]) cmpE imeth57 ?_)
        refine AO.op rfl (AOp.pick rfl rfl (ltb rfl) rfl q166 rfl ?_)
        refine AO.nil ?_
        change AC _ _ _ _
        refine AC.condT rfl rfl ?_
        refine AC.region ?_
        refine AO.op rfl (AOp.loadEV rfl rfl (ltb rfl) rfl agg57 (by simp [GlobsP]) ?_)
        refine AO.op rfl (AOp.assign rfl rfl (ltb rfl) rfl ?_)
        refine AO.nil ?_
        change AC _ _ _ _
        refine AC.ret ?_
        refine inlret (ob' := [.fix 24 [.d (.v (.slice none 0 0))], .fix 3 [.d (di .i64 (0 : Int))], .fix 4 [.d (dbool false)], .dead, .fix 71 [.d (eS0 ((a0.drop 0).take (((0 : Int)).toNat - 0))), .d (di .i64 (0 : Int)), .d (di .i8 (0 : Int))], .dead, .frame fr137 [(6, .ptr 0 0), (7, .ptr 1 0), (8, .ptr 2 0), (9, .ptr 4 0)], .frame fr138 [(0, .ifc 54 (.ptr 4 0)), (1, .ifc 95 (.ag [])), (2, .d (di .i64 a2))], .fix 102 (List.map (fun z => SV.d (keS0 z)) c152), .frame fr139 [(1, .ifc 95 (.ag [])), (6, .ptr 8 0)], .dead, .dead, .dead, .dead, .dead, .dead]) (e' := [(4, .d (di .i64 (0 : Int))), (5, .d (.v (.nilIface)))]) (r := .tu [.d (di .i64 ((m150 : Nat) : Int)), .d (.v (errV W 6))]) rfl rfl rfl ?_
        change AO _ _ _ _ _
        first | refine AO.op rfl (AOp.extractD rfl rfl (ltb rfl) rfl rfl ?_) | refine AO.op rfl (AOp.extract rfl rfl (ltb rfl) rfl rfl ?_)
        first | refine AO.op rfl (AOp.extractD rfl rfl (ltb rfl) rfl rfl ?_) | refine AO.op rfl (AOp.extract rfl rfl (ltb rfl) rfl rfl ?_)
        refine AO.op rfl (AOp.assign rfl rfl (ltb rfl) rfl ?_)
        refine AO.op rfl (AOp.assign rfl rfl (ltb rfl) rfl ?_)
        refine AO.objs (obs' := [.fix 24 [.d (.v (.slice none 0 0))], .fix 3 [.d (di .i64 (0 : Int))], .fix 4 [.d (dbool false)], .dead, .fix 71 [.d (eS0 ((a0.drop 0).take (((0 : Int)).toNat - 0))), .d (di .i64 (0 : Int)), .d (di .i8 (0 : Int))], .dead, .frame fr137 [(6, .ptr 0 0), (7, .ptr 1 0), (8, .ptr 2 0), (9, .ptr 4 0)], .frame fr138 [(0, .ifc 54 (.ptr 4 0)), (1, .ifc 95 (.ag [])), (2, .d (di .i64 a2))], .fix 102 (List.map (fun z => SV.d (keS0 z)) c152), .frame fr139 [(1, .ifc 95 (.ag [])), (6, .ptr 8 0)], .dead, .dead, .dead, .dead, .dead, .dead]) rfl ?_
        refine AO.nil ?_
        change AC _ _ _ _
        refine AC.ret ?_
        refine inlret (ob' := [.fix 24 [.d (.v (.slice none 0 0))], .fix 3 [.d (di .i64 (0 : Int))], .fix 4 [.d (dbool false)], .dead, .fix 71 [.d (eS0 ((a0.drop 0).take (((0 : Int)).toNat - 0))), .d (di .i64 (0 : Int)), .d (di .i8 (0 : Int))], .dead, .frame fr137 [(6, .ptr 0 0), (7, .ptr 1 0), (8, .ptr 2 0), (9, .ptr 4 0)], .frame fr138 [(0, .ifc 54 (.ptr 4 0)), (1, .ifc 95 (.ag [])), (2, .d (di .i64 a2))], .fix 102 (List.map (fun z => SV.d (keS0 z)) c152), .dead, .dead, .dead, .dead, .dead, .dead, .dead]) (e' := [(1, .ifc 95 (.ag [])), (6, .ptr 8 0)]) (r := .tu [.d (di .i64 ((m150 : Nat) : Int)), .d (.v (errV W 6))]) rfl rfl rfl ?_
        change AO _ _ _ _ _
        refine AO.op rfl (AOp.move rfl rfl (ltb rfl) rfl ?_)
        first | refine AO.op rfl (AOp.extractD rfl rfl (ltb rfl) rfl rfl ?_) | refine AO.op rfl (AOp.extract rfl rfl (ltb rfl) rfl rfl ?_)
        first | refine AO.op rfl (AOp.extractD rfl rfl (ltb rfl) rfl rfl ?_) | refine AO.op rfl (AOp.extract rfl rfl (ltb rfl) rfl rfl ?_)
        refine AO.op rfl (AOp.assign rfl rfl (ltb rfl) rfl ?_)
        refine AO.op rfl (AOp.assign rfl rfl (ltb rfl) rfl ?_)
        refine AO.objs (obs' := [.fix 24 [.d (.v (.slice none 0 0))], .fix 3 [.d (di .i64 (0 : Int))], .fix 4 [.d (dbool false)], .dead, .fix 71 [.d (eS0 ((a0.drop 0).take (((0 : Int)).toNat - 0))), .d (di .i64 (0 : Int)), .d (di .i8 (0 : Int))], .dead, .frame fr137 [(6, .ptr 0 0), (7, .ptr 1 0), (8, .ptr 2 0), (9, .ptr 4 0)], .frame fr138 [(0, .ifc 54 (.ptr 4 0)), (1, .ifc 95 (.ag [])), (2, .d (di .i64 a2))], .fix 102 (List.map (fun z => SV.d (keS0 z)) c152), .dead, .dead, .dead, .dead, .dead, .dead, .dead]) rfl ?_
        refine AO.nil ?_
        change AC _ _ _ _
        refine AC.seq ?_
        refine AC.region ?_
        refine AO.op rfl (AOp.move rfl rfl (ltb rfl) rfl ?_)
        refine AO.op rfl (AOp.errNeq rfl rfl (ltb rfl) rfl (by simp [GlobsP]) imeth57 ?_)
        refine AO.nil ?_
        change AC _ _ _ _
        refine AC.condT rfl rfl ?_
        refine AC.seq ?_
        refine AC.region ?_
        refine AO.op rfl (AOp.move rfl rfl (ltb rfl) rfl ?_)
        refine AO.op rfl (AOp.assign rfl rfl (ltb rfl) rfl ?_)
        refine AO.op rfl (AOp.assign rfl rfl (ltb rfl) rfl ?_)
        refine AO.nil ?_
        change AC _ _ _ _
        refine AC.ret ?_
        refine inlret (ob' := [.fix 24 [.d (.v (.slice none 0 0))], .fix 3 [.d (di .i64 (0 : Int))], .fix 4 [.d (dbool false)], .dead, .fix 71 [.d (eS0 ((a0.drop 0).take (((0 : Int)).toNat - 0))), .d (di .i64 (0 : Int)), .d (di .i8 (0 : Int))], .dead, .frame fr137 [(6, .ptr 0 0), (7, .ptr 1 0), (8, .ptr 2 0), (9, .ptr 4 0)], .dead, .fix 102 (List.map (fun z => SV.d (keS0 z)) c152), .dead, .dead, .dead, .dead, .dead, .dead, .dead]) (e' := [(0, .ifc 54 (.ptr 4 0)), (1, .ifc 95 (.ag [])), (2, .d (di .i64 a2))]) (r := .tu [.d (di .u32 (0 : Int)), .d (.v (errV W 6))]) rfl rfl rfl ?_
        change AO _ _ _ _ _
        refine AO.op rfl (AOp.move rfl rfl (ltb rfl) rfl ?_)
        first | refine AO.op rfl (AOp.extractD rfl rfl (ltb rfl) rfl rfl ?_) | refine AO.op rfl (AOp.extract rfl rfl (ltb rfl) rfl rfl ?_)
        first | refine AO.op rfl (AOp.extractD rfl rfl (ltb rfl) rfl rfl ?_) | refine AO.op rfl (AOp.extract rfl rfl (ltb rfl) rfl rfl ?_)
        refine AO.op rfl (AOp.assign rfl rfl (ltb rfl) rfl ?_)
        refine AO.op rfl (AOp.assign rfl rfl (ltb rfl) rfl ?_)
        refine AO.objs (obs' := [.fix 24 [.d (.v (.slice none 0 0))], .fix 3 [.d (di .i64 (0 : Int))], .fix 4 [.d (dbool false)], .dead, .fix 71 [.d (eS0 ((a0.drop 0).take (((0 : Int)).toNat - 0))), .d (di .i64 (0 : Int)), .d (di .i8 (0 : Int))], .dead, .frame fr137 [(6, .ptr 0 0), (7, .ptr 1 0), (8, .ptr 2 0), (9, .ptr 4 0)], .dead, .fix 102 (List.map (fun z => SV.d (keS0 z)) c152), .dead, .dead, .dead, .dead, .dead, .dead, .dead]) rfl ?_
        refine AO.nil ?_
        change AC _ _ _ _
        refine AC.seq ?_
        refine AC.seq ?_
        refine AC.region ?_
        refine AO.op rfl (AOp.move rfl rfl (ltb rfl) rfl ?_)
        refine AO.op rfl (AOp.errNeq rfl rfl (ltb rfl) rfl (by simp [GlobsP]) imeth57 ?_)
        refine AO.nil ?_
        change AC _ _ _ _
        refine AC.condT rfl rfl ?_
        refine AC.seq ?_
        refine AC.region ?_
        refine AO.op rfl (AOp.move rfl rfl (ltb rfl) rfl ?_)
        refine AO.op rfl (AOp.assign rfl rfl (ltb rfl) rfl ?_)
        refine AO.op rfl (AOp.assign rfl rfl (ltb rfl) rfl ?_)
        refine AO.nil ?_
        change AC _ _ _ _
        refine AC.ret ?_
        refine inlret (ob' := [.fix 24 [.d (.v (.slice none 0 0))], .fix 3 [.d (di .i64 (0 : Int))], .fix 4 [.d (dbool false)], .dead, .fix 71 [.d (eS0 ((a0.drop 0).take (((0 : Int)).toNat - 0))), .d (di .i64 (0 : Int)), .d (di .i8 (0 : Int))], .dead, .dead, .dead, .fix 102 (List.map (fun z => SV.d (keS0 z)) c152), .dead, .dead, .dead, .dead, .dead, .dead, .dead]) (e' := [(6, .ptr 0 0), (7, .ptr 1 0), (8, .ptr 2 0), (9, .ptr 4 0)]) (r := .tu [.d (.v (.slice none 0 0)), .d (.v (errV W 6))]) rfl rfl rfl ?_
        change AO _ _ _ _ _
        refine AO.op rfl (AOp.move rfl rfl (ltb rfl) rfl ?_)
        first | refine AO.op rfl (AOp.extractD rfl rfl (ltb rfl) rfl rfl ?_) | refine AO.op rfl (AOp.extract rfl rfl (ltb rfl) rfl rfl ?_)
        first | refine AO.op rfl (AOp.extractD rfl rfl (ltb rfl) rfl rfl ?_) | refine AO.op rfl (AOp.extract rfl rfl (ltb rfl) rfl rfl ?_)
        refine AO.op rfl (AOp.store rfl rfl rfl rfl size24 rfl rfl rfl (leb rfl) ?_)
        refine AO.op rfl (AOp.assign rfl rfl (ltb rfl) rfl ?_)
        refine AO.objs (obs' := [.fix 24 [.d (.v (.slice none 0 0))], .fix 3 [.d (di .i64 (0 : Int))], .fix 4 [.d (dbool false)], .dead, .fix 71 [.d (eS0 ((a0.drop 0).take (((0 : Int)).toNat - 0))), .d (di .i64 (0 : Int)), .d (di .i8 (0 : Int))], .dead, .dead, .dead, .fix 102 (List.map (fun z => SV.d (keS0 z)) c152), .dead, .dead, .dead, .dead, .dead, .dead, .dead]) rfl ?_
        refine AO.nil ?_
        change AC _ _ _ _
        refine AC.seq ?_
        refine AC.freezeP (ds := c_TBytes_Buffer (TBytes_Buffer.mk ((a0.drop 0).take (((0 : Int)).toNat - 0)) (0 : Int) (0 : Int))) 9 4 rfl rfl rfl rfl (Nat.zero_le _) ?_
        obtain ⟨y167, q168, h0⟩ := bind_elim h0
        refine AC.drawS [0, 1, 2, 3, 4, 5, 6] [5, 6] [7] (fun L => [.fix 24 [.d (.v (.slice none 0 0))], .fix 3 [(bif L 6 then .d (di .i64 y167) else .d (di .i64 (0 : Int)))], .fix 4 [.d (dbool false)], .dead, .dead, .dead, .dead, .dead, .fix 102 (List.map (fun z => SV.d (keS0 z)) c152), .dead, .dead, .dead, .dead, .dead, .dead, .dead]) [(5, (fun _ => true)), (6, (fun _ => true))] mixed (by kernel_rfl) (fun L L' h => by simp only [h 5 (by decide), h 6 (by decide)]) rfl ?_
        refine AS.op [6] [] [5, 6] [] rfl rfl rfl (by kernel_rfl) (by kernel_rfl) rfl rfl (fun _ _ _ h => AOp.load1 rfl rfl (ltb rfl) rfl agg24 rfl rfl h) (by kernel_rfl) ?_
        refine AS.op [9] [] [5, 6] [] rfl rfl rfl (by kernel_rfl) (by kernel_rfl) rfl rfl (fun _ _ _ h => AOp.move rfl rfl (ltb rfl) rfl h) (by kernel_rfl) ?_
        refine AS.op [24] [] [5, 6] [] rfl rfl rfl (by kernel_rfl) (by kernel_rfl) rfl rfl (fun _ _ _ h => AOp.callD rfl rfl (ltb rfl) rfl rfl (w_Buffer_Len (TBytes_Buffer.mk ((a0.drop 0).take (((0 : Int)).toNat - 0)) (0 : Int) (0 : Int)) y167 q168) (by rintro _ rfl; exact h)) (by kernel_rfl) ?_
        refine AS.op [10] [] [] [5, 6] rfl rfl rfl (by kernel_rfl) (by kernel_rfl) rfl rfl (fun _ _ _ h => AOp.move rfl rfl (ltb rfl) rfl h) (by kernel_rfl) ?_
        refine AS.op [26] [] [] [5, 6] rfl rfl rfl (by kernel_rfl) (by kernel_rfl) rfl rfl (fun _ _ _ h => AOp.errEql rfl rfl (ltb rfl) rfl (by simp [GlobsP]) imeth57 h) (by kernel_rfl) ?_
        refine AS.mid0 [6, 23] [] [6, 5] [] rfl rfl rfl rfl (by kernel_rfl) (by kernel_rfl) rfl rfl (fun _ _ _ h => AOp.store rfl rfl rfl rfl size24 rfl rfl rfl (leb rfl) (AO.dropT h)) (by kernel_rfl) rfl ?_
        refine AS.mid0 [7, 25] [5] [6] [] rfl rfl rfl rfl (by kernel_rfl) (by kernel_rfl) rfl rfl (fun _ _ _ h => AOp.store rfl rfl rfl rfl size3 rfl rfl rfl (leb rfl) (AO.dropT h)) (by kernel_rfl) rfl ?_
        refine AS.done ?_
        refine AO.objs (obs' := [.fix 24 [.d (.v (.slice none 0 0))], .fix 3 [.d (di .i64 y167)], .fix 4 [.d (dbool false)], .dead, .dead, .dead, .dead, .dead, .fix 102 (List.map (fun z => SV.d (keS0 z)) c152), .dead, .dead, .dead, .dead, .dead, .dead, .dead]) rfl ?_
        refine AO.op rfl (AOp.store rfl rfl rfl rfl size4 rfl rfl rfl (leb rfl) ?_)
        refine AO.nil ?_
        change AC _ _ _ _
        refine AC.subO 0 rfl (.cons (SVLe.nil 1) .nil) ?_
        refine AC.ret ?_
        change RetQ _ _ _ .ret _
        obtain rfl := Option.some.inj h0
        refine retq rfl rfl
      replace h0 := cF h0 q166
      refine AO.guardN rfl rfl rfl (ltb rfl) rfl q166 ?_
      refine AO.guardN rfl rfl rfl (ltb rfl) rfl q166 ?_
      refine AO.guardN rfl rfl rfl (ltb rfl) rfl q166 ?_
      refine AO.op rfl (AOp.pickN rfl rfl (ltb rfl) rfl q166 rfl ?_)
      refine AO.nil ?_
      change AC _ _ _ _
      refine AC.condF rfl rfl ?_
      refine AC.skip ?_
      change AC _ _ _ _
      refine AC.ret ?_
      refine inlret (ob' := [.fix 24 [.d (.v (.slice none 0 0))], .fix 3 [.d (di .i64 (0 : Int))], .fix 4 [.d (dbool false)], .dead, .fix 71 [.d (eS0 ((a0.drop 0).take (((0 : Int)).toNat - 0))), .d (di .i64 (0 : Int)), .d (di .i8 (0 : Int))], .dead, .frame fr137 [(6, .ptr 0 0), (7, .ptr 1 0), (8, .ptr 2 0), (9, .ptr 4 0)], .frame fr138 [(0, .ifc 54 (.ptr 4 0)), (1, .ifc 95 (.ag [])), (2, .d (di .i64 a2))], .fix 102 (List.map (fun z => SV.d (keS0 z)) c152), .frame fr139 [(1, .ifc 95 (.ag [])), (6, .ptr 8 0)], .dead, .dead, .dead, .dead, .dead, .dead]) (e' := [(4, .d (di .i64 (0 : Int))), (5, .d (.v (.nilIface)))]) (r := .tu [.d (di .i64 ((m150 : Nat) : Int)), .d (.v (errV W 5))]) rfl rfl rfl ?_
      change AO _ _ _ _ _
      first | refine AO.op rfl (AOp.extractD rfl rfl (ltb rfl) rfl rfl ?_) | refine AO.op rfl (AOp.extract rfl rfl (ltb rfl) rfl rfl ?_)
      first | refine AO.op rfl (AOp.extractD rfl rfl (ltb rfl) rfl rfl ?_) | refine AO.op rfl (AOp.extract rfl rfl (ltb rfl) rfl rfl ?_)
      refine AO.op rfl (AOp.assign rfl rfl (ltb rfl) rfl ?_)
      refine AO.op rfl (AOp.assign rfl rfl (ltb rfl) rfl ?_)
      refine AO.objs (obs' := [.fix 24 [.d (.v (.slice none 0 0))], .fix 3 [.d (di .i64 (0 : Int))], .fix 4 [.d (dbool false)], .dead, .fix 71 [.d (eS0 ((a0.drop 0).take (((0 : Int)).toNat - 0))), .d (di .i64 (0 : Int)), .d (di .i8 (0 : Int))], .dead, .frame fr137 [(6, .ptr 0 0), (7, .ptr 1 0), (8, .ptr 2 0), (9, .ptr 4 0)], .frame fr138 [(0, .ifc 54 (.ptr 4 0)), (1, .ifc 95 (.ag [])), (2, .d (di .i64 a2))], .fix 102 (List.map (fun z => SV.d (keS0 z)) c152), .frame fr139 [(1, .ifc 95 (.ag [])), (6, .ptr 8 0)], .dead, .dead, .dead, .dead, .dead, .dead]) rfl ?_
      refine AO.nil ?_
      change AC _ _ _ _
      refine AC.ret ?_
      refine inlret (ob' := [.fix 24 [.d (.v (.slice none 0 0))], .fix 3 [.d (di .i64 (0 : Int))], .fix 4 [.d (dbool false)], .dead, .fix 71 [.d (eS0 ((a0.drop 0).take (((0 : Int)).toNat - 0))), .d (di .i64 (0 : Int)), .d (di .i8 (0 : Int))], .dead, .frame fr137 [(6, .ptr 0 0), (7, .ptr 1 0), (8, .ptr 2 0), (9, .ptr 4 0)], .frame fr138 [(0, .ifc 54 (.ptr 4 0)), (1, .ifc 95 (.ag [])), (2, .d (di .i64 a2))], .fix 102 (List.map (fun z => SV.d (keS0 z)) c152), .dead, .dead, .dead, .dead, .dead, .dead, .dead]) (e' := [(1, .ifc 95 (.ag [])), (6, .ptr 8 0)]) (r := .tu [.d (di .i64 ((m150 : Nat) : Int)), .d (.v (errV W 5))]) rfl rfl rfl ?_
      change AO _ _ _ _ _
      refine AO.op rfl (AOp.move rfl rfl (ltb rfl) rfl ?_)
      first | refine AO.op rfl (AOp.extractD rfl rfl (ltb rfl) rfl rfl ?_) | refine AO.op rfl (AOp.extract rfl rfl (ltb rfl) rfl rfl ?_)
      first | refine AO.op rfl (AOp.extractD rfl rfl (ltb rfl) rfl rfl ?_) | refine AO.op rfl (AOp.extract rfl rfl (ltb rfl) rfl rfl ?_)
      refine AO.op rfl (AOp.assign rfl rfl (ltb rfl) rfl ?_)
      refine AO.op rfl (AOp.assign rfl rfl (ltb rfl) rfl ?_)
      refine AO.objs (obs' := [.fix 24 [.d (.v (.slice none 0 0))], .fix 3 [.d (di .i64 (0 : Int))], .fix 4 [.d (dbool false)], .dead, .fix 71 [.d (eS0 ((a0.drop 0).take (((0 : Int)).toNat - 0))), .d (di .i64 (0 : Int)), .d (di .i8 (0 : Int))], .dead, .frame fr137 [(6, .ptr 0 0), (7, .ptr 1 0), (8, .ptr 2 0), (9, .ptr 4 0)], .frame fr138 [(0, .ifc 54 (.ptr 4 0)), (1, .ifc 95 (.ag [])), (2, .d (di .i64 a2))], .fix 102 (List.map (fun z => SV.d (keS0 z)) c152), .dead, .dead, .dead, .dead, .dead, .dead, .dead]) rfl ?_
      refine AO.nil ?_
      change AC _ _ _ _
      refine AC.seq ?_
      refine AC.region ?_
      refine AO.op rfl (AOp.move rfl rfl (ltb rfl) rfl ?_)
      refine AO.op rfl (AOp.errNeq rfl rfl (ltb rfl) rfl (by simp [GlobsP]) imeth57 ?_)
      refine AO.nil ?_
      change AC _ _ _ _
      refine AC.condT rfl rfl ?_
      refine AC.seq ?_
      refine AC.region ?_
      refine AO.op rfl (AOp.move rfl rfl (ltb rfl) rfl ?_)
      refine AO.op rfl (AOp.assign rfl rfl (ltb rfl) rfl ?_)
      refine AO.op rfl (AOp.assign rfl rfl (ltb rfl) rfl ?_)
      refine AO.nil ?_
      change AC _ _ _ _
      refine AC.ret ?_
      refine inlret (ob' := [.fix 24 [.d (.v (.slice none 0 0))], .fix 3 [.d (di .i64 (0 : Int))], .fix 4 [.d (dbool false)], .dead, .fix 71 [.d (eS0 ((a0.drop 0).take (((0 : Int)).toNat - 0))), .d (di .i64 (0 : Int)), .d (di .i8 (0 : Int))], .dead, .frame fr137 [(6, .ptr 0 0), (7, .ptr 1 0), (8, .ptr 2 0), (9, .ptr 4 0)], .dead, .fix 102 (List.map (fun z => SV.d (keS0 z)) c152), .dead, .dead, .dead, .dead, .dead, .dead, .dead]) (e' := [(0, .ifc 54 (.ptr 4 0)), (1, .ifc 95 (.ag [])), (2, .d (di .i64 a2))]) (r := .tu [.d (di .u32 (0 : Int)), .d (.v (errV W 5))]) rfl rfl rfl ?_
      change AO _ _ _ _ _
      refine AO.op rfl (AOp.move rfl rfl (ltb rfl) rfl ?_)
      first | refine AO.op rfl (AOp.extractD rfl rfl (ltb rfl) rfl rfl ?_) | refine AO.op rfl (AOp.extract rfl rfl (ltb rfl) rfl rfl ?_)
      first | refine AO.op rfl (AOp.extractD rfl rfl (ltb rfl) rfl rfl ?_) | refine AO.op rfl (AOp.extract rfl rfl (ltb rfl) rfl rfl ?_)
      refine AO.op rfl (AOp.assign rfl rfl (ltb rfl) rfl ?_)
      refine AO.op rfl (AOp.assign rfl rfl (ltb rfl) rfl ?_)
      refine AO.objs (obs' := [.fix 24 [.d (.v (.slice none 0 0))], .fix 3 [.d (di .i64 (0 : Int))], .fix 4 [.d (dbool false)], .dead, .fix 71 [.d (eS0 ((a0.drop 0).take (((0 : Int)).toNat - 0))), .d (di .i64 (0 : Int)), .d (di .i8 (0 : Int))], .dead, .frame fr137 [(6, .ptr 0 0), (7, .ptr 1 0), (8, .ptr 2 0), (9, .ptr 4 0)], .dead, .fix 102 (List.map (fun z => SV.d (keS0 z)) c152), .dead, .dead, .dead, .dead, .dead, .dead, .dead]) rfl ?_
      refine AO.nil ?_
      change AC _ _ _ _
      refine AC.seq ?_
      refine AC.seq ?_
      refine AC.region ?_
      refine AO.op rfl (AOp.move rfl rfl (ltb rfl) rfl ?_)
      refine AO.op rfl (AOp.errNeq rfl rfl (ltb rfl) rfl (by simp [GlobsP]) imeth57 ?_)
      refine AO.nil ?_
      change AC _ _ _ _
      refine AC.condT rfl rfl ?_
      refine AC.seq ?_
      refine AC.region ?_
      refine AO.op rfl (AOp.move rfl rfl (ltb rfl) rfl ?_)
      refine AO.op rfl (AOp.assign rfl rfl (ltb rfl) rfl ?_)
      refine AO.op rfl (AOp.assign rfl rfl (ltb rfl) rfl ?_)
      refine AO.nil ?_
      change AC _ _ _ _
      refine AC.ret ?_
      refine inlret (ob' := [.fix 24 [.d (.v (.slice none 0 0))], .fix 3 [.d (di .i64 (0 : Int))], .fix 4 [.d (dbool false)], .dead, .fix 71 [.d (eS0 ((a0.drop 0).take (((0 : Int)).toNat - 0))), .d (di .i64 (0 : Int)), .d (di .i8 (0 : Int))], .dead, .dead, .dead, .fix 102 (List.map (fun z => SV.d (keS0 z)) c152), .dead, .dead, .dead, .dead, .dead, .dead, .dead]) (e' := [(6, .ptr 0 0), (7, .ptr 1 0), (8, .ptr 2 0), (9, .ptr 4 0)]) (r := .tu [.d (.v (.slice none 0 0)), .d (.v (errV W 5))]) rfl rfl rfl ?_
      change AO _ _ _ _ _
      refine AO.op rfl (AOp.move rfl rfl (ltb rfl) rfl ?_)
      first | refine AO.op rfl (AOp.extractD rfl rfl (ltb rfl) rfl rfl ?_) | refine AO.op rfl (AOp.extract rfl rfl (ltb rfl) rfl rfl ?_)
      first | refine AO.op rfl (AOp.extractD rfl rfl (ltb rfl) rfl rfl ?_) | refine AO.op rfl (AOp.extract rfl rfl (ltb rfl) rfl rfl ?_)
      refine AO.op rfl (AOp.store rfl rfl rfl rfl size24 rfl rfl rfl (leb rfl) ?_)
      refine AO.op rfl (AOp.assign rfl rfl (ltb rfl) rfl ?_)
      refine AO.objs (obs' := [.fix 24 [.d (.v (.slice none 0 0))], .fix 3 [.d (di .i64 (0 : Int))], .fix 4 [.d (dbool false)], .dead, .fix 71 [.d (eS0 ((a0.drop 0).take (((0 : Int)).toNat - 0))), .d (di .i64 (0 : Int)), .d (di .i8 (0 : Int))], .dead, .dead, .dead, .fix 102 (List.map (fun z => SV.d (keS0 z)) c152), .dead, .dead, .dead, .dead, .dead, .dead, .dead]) rfl ?_
      refine AO.nil ?_
      change AC _ _ _ _
      refine AC.seq ?_
      refine AC.freezeP (ds := c_TBytes_Buffer (TBytes_Buffer.mk ((a0.drop 0).take (((0 : Int)).toNat - 0)) (0 : Int) (0 : Int))) 9 4 rfl rfl rfl rfl (Nat.zero_le _) ?_
      obtain ⟨y169, q170, h0⟩ := bind_elim h0
      refine AC.drawS [0, 1, 2, 3, 4, 5, 6] [5, 6] [7] (fun L => [.fix 24 [.d (.v (.slice none 0 0))], .fix 3 [(bif L 6 then .d (di .i64 y169) else .d (di .i64 (0 : Int)))], .fix 4 [.d (dbool false)], .dead, .dead, .dead, .dead, .dead, .fix 102 (List.map (fun z => SV.d (keS0 z)) c152), .dead, .dead, .dead, .dead, .dead, .dead, .dead]) [(5, (fun _ => true)), (6, (fun _ => true))] mixed (by kernel_rfl) (fun L L' h => by simp only [h 5 (by decide), h 6 (by decide)]) rfl ?_
      refine AS.op [6] [] [5, 6] [] rfl rfl rfl (by kernel_rfl) (by kernel_rfl) rfl rfl (fun _ _ _ h => AOp.load1 rfl rfl (ltb rfl) rfl agg24 rfl rfl h) (by kernel_rfl) ?_
      refine AS.op [9] [] [5, 6] [] rfl rfl rfl (by kernel_rfl) (by kernel_rfl) rfl rfl (fun _ _ _ h => AOp.move rfl rfl (ltb rfl) rfl h) (by kernel_rfl) ?_
      refine AS.op [24] [] [5, 6] [] rfl rfl rfl (by kernel_rfl) (by kernel_rfl) rfl rfl (fun _ _ _ h => AOp.callD rfl rfl (ltb rfl) rfl rfl (w_Buffer_Len (TBytes_Buffer.mk ((a0.drop 0).take (((0 : Int)).toNat - 0)) (0 : Int) (0 : Int)) y169 q170) (by rintro _ rfl; exact h)) (by kernel_rfl) ?_
      refine AS.op [10] [] [] [5, 6] rfl rfl rfl (by kernel_rfl) (by kernel_rfl) rfl rfl (fun _ _ _ h => AOp.move rfl rfl (ltb rfl) rfl h) (by kernel_rfl) ?_
      refine AS.op [26] [] [] [5, 6] rfl rfl rfl (by kernel_rfl) (by kernel_rfl) rfl rfl (fun _ _ _ h => AOp.errEql rfl rfl (ltb rfl) rfl (by simp [GlobsP]) imeth57 h) (by kernel_rfl) ?_
      refine AS.mid0 [6, 23] [] [6, 5] [] rfl rfl rfl rfl (by kernel_rfl) (by kernel_rfl) rfl rfl (fun _ _ _ h => AOp.store rfl rfl rfl rfl size24 rfl rfl rfl (leb rfl) (AO.dropT h)) (by kernel_rfl) rfl ?_
      refine AS.mid0 [7, 25] [5] [6] [] rfl rfl rfl rfl (by kernel_rfl) (by kernel_rfl) rfl rfl (fun _ _ _ h => AOp.store rfl rfl rfl rfl size3 rfl rfl rfl (leb rfl) (AO.dropT h)) (by kernel_rfl) rfl ?_
      refine AS.done ?_
      refine AO.objs (obs' := [.fix 24 [.d (.v (.slice none 0 0))], .fix 3 [.d (di .i64 y169)], .fix 4 [.d (dbool false)], .dead, .dead, .dead, .dead, .dead, .fix 102 (List.map (fun z => SV.d (keS0 z)) c152), .dead, .dead, .dead, .dead, .dead, .dead, .dead]) rfl ?_
      refine AO.op rfl (AOp.store rfl rfl rfl rfl size4 rfl rfl rfl (leb rfl) ?_)
      refine AO.nil ?_
      change AC _ _ _ _
      refine AC.subO 0 rfl (.cons (SVLe.nil 1) .nil) ?_
      refine AC.ret ?_
      change RetQ _ _ _ .ret _
      obtain rfl := Option.some.inj h0
      refine retq rfl rfl
    replace h0 := cF h0 q161
    cases h0
  replace h0 := cF h0 q157
  refine AO.guardN rfl rfl rfl (ltb rfl) rfl q157 ?_
  refine AO.guardN rfl rfl rfl (ltb rfl) rfl q157 ?_
  refine AO.op rfl (AOp.pickN rfl rfl (ltb rfl) rfl q157 rfl ?_)
  refine AO.nil ?_
  change AC _ _ _ _
  refine AC.condF rfl rfl ?_
  refine AC.exit ?_
  change AC _ _ _ _
  refine AC.seq ?_
  refine AC.seq ?_
  refine AC.region ?_
  refine AO.op rfl (AOp.move rfl rfl (ltb rfl) rfl ?_)
  refine AO.op rfl (AOp.move rfl rfl (ltb rfl) rfl ?_)
  refine AO.op rfl (AOp.igeq rfl rfl (ltb rfl) rfl rfl ?_)
  refine AO.nil ?_
  change AC _ _ _ _
  refine AC.condT rfl (dlt_ge q157) ?_
  refine AC.region ?_
  refine AO.op rfl (AOp.assign rfl rfl (ltb rfl) rfl ?_)
  refine AO.nil ?_
  change AC _ _ _ _
  refine AC.ret ?_
  refine inlret (ob' := [.fix 24 [.d (.v (.slice none 0 0))], .fix 3 [.d (di .i64 (0 : Int))], .fix 4 [.d (dbool false)], .dead, .fix 71 [.d (eS0 a0), .d (di .i64 ((m150 : Nat) : Int)), .d (di .i8 g155)], .dead, .frame fr137 [(6, .ptr 0 0), (7, .ptr 1 0), (8, .ptr 2 0), (9, .ptr 4 0)], .frame fr138 [(0, .ifc 54 (.ptr 4 0)), (1, .ifc 95 (.ag [])), (2, .d (di .i64 a2))], .fix 102 (List.map (fun z => SV.d (keS0 z)) c152), .frame fr139 [(1, .ifc 95 (.ag [])), (6, .ptr 8 0)], .dead, .dead, .dead]) (e' := [(4, .d (di .i64 (0 : Int))), (5, .d (.v (.nilIface)))]) (r := .tu [.d (di .i64 ((m150 : Nat) : Int)), .d (.v (.nilIface))]) rfl rfl rfl ?_
  change AO _ _ _ _ _
  first | refine AO.op rfl (AOp.extractD rfl rfl (ltb rfl) rfl rfl ?_) | refine AO.op rfl (AOp.extract rfl rfl (ltb rfl) rfl rfl ?_)
  first | refine AO.op rfl (AOp.extractD rfl rfl (ltb rfl) rfl rfl ?_) | refine AO.op rfl (AOp.extract rfl rfl (ltb rfl) rfl rfl ?_)
  refine AO.op rfl (AOp.assign rfl rfl (ltb rfl) rfl ?_)
  refine AO.op rfl (AOp.assign rfl rfl (ltb rfl) rfl ?_)
  refine AO.objs (obs' := [.fix 24 [.d (.v (.slice none 0 0))], .fix 3 [.d (di .i64 (0 : Int))], .fix 4 [.d (dbool false)], .dead, .fix 71 [.d (eS0 a0), .d (di .i64 ((m150 : Nat) : Int)), .d (di .i8 g155)], .dead, .frame fr137 [(6, .ptr 0 0), (7, .ptr 1 0), (8, .ptr 2 0), (9, .ptr 4 0)], .frame fr138 [(0, .ifc 54 (.ptr 4 0)), (1, .ifc 95 (.ag [])), (2, .d (di .i64 a2))], .fix 102 (List.map (fun z => SV.d (keS0 z)) c152), .frame fr139 [(1, .ifc 95 (.ag [])), (6, .ptr 8 0)], .dead, .dead, .dead]) rfl ?_
  refine AO.nil ?_
  change AC _ _ _ _
  refine AC.ret ?_
  refine inlret (ob' := [.fix 24 [.d (.v (.slice none 0 0))], .fix 3 [.d (di .i64 (0 : Int))], .fix 4 [.d (dbool false)], .dead, .fix 71 [.d (eS0 a0), .d (di .i64 ((m150 : Nat) : Int)), .d (di .i8 g155)], .dead, .frame fr137 [(6, .ptr 0 0), (7, .ptr 1 0), (8, .ptr 2 0), (9, .ptr 4 0)], .frame fr138 [(0, .ifc 54 (.ptr 4 0)), (1, .ifc 95 (.ag [])), (2, .d (di .i64 a2))], .fix 102 (List.map (fun z => SV.d (keS0 z)) c152), .dead, .dead, .dead, .dead]) (e' := [(1, .ifc 95 (.ag [])), (6, .ptr 8 0)]) (r := .tu [.d (di .i64 ((m150 : Nat) : Int)), .d (.v (.nilIface))]) rfl rfl rfl ?_
  change AO _ _ _ _ _
  refine AO.op rfl (AOp.move rfl rfl (ltb rfl) rfl ?_)
  first | refine AO.op rfl (AOp.extractD rfl rfl (ltb rfl) rfl rfl ?_) | refine AO.op rfl (AOp.extract rfl rfl (ltb rfl) rfl rfl ?_)
  first | refine AO.op rfl (AOp.extractD rfl rfl (ltb rfl) rfl rfl ?_) | refine AO.op rfl (AOp.extract rfl rfl (ltb rfl) rfl rfl ?_)
  refine AO.op rfl (AOp.assign rfl rfl (ltb rfl) rfl ?_)
  refine AO.op rfl (AOp.assign rfl rfl (ltb rfl) rfl ?_)
  refine AO.objs (obs' := [.fix 24 [.d (.v (.slice none 0 0))], .fix 3 [.d (di .i64 (0 : Int))], .fix 4 [.d (dbool false)], .dead, .fix 71 [.d (eS0 a0), .d (di .i64 ((m150 : Nat) : Int)), .d (di .i8 g155)], .dead, .frame fr137 [(6, .ptr 0 0), (7, .ptr 1 0), (8, .ptr 2 0), (9, .ptr 4 0)], .frame fr138 [(0, .ifc 54 (.ptr 4 0)), (1, .ifc 95 (.ag [])), (2, .d (di .i64 a2))], .fix 102 (List.map (fun z => SV.d (keS0 z)) c152), .dead, .dead, .dead, .dead]) rfl ?_
  refine AO.nil ?_
  change AC _ _ _ _
  refine AC.seq ?_
  refine AC.region ?_
  refine AO.op rfl (AOp.move rfl rfl (ltb rfl) rfl ?_)
  refine AO.op rfl (AOp.nilNeq rfl rfl (ltb rfl) rfl imeth57 ?_)
  refine AO.nil ?_
  change AC _ _ _ _
  refine AC.condF rfl rfl ?_
  refine AC.skip ?_
  change AC _ _ _ _
  refine AC.seq ?_
  refine AC.draw 5 mixed (by kernel_rfl) ?_
  refine AD.op [1] rfl (by kernel_rfl) rfl rfl (fun _ _ h => AOp.move rfl rfl (ltb rfl) rfl h) ?_
  refine AD.op [6] rfl (by kernel_rfl) rfl rfl (fun _ _ h => AOp.sliceArr rfl rfl (ltb rfl) rfl ar102 ⟨_, _, rfl⟩ h) ?_
  refine AD.op [18] rfl (by kernel_rfl) rfl rfl (fun _ _ h => AOp.makeMeth rfl rfl (ltb rfl) rfl h) ?_
  refine AD.op [20] rfl (by kernel_rfl) rfl rfl (fun _ _ h => AOp.nilMeth rfl rfl (ltb rfl) rfl rfl nilm95_Uint32 h) ?_
  refine AD.op [18] rfl (by kernel_rfl) rfl rfl (fun _ _ h => AOp.move rfl rfl (ltb rfl) rfl h) ?_
  refine AD.done ?_
  refine AO.op rfl (AOp.inlE [] (EntersS.meth (by kernel_rfl) rfl rfl rfl meth95_Uint32 rfl rfl) Tryd.func95 rfl Tryd.ntmps95 rfl (ltb rfl) (leb rfl) rfl ?_)
  intro fr171
  refine AC.seq ?_
  refine AC.region ?_
  refine AO.op rfl (AOp.box rfl rfl (ltb rfl) rfl rfl ?_)
  refine AO.op rfl (AOp.assign rfl rfl (ltb rfl) rfl ?_)
  refine AO.objs (obs' := [.fix 24 [.d (.v (.slice none 0 0))], .fix 3 [.d (di .i64 (0 : Int))], .fix 4 [.d (dbool false)], .dead, .fix 71 [.d (eS0 a0), .d (di .i64 ((m150 : Nat) : Int)), .d (di .i8 g155)], .dead, .frame fr137 [(6, .ptr 0 0), (7, .ptr 1 0), (8, .ptr 2 0), (9, .ptr 4 0)], .frame fr138 [(0, .ifc 54 (.ptr 4 0)), (1, .ifc 95 (.ag [])), (2, .d (di .i64 a2))], .fix 102 (List.map (fun z => SV.d (keS0 z)) c152), .dead, .dead, .dead, .dead, .frame fr171 [], .fix 95 []]) rfl ?_
  refine AO.nil ?_
  change AC _ _ _ _
  refine AC.seq ?_
  refine AC.region ?_
  refine AO.op rfl (AOp.move rfl rfl (ltb rfl) rfl ?_)
  obtain ⟨q172, h0⟩ := need_elim h0
  refine AO.op rfl (AOp.indexSl rfl rfl (ltb rfl) rfl rfl el22 q172.1 q172.2 ?_)
  obtain ⟨x173, q174, h0⟩ := idx_elim h0
  refine AO.op rfl (AOp.load1 rfl rfl (ltb rfl) rfl agg5 rfl (atO (f := fun z => SV.d (keS0 z)) q174.2) ?_)
  refine AO.nil ?_
  change AC _ _ _ _
  refine AC.seq ?_
  refine AC.draw 23 mixed (by kernel_rfl) ?_
  refine AD.op [1] rfl (by kernel_rfl) rfl rfl (fun _ _ h => AOp.move rfl rfl (ltb rfl) rfl h) ?_
  obtain ⟨q175, h0⟩ := need_elim h0
  refine AD.op [8] rfl (by kernel_rfl) rfl rfl (fun _ _ h => AOp.indexSl rfl rfl (ltb rfl) rfl rfl el22 q175.1 q175.2 h) ?_
  obtain ⟨x176, q177, h0⟩ := idx_elim h0
  refine AD.op [9] rfl (by kernel_rfl) rfl rfl (fun _ _ h => AOp.load1 rfl rfl (ltb rfl) rfl agg5 rfl (atO (f := fun z => SV.d (keS0 z)) q177.2) h) ?_
  refine AD.op [10] rfl (by kernel_rfl) rfl rfl (fun _ _ h => AOp.i2i rfl rfl (ltb rfl) rfl Tryd.underlying5 Tryd.underlying43 rfl h) ?_
  refine AD.op [1] rfl (by kernel_rfl) rfl rfl (fun _ _ h => AOp.move rfl rfl (ltb rfl) rfl h) ?_
  obtain ⟨q178, h0⟩ := need_elim h0
  refine AD.op [12] rfl (by kernel_rfl) rfl rfl (fun _ _ h => AOp.indexSl rfl rfl (ltb rfl) rfl rfl el22 q178.1 q178.2 h) ?_
  obtain ⟨x179, q180, h0⟩ := idx_elim h0
  refine AD.op [13] rfl (by kernel_rfl) rfl rfl (fun _ _ h => AOp.load1 rfl rfl (ltb rfl) rfl agg5 rfl (atO (f := fun z => SV.d (keS0 z)) q180.2) h) ?_
  refine AD.op [14] rfl (by kernel_rfl) rfl rfl (fun _ _ h => AOp.i2i rfl rfl (ltb rfl) rfl Tryd.underlying5 Tryd.underlying43 rfl h) ?_
  refine AD.op [15] rfl (by kernel_rfl) rfl rfl (fun _ _ h => AOp.ishl (n := 8) rfl rfl (ltb rfl) rfl rfl (by decide) rfl h) ?_
  refine AD.op [11, 16] rfl (by kernel_rfl) rfl rfl (fun _ _ h => AOp.ibits (by simp) rfl rfl (ltb rfl) rfl rfl rfl h) ?_
  refine AD.op [1] rfl (by kernel_rfl) rfl rfl (fun _ _ h => AOp.move rfl rfl (ltb rfl) rfl h) ?_
  obtain ⟨q181, h0⟩ := need_elim h0
  refine AD.op [18] rfl (by kernel_rfl) rfl rfl (fun _ _ h => AOp.indexSl rfl rfl (ltb rfl) rfl rfl el22 q181.1 q181.2 h) ?_
  obtain ⟨x182, q183, h0⟩ := idx_elim h0
  refine AD.op [19] rfl (by kernel_rfl) rfl rfl (fun _ _ h => AOp.load1 rfl rfl (ltb rfl) rfl agg5 rfl (atO (f := fun z => SV.d (keS0 z)) q183.2) h) ?_
  refine AD.op [20] rfl (by kernel_rfl) rfl rfl (fun _ _ h => AOp.i2i rfl rfl (ltb rfl) rfl Tryd.underlying5 Tryd.underlying43 rfl h) ?_
  refine AD.op [21] rfl (by kernel_rfl) rfl rfl (fun _ _ h => AOp.ishl (n := 16) rfl rfl (ltb rfl) rfl rfl (by decide) rfl h) ?_
  refine AD.op [17, 22] rfl (by kernel_rfl) rfl rfl (fun _ _ h => AOp.ibits (by simp) rfl rfl (ltb rfl) rfl rfl rfl h) ?_
  refine AD.op [1] rfl (by kernel_rfl) rfl rfl (fun _ _ h => AOp.move rfl rfl (ltb rfl) rfl h) ?_
  obtain ⟨q184, h0⟩ := need_elim h0
  refine AD.op [24] rfl (by kernel_rfl) rfl rfl (fun _ _ h => AOp.indexSl rfl rfl (ltb rfl) rfl rfl el22 q184.1 q184.2 h) ?_
  obtain ⟨x185, q186, h0⟩ := idx_elim h0
  refine AD.op [25] rfl (by kernel_rfl) rfl rfl (fun _ _ h => AOp.load1 rfl rfl (ltb rfl) rfl agg5 rfl (atO (f := fun z => SV.d (keS0 z)) q186.2) h) ?_
  refine AD.op [26] rfl (by kernel_rfl) rfl rfl (fun _ _ h => AOp.i2i rfl rfl (ltb rfl) rfl Tryd.underlying5 Tryd.underlying43 rfl h) ?_
  refine AD.op [27] rfl (by kernel_rfl) rfl rfl (fun _ _ h => AOp.ishl (n := 24) rfl rfl (ltb rfl) rfl rfl (by decide) rfl h) ?_
  refine AD.op [23, 28] rfl (by kernel_rfl) rfl rfl (fun _ _ h => AOp.ibits (by simp) rfl rfl (ltb rfl) rfl rfl rfl h) ?_
  refine AD.op [29] rfl (by kernel_rfl) rfl rfl (fun _ _ h => AOp.assign rfl rfl (ltb rfl) rfl h) ?_
  refine AD.done ?_
  refine AO.nil ?_
  change AC _ _ _ _
  refine AC.ret ?_
  refine inlret (ob' := [.fix 24 [.d (.v (.slice none 0 0))], .fix 3 [.d (di .i64 (0 : Int))], .fix 4 [.d (dbool false)], .dead, .fix 71 [.d (eS0 a0), .d (di .i64 ((m150 : Nat) : Int)), .d (di .i8 g155)], .dead, .frame fr137 [(6, .ptr 0 0), (7, .ptr 1 0), (8, .ptr 2 0), (9, .ptr 4 0)], .frame fr138 [(0, .ifc 54 (.ptr 4 0)), (1, .ifc 95 (.ag [])), (2, .d (di .i64 a2))], .fix 102 (List.map (fun z => SV.d (keS0 z)) c152), .dead, .dead, .dead, .dead, .dead, .fix 95 []]) (e' := []) (r := .d (di .u32 (bits .or .u32 (bits .or .u32 (bits .or .u32 (IntKind.u32.wrap x176) (IntKind.u32.wrap ((IntKind.u32.wrap x179) * 2 ^ 8))) (IntKind.u32.wrap ((IntKind.u32.wrap x182) * 2 ^ 16))) (IntKind.u32.wrap ((IntKind.u32.wrap x185) * 2 ^ 24))))) rfl rfl rfl ?_
  change AO _ _ _ _ _
  refine AO.op rfl (AOp.assign rfl rfl (ltb rfl) rfl ?_)
  refine AO.op rfl (AOp.assign rfl rfl (ltb rfl) rfl ?_)
  refine AO.objs (obs' := [.fix 24 [.d (.v (.slice none 0 0))], .fix 3 [.d (di .i64 (0 : Int))], .fix 4 [.d (dbool false)], .dead, .fix 71 [.d (eS0 a0), .d (di .i64 ((m150 : Nat) : Int)), .d (di .i8 g155)], .dead, .frame fr137 [(6, .ptr 0 0), (7, .ptr 1 0), (8, .ptr 2 0), (9, .ptr 4 0)], .frame fr138 [(0, .ifc 54 (.ptr 4 0)), (1, .ifc 95 (.ag [])), (2, .d (di .i64 a2))], .fix 102 (List.map (fun z => SV.d (keS0 z)) c152), .dead, .dead, .dead, .dead, .dead, .fix 95 []]) rfl ?_
  refine AO.nil ?_
  change AC _ _ _ _
  refine AC.ret ?_
  refine inlret (ob' := [.fix 24 [.d (.v (.slice none 0 0))], .fix 3 [.d (di .i64 (0 : Int))], .fix 4 [.d (dbool false)], .dead, .fix 71 [.d (eS0 a0), .d (di .i64 ((m150 : Nat) : Int)), .d (di .i8 g155)], .dead, .frame fr137 [(6, .ptr 0 0), (7, .ptr 1 0), (8, .ptr 2 0), (9, .ptr 4 0)], .dead, .fix 102 (List.map (fun z => SV.d (keS0 z)) c152), .dead, .dead, .dead, .dead, .dead, .fix 95 []]) (e' := [(0, .ifc 54 (.ptr 4 0)), (1, .ifc 95 (.ag [])), (2, .d (di .i64 a2))]) (r := .tu [.d (di .u32 (bits .or .u32 (bits .or .u32 (bits .or .u32 (IntKind.u32.wrap x176) (IntKind.u32.wrap ((IntKind.u32.wrap x179) * 2 ^ 8))) (IntKind.u32.wrap ((IntKind.u32.wrap x182) * 2 ^ 16))) (IntKind.u32.wrap ((IntKind.u32.wrap x185) * 2 ^ 24)))), .d (.v (.nilIface))]) rfl rfl rfl ?_
  change AO _ _ _ _ _
  refine AO.op rfl (AOp.move rfl rfl (ltb rfl) rfl ?_)
  first | refine AO.op rfl (AOp.extractD rfl rfl (ltb rfl) rfl rfl ?_) | refine AO.op rfl (AOp.extract rfl rfl (ltb rfl) rfl rfl ?_)
  first | refine AO.op rfl (AOp.extractD rfl rfl (ltb rfl) rfl rfl ?_) | refine AO.op rfl (AOp.extract rfl rfl (ltb rfl) rfl rfl ?_)
  refine AO.op rfl (AOp.assign rfl rfl (ltb rfl) rfl ?_)
  refine AO.op rfl (AOp.assign rfl rfl (ltb rfl) rfl ?_)
  refine AO.objs (obs' := [.fix 24 [.d (.v (.slice none 0 0))], .fix 3 [.d (di .i64 (0 : Int))], .fix 4 [.d (dbool false)], .dead, .fix 71 [.d (eS0 a0), .d (di .i64 ((m150 : Nat) : Int)), .d (di .i8 g155)], .dead, .frame fr137 [(6, .ptr 0 0), (7, .ptr 1 0), (8, .ptr 2 0), (9, .ptr 4 0)], .dead, .fix 102 (List.map (fun z => SV.d (keS0 z)) c152), .dead, .dead, .dead, .dead, .dead, .fix 95 []]) rfl ?_
  refine AO.nil ?_
  change AC _ _ _ _
  refine AC.seq ?_
  refine AC.seq ?_
  refine AC.region ?_
  refine AO.op rfl (AOp.move rfl rfl (ltb rfl) rfl ?_)
  refine AO.op rfl (AOp.nilNeq rfl rfl (ltb rfl) rfl imeth57 ?_)
  refine AO.nil ?_
  change AC _ _ _ _
  refine AC.condF rfl rfl ?_
  refine AC.skip ?_
  change AC _ _ _ _
  refine AC.seq ?_
  refine AC.seq ?_
  refine AC.region ?_
  refine AO.op rfl (AOp.indexG rfl rfl (ltb rfl) rfl ar89 (by decide) (by decide) ?_)
  refine AO.op rfl (AOp.loadGA (g := 0) (k := 1) (v := .int .i64 (-1)) rfl rfl (ltb rfl) rfl rfl agg3 (by simp [Globs]) (by decide) ?_)
  refine AO.op rfl (AOp.assign rfl rfl (ltb rfl) rfl ?_)
  refine AO.nil ?_
  change AC _ _ _ _
  refine AC.seq ?_
  refine AC.region ?_
  refine AO.op rfl (AOp.move rfl rfl (ltb rfl) rfl ?_)
  refine AO.op rfl (AOp.igeq rfl rfl (ltb rfl) rfl rfl ?_)
  refine AO.op rfl (AOp.move rfl rfl (ltb rfl) rfl ?_)
  refine AO.guardN rfl rfl rfl (ltb rfl) rfl rfl ?_
  refine AO.guardN rfl rfl rfl (ltb rfl) rfl rfl ?_
  refine AO.guardN rfl rfl rfl (ltb rfl) rfl rfl ?_
  refine AO.guardN rfl rfl rfl (ltb rfl) rfl rfl ?_
  refine AO.op rfl (AOp.pickN rfl rfl (ltb rfl) rfl rfl rfl ?_)
  refine AO.nil ?_
  change AC _ _ _ _
  refine AC.condF rfl rfl ?_
  refine AC.skip ?_
  change AC _ _ _ _
  refine AC.seq ?_
  refine AC.region ?_
  refine AO.op rfl (AOp.move rfl rfl (ltb rfl) rfl ?_)
  obtain ⟨v187, q188, h0⟩ := bind_elim h0
  refine AO.op rfl (AOp.i2i rfl rfl (ltb rfl) rfl Tryd.underlying43 Tryd.underlying3 (Option.some.inj q188) ?_)
  refine AO.op rfl (AOp.move rfl rfl (ltb rfl) rfl ?_)
  obtain ⟨q189, h0⟩ := need_elim h0
  refine AO.op rfl (AOp.imul rfl rfl (ltb rfl) rfl rfl rfl q189.1 q189.2 ?_)
  obtain ⟨q190, h0⟩ := need_elim h0
  refine AO.op rfl (AOp.makeL (f := fun z => SV.d (keS1 z)) (z0 := (0 : Nat)) rfl rfl (ltb rfl) rfl rfl el24 info63 rfl rfl (by decide) q190.1 q190.2 rfl ?_)
  refine AO.op rfl (AOp.assign rfl rfl (ltb rfl) rfl ?_)
  refine AO.nil ?_
  change AC _ _ _ _
  refine AC.seq ?_
  refine AC.seq ?_
  refine AC.region ?_
  refine AO.op rfl (AOp.move rfl rfl (ltb rfl) rfl ?_)
  refine AO.op rfl (AOp.move rfl rfl (ltb rfl) rfl ?_)
  refine AO.op rfl (AOp.move rfl rfl (ltb rfl) rfl ?_)
  refine AO.op rfl (AOp.inl [11] (by kernel_rfl) Tryd.func39 rfl Tryd.ntmps39 rfl rfl (ltb rfl) rfl (leb rfl) rfl ?_)
  intro fr191
  refine AC.seq ?_
  refine AC.region ?_
  refine AO.op rfl (AOp.assign rfl rfl (ltb rfl) rfl ?_)
  refine AO.objs (obs' := [.fix 24 [.d (.v (.slice none 0 0))], .fix 3 [.d (di .i64 (0 : Int))], .fix 4 [.d (dbool false)], .dead, .fix 71 [.d (eS0 a0), .d (di .i64 ((m150 : Nat) : Int)), .d (di .i8 g155)], .dead, .frame fr137 [(6, .ptr 0 0), (7, .ptr 1 0), (8, .ptr 2 0), (9, .ptr 4 0)], .dead, .fix 102 (List.map (fun z => SV.d (keS0 z)) c152), .dead, .dead, .dead, .dead, .dead, .fix 95 [], .fix 63 (List.map (fun z => SV.d (keS1 z)) (List.replicate ((v187 * a2)).toNat (0 : Nat))), .frame fr191 [(11, .sl 15 1 0 (((v187 * a2)).toNat) (((v187 * a2)).toNat))]]) rfl ?_
  refine AO.nil ?_
  change AC _ _ _ _
  refine AC.seq ?_
  refine AC.region ?_
  refine AO.op rfl (AOp.move rfl rfl (ltb rfl) rfl ?_)
  refine AO.op rfl (AOp.lenSl rfl rfl (ltb rfl) rfl el24 ?_)
  obtain ⟨q192, h0⟩ := need_elim h0
  refine AO.op rfl (AOp.imul rfl rfl (ltb rfl) rfl rfl rfl q192.1 q192.2 ?_)
  obtain ⟨q193, h0⟩ := need_elim h0
  refine AO.op rfl (AOp.makeL (f := fun z => SV.d (keS0 z)) (z0 := (0 : Int)) rfl rfl (ltb rfl) rfl rfl el22 info5 rfl rfl (by decide) q193.1 q193.2 rfl ?_)
  refine AO.op rfl (AOp.assign rfl rfl (ltb rfl) rfl ?_)
  refine AO.nil ?_
  change AC _ _ _ _
  refine AC.seq ?_
  refine AC.seq ?_
  refine AC.region ?_
  refine AO.op rfl (AOp.move rfl rfl (ltb rfl) rfl ?_)
  refine AO.op rfl (AOp.move rfl rfl (ltb rfl) rfl ?_)
  refine AO.op rfl (AOp.inl [1, 2, 7] (by kernel_rfl) Tryd.func45 rfl Tryd.ntmps45 rfl rfl (ltb rfl) rfl (leb rfl) rfl ?_)
  intro fr194
  refine AC.seq ?_
  refine AC.region ?_
  refine AO.op rfl (AOp.assign rfl rfl (ltb rfl) rfl ?_)
  refine AO.op rfl (AOp.assign rfl rfl (ltb rfl) rfl ?_)
  refine AO.objs (obs' := [.fix 24 [.d (.v (.slice none 0 0))], .fix 3 [.d (di .i64 (0 : Int))], .fix 4 [.d (dbool false)], .dead, .fix 71 [.d (eS0 a0), .d (di .i64 ((m150 : Nat) : Int)), .d (di .i8 g155)], .dead, .frame fr137 [(6, .ptr 0 0), (7, .ptr 1 0), (8, .ptr 2 0), (9, .ptr 4 0)], .dead, .fix 102 (List.map (fun z => SV.d (keS0 z)) c152), .dead, .dead, .dead, .dead, .dead, .fix 95 [], .fix 63 (List.map (fun z => SV.d (keS1 z)) (List.replicate ((v187 * a2)).toNat (0 : Nat))), .frame fr191 [(11, .sl 15 1 0 (((v187 * a2)).toNat) (((v187 * a2)).toNat))], .fix 5 (List.map (fun z => SV.d (keS0 z)) (List.replicate (((8 : Int) * ((((v187 * a2)).toNat : Nat) : Int))).toNat (0 : Int))), .frame fr194 [(1, .ifc 95 (.ag [])), (2, .sl 15 1 0 (((v187 * a2)).toNat) (((v187 * a2)).toNat)), (7, .sl 17 1 0 ((((8 : Int) * ((((v187 * a2)).toNat : Nat) : Int))).toNat) ((((8 : Int) * ((((v187 * a2)).toNat : Nat) : Int))).toNat))]]) rfl ?_
  refine AO.nil ?_
  change AC _ _ _ _
  refine AC.seq ?_
  refine AC.region ?_
  refine AO.op rfl (AOp.move rfl rfl (ltb rfl) rfl ?_)
  refine AO.op rfl (AOp.move rfl rfl (ltb rfl) rfl ?_)
  refine AO.op rfl (AOp.move rfl rfl (ltb rfl) rfl ?_)
  refine AO.op rfl (AOp.lenSl rfl rfl (ltb rfl) rfl el22 ?_)
  refine AO.op rfl (AOp.inl [4, 5] (by kernel_rfl) Tryd.func53 rfl Tryd.ntmps53 rfl rfl (ltb rfl) rfl (leb rfl) rfl ?_)
  intro fr195
  refine AC.seq ?_
  refine AC.region ?_
  refine AO.op rfl (AOp.assign rfl rfl (ltb rfl) rfl ?_)
  refine AO.op rfl (AOp.assign rfl rfl (ltb rfl) rfl ?_)
  refine AO.objs (obs' := [.fix 24 [.d (.v (.slice none 0 0))], .fix 3 [.d (di .i64 (0 : Int))], .fix 4 [.d (dbool false)], .dead, .fix 71 [.d (eS0 a0), .d (di .i64 ((m150 : Nat) : Int)), .d (di .i8 g155)], .dead, .frame fr137 [(6, .ptr 0 0), (7, .ptr 1 0), (8, .ptr 2 0), (9, .ptr 4 0)], .dead, .fix 102 (List.map (fun z => SV.d (keS0 z)) c152), .dead, .dead, .dead, .dead, .dead, .fix 95 [], .fix 63 (List.map (fun z => SV.d (keS1 z)) (List.replicate ((v187 * a2)).toNat (0 : Nat))), .frame fr191 [(11, .sl 15 1 0 (((v187 * a2)).toNat) (((v187 * a2)).toNat))], .fix 5 (List.map (fun z => SV.d (keS0 z)) (List.replicate (((8 : Int) * ((((v187 * a2)).toNat : Nat) : Int))).toNat (0 : Int))), .frame fr194 [(1, .ifc 95 (.ag [])), (2, .sl 15 1 0 (((v187 * a2)).toNat) (((v187 * a2)).toNat)), (7, .sl 17 1 0 ((((8 : Int) * ((((v187 * a2)).toNat : Nat) : Int))).toNat) ((((8 : Int) * ((((v187 * a2)).toNat : Nat) : Int))).toNat))], .frame fr195 [(4, .d (di .i64 (0 : Int))), (5, .d (.v (.nilIface)))]]) rfl ?_
  refine AO.nil ?_
  change AC _ _ _ _
  refine AC.seq ?_
  refine AC.seq ?_
  refine AC.region ?_
  refine AO.op rfl (AOp.move rfl rfl (ltb rfl) rfl ?_)
  refine AO.op rfl (AOp.lenSl rfl rfl (ltb rfl) rfl el22 ?_)
  refine AO.op rfl (AOp.move rfl rfl (ltb rfl) rfl ?_)
  refine AO.op rfl (AOp.ilss rfl rfl (ltb rfl) rfl rfl ?_)
  refine AO.nil ?_
  change AC _ _ _ _
  refine AC.condF rfl (dlt_self _) ?_
  refine AC.skip ?_
  change AC _ _ _ _
  refine AC.seq ?_
  refine AC.block ?_
  refine AC.loopU ?_
  refine ACL.round ?_
  refine AC.seq ?_
  refine AC.seq ?_
  refine AC.region ?_
  refine AO.op rfl (AOp.move rfl rfl (ltb rfl) rfl ?_)
  refine AO.op rfl (AOp.move rfl rfl (ltb rfl) rfl ?_)
  refine AO.op rfl (AOp.ilss rfl rfl (ltb rfl) rfl rfl ?_)
  refine AO.op rfl (AOp.move rfl rfl (ltb rfl) rfl ?_)
  refine AO.dec (decide ((0 : Int) < (((((8 : Int) * ((((v187 * a2)).toNat : Nat) : Int))).toNat : Nat) : Int))) (fun q196 => ?_) (fun q196 => ?_)
  · replace h0 := cT h0 q196
    refine AO.guardY rfl rfl rfl q196 (AOp.move rfl rfl (ltb rfl) rfl ?_)
    refine AO.guardY rfl rfl rfl q196 (AOp.nilEq rfl rfl (ltb rfl) rfl imeth57 ?_)
    refine AO.op rfl (AOp.pick rfl rfl (ltb rfl) rfl q196 rfl ?_)
    refine AO.nil ?_
    change AC _ _ _ _
    refine AC.condT rfl rfl ?_
    refine AC.skip ?_
    change AC _ _ _ _
    refine AC.block ?_
    refine AC.seq ?_
    refine AC.region ?_
    refine AO.op rfl (AOp.assign rfl rfl (ltb rfl) rfl ?_)
    refine AO.nil ?_
    change AC _ _ _ _
    refine AC.seq ?_
    refine AC.drawC 7 mixed (by kernel_rfl) rfl ?_
    refine AD.op [0] rfl (by kernel_rfl) rfl rfl (fun _ _ h => AOp.move rfl rfl (ltb rfl) rfl h) ?_
    refine AD.op [1] rfl (by kernel_rfl) rfl rfl (fun _ _ h => AOp.move rfl rfl (ltb rfl) rfl h) ?_
    refine AD.op [6] rfl (by kernel_rfl) rfl rfl (fun _ _ h => AOp.move rfl rfl (ltb rfl) rfl h) ?_
    refine AD.op [23, 24] rfl (by kernel_rfl) rfl rfl (fun _ _ h => AOp.sliceSl0 rfl rfl (ltb rfl) rfl rfl el22 h) ?_
    refine AD.op [22] rfl (by kernel_rfl) rfl rfl (fun _ _ h => AOp.makeMeth rfl rfl (ltb rfl) rfl h) ?_
    refine AD.op [26] rfl (by kernel_rfl) rfl rfl (fun _ _ h => AOp.nilMeth rfl rfl (ltb rfl) rfl rfl nilm54_Read h) ?_
    refine AD.op [22] rfl (by kernel_rfl) rfl rfl (fun _ _ h => AOp.move rfl rfl (ltb rfl) rfl h) ?_
    refine AD.done ?_
    refine AO.op rfl (AOp.inlE [0, 1, 2, 6, 7, 8] (EntersS.meth (by kernel_rfl) rfl rfl rfl meth54_Read rfl rfl) Tryd.func71 rfl Tryd.ntmps71 rfl (ltb rfl) (leb rfl) rfl ?_)
    intro fr197
    refine AC.seq ?_
    refine AC.region ?_
    refine AO.op rfl (AOp.assign rfl rfl (ltb rfl) rfl ?_)
    refine AO.op rfl (AOp.assign rfl rfl (ltb rfl) rfl ?_)
    refine AO.objs (obs' := [.fix 24 [.d (.v (.slice none 0 0))], .fix 3 [.d (di .i64 (0 : Int))], .fix 4 [.d (dbool false)], .dead, .fix 71 [.d (eS0 a0), .d (di .i64 ((m150 : Nat) : Int)), .d (di .i8 g155)], .dead, .frame fr137 [(6, .ptr 0 0), (7, .ptr 1 0), (8, .ptr 2 0), (9, .ptr 4 0)], .dead, .fix 102 (List.map (fun z => SV.d (keS0 z)) c152), .dead, .dead, .dead, .dead, .dead, .fix 95 [], .fix 63 (List.map (fun z => SV.d (keS1 z)) (List.replicate ((v187 * a2)).toNat (0 : Nat))), .frame fr191 [(11, .sl 15 1 0 (((v187 * a2)).toNat) (((v187 * a2)).toNat))], .fix 5 (List.map (fun z => SV.d (keS0 z)) (List.replicate (((8 : Int) * ((((v187 * a2)).toNat : Nat) : Int))).toNat (0 : Int))), .frame fr194 [(1, .ifc 95 (.ag [])), (2, .sl 15 1 0 (((v187 * a2)).toNat) (((v187 * a2)).toNat)), (7, .sl 17 1 0 ((((8 : Int) * ((((v187 * a2)).toNat : Nat) : Int))).toNat) ((((8 : Int) * ((((v187 * a2)).toNat : Nat) : Int))).toNat))], .frame fr195 [(4, .d (di .i64 (0 : Int))), (5, .d (.v (.nilIface)))], .frame fr197 [(0, .ifc 54 (.ptr 4 0)), (1, .sl 17 1 0 ((((8 : Int) * ((((v187 * a2)).toNat : Nat) : Int))).toNat) ((((8 : Int) * ((((v187 * a2)).toNat : Nat) : Int))).toNat)), (2, .d (di .i64 (((((8 : Int) * ((((v187 * a2)).toNat : Nat) : Int))).toNat : Nat) : Int))), (6, .d (di .i64 (0 : Int))), (7, .d (.v (.nilIface))), (8, .d (di .i64 (0 : Int)))]]) rfl ?_
    refine AO.nil ?_
    change AC _ _ _ _
    refine AC.seq ?_
    refine AC.region ?_
    refine AO.op rfl (AOp.move rfl rfl (ltb rfl) rfl ?_)
    refine AO.op rfl (AOp.nilCheck rfl rfl (ltb rfl) rfl rfl ?_)
    refine AO.op rfl (AOp.fieldAddr rfl rfl (ltb rfl) rfl fo71_2 ?_)
    refine AO.op rfl (AOp.store rfl rfl rfl rfl size69 rfl rfl rfl (leb rfl) ?_)
    refine AO.nil ?_
    change AC _ _ _ _
    refine AC.seq ?_
    refine AC.seq ?_
    refine AC.region ?_
    refine AO.op rfl (AOp.move rfl rfl (ltb rfl) rfl ?_)
    refine AO.op rfl (AOp.inl [0, 1] (by kernel_rfl) Tryd.func75 rfl Tryd.ntmps75 rfl rfl (ltb rfl) rfl (leb rfl) rfl ?_)
    intro fr198
    refine AC.seq ?_
    refine AC.region ?_
    refine AO.op rfl (AOp.assign rfl rfl (ltb rfl) rfl ?_)
    refine AO.objs (obs' := [.fix 24 [.d (.v (.slice none 0 0))], .fix 3 [.d (di .i64 (0 : Int))], .fix 4 [.d (dbool false)], .dead, .fix 71 [.d (eS0 a0), .d (di .i64 ((m150 : Nat) : Int)), .d (di .i8 (0 : Int))], .dead, .frame fr137 [(6, .ptr 0 0), (7, .ptr 1 0), (8, .ptr 2 0), (9, .ptr 4 0)], .dead, .fix 102 (List.map (fun z => SV.d (keS0 z)) c152), .dead, .dead, .dead, .dead, .dead, .fix 95 [], .fix 63 (List.map (fun z => SV.d (keS1 z)) (List.replicate ((v187 * a2)).toNat (0 : Nat))), .frame fr191 [(11, .sl 15 1 0 (((v187 * a2)).toNat) (((v187 * a2)).toNat))], .fix 5 (List.map (fun z => SV.d (keS0 z)) (List.replicate (((8 : Int) * ((((v187 * a2)).toNat : Nat) : Int))).toNat (0 : Int))), .frame fr194 [(1, .ifc 95 (.ag [])), (2, .sl 15 1 0 (((v187 * a2)).toNat) (((v187 * a2)).toNat)), (7, .sl 17 1 0 ((((8 : Int) * ((((v187 * a2)).toNat : Nat) : Int))).toNat) ((((8 : Int) * ((((v187 * a2)).toNat : Nat) : Int))).toNat))], .frame fr195 [(4, .d (di .i64 (0 : Int))), (5, .d (.v (.nilIface)))], .frame fr197 [(0, .ifc 54 (.ptr 4 0)), (1, .sl 17 1 0 ((((8 : Int) * ((((v187 * a2)).toNat : Nat) : Int))).toNat) ((((8 : Int) * ((((v187 * a2)).toNat : Nat) : Int))).toNat)), (2, .d (di .i64 (((((8 : Int) * ((((v187 * a2)).toNat : Nat) : Int))).toNat : Nat) : Int))), (6, .d (di .i64 (0 : Int))), (7, .d (.v (.nilIface))), (8, .d (di .i64 (0 : Int)))], .frame fr198 [(0, .ptr 4 0), (1, .sl 17 1 0 ((((8 : Int) * ((((v187 * a2)).toNat : Nat) : Int))).toNat) ((((8 : Int) * ((((v187 * a2)).toNat : Nat) : Int))).toNat))]]) rfl ?_
    refine AO.nil ?_
    change AC _ _ _ _
    refine AC.seq ?_
    refine AC.draw 11 mixed (by kernel_rfl) ?_
    refine AD.op [0] rfl (by kernel_rfl) rfl rfl (fun _ _ h => AOp.move rfl rfl (ltb rfl) rfl h) ?_
    refine AD.op [3] rfl (by kernel_rfl) rfl rfl (fun _ _ h => AOp.nilCheck rfl rfl (ltb rfl) rfl rfl h) ?_
    refine AD.op [4] rfl (by kernel_rfl) rfl rfl (fun _ _ h => AOp.fieldAddr rfl rfl (ltb rfl) rfl fo71_0 h) ?_
    refine AD.op [5] rfl (by kernel_rfl) rfl rfl (fun _ _ h => AOp.load1 rfl rfl (ltb rfl) rfl agg22 rfl rfl h) ?_
    refine AD.op [6] rfl (by kernel_rfl) rfl rfl (fun _ _ h => AOp.lenDs (n := a0.length) (cells := (List.map keS0 a0)) rfl rfl (ltb rfl) rfl el22 (by decide) (len1 _ _) h) ?_
    refine AD.op [0] rfl (by kernel_rfl) rfl rfl (fun _ _ h => AOp.move rfl rfl (ltb rfl) rfl h) ?_
    refine AD.op [8] rfl (by kernel_rfl) rfl rfl (fun _ _ h => AOp.nilCheck rfl rfl (ltb rfl) rfl rfl h) ?_
    refine AD.op [9] rfl (by kernel_rfl) rfl rfl (fun _ _ h => AOp.fieldAddr rfl rfl (ltb rfl) rfl fo71_1 h) ?_
    refine AD.op [10] rfl (by kernel_rfl) rfl rfl (fun _ _ h => AOp.load1 rfl rfl (ltb rfl) rfl agg3 rfl rfl h) ?_
    refine AD.op [7, 11] rfl (by kernel_rfl) rfl rfl (fun _ _ h => AOp.ileq rfl rfl (ltb rfl) rfl rfl h) ?_
    refine AD.op [12] rfl (by kernel_rfl) rfl rfl (fun _ _ h => AOp.assign rfl rfl (ltb rfl) rfl h) ?_
    refine AD.done ?_
    refine AO.nil ?_
    change AC _ _ _ _
    refine AC.ret ?_
    refine inlret (ob' := [.fix 24 [.d (.v (.slice none 0 0))], .fix 3 [.d (di .i64 (0 : Int))], .fix 4 [.d (dbool false)], .dead, .fix 71 [.d (eS0 a0), .d (di .i64 ((m150 : Nat) : Int)), .d (di .i8 (0 : Int))], .dead, .frame fr137 [(6, .ptr 0 0), (7, .ptr 1 0), (8, .ptr 2 0), (9, .ptr 4 0)], .dead, .fix 102 (List.map (fun z => SV.d (keS0 z)) c152), .dead, .dead, .dead, .dead, .dead, .fix 95 [], .fix 63 (List.map (fun z => SV.d (keS1 z)) (List.replicate ((v187 * a2)).toNat (0 : Nat))), .frame fr191 [(11, .sl 15 1 0 (((v187 * a2)).toNat) (((v187 * a2)).toNat))], .fix 5 (List.map (fun z => SV.d (keS0 z)) (List.replicate (((8 : Int) * ((((v187 * a2)).toNat : Nat) : Int))).toNat (0 : Int))), .frame fr194 [(1, .ifc 95 (.ag [])), (2, .sl 15 1 0 (((v187 * a2)).toNat) (((v187 * a2)).toNat)), (7, .sl 17 1 0 ((((8 : Int) * ((((v187 * a2)).toNat : Nat) : Int))).toNat) ((((8 : Int) * ((((v187 * a2)).toNat : Nat) : Int))).toNat))], .frame fr195 [(4, .d (di .i64 (0 : Int))), (5, .d (.v (.nilIface)))], .frame fr197 [(0, .ifc 54 (.ptr 4 0)), (1, .sl 17 1 0 ((((8 : Int) * ((((v187 * a2)).toNat : Nat) : Int))).toNat) ((((8 : Int) * ((((v187 * a2)).toNat : Nat) : Int))).toNat)), (2, .d (di .i64 (((((8 : Int) * ((((v187 * a2)).toNat : Nat) : Int))).toNat : Nat) : Int))), (6, .d (di .i64 (0 : Int))), (7, .d (.v (.nilIface))), (8, .d (di .i64 (0 : Int)))], .dead]) (e' := [(0, .ptr 4 0), (1, .sl 17 1 0 ((((8 : Int) * ((((v187 * a2)).toNat : Nat) : Int))).toNat) ((((8 : Int) * ((((v187 * a2)).toNat : Nat) : Int))).toNat))]) (r := .d (dbool (decide (((a0.length : Nat) : Int) ≤ ((m150 : Nat) : Int))))) rfl rfl rfl ?_
    change AO _ _ _ _ _
    refine AO.objs (obs' := [.fix 24 [.d (.v (.slice none 0 0))], .fix 3 [.d (di .i64 (0 : Int))], .fix 4 [.d (dbool false)], .dead, .fix 71 [.d (eS0 a0), .d (di .i64 ((m150 : Nat) : Int)), .d (di .i8 (0 : Int))], .dead, .frame fr137 [(6, .ptr 0 0), (7, .ptr 1 0), (8, .ptr 2 0), (9, .ptr 4 0)], .dead, .fix 102 (List.map (fun z => SV.d (keS0 z)) c152), .dead, .dead, .dead, .dead, .dead, .fix 95 [], .fix 63 (List.map (fun z => SV.d (keS1 z)) (List.replicate ((v187 * a2)).toNat (0 : Nat))), .frame fr191 [(11, .sl 15 1 0 (((v187 * a2)).toNat) (((v187 * a2)).toNat))], .fix 5 (List.map (fun z => SV.d (keS0 z)) (List.replicate (((8 : Int) * ((((v187 * a2)).toNat : Nat) : Int))).toNat (0 : Int))), .frame fr194 [(1, .ifc 95 (.ag [])), (2, .sl 15 1 0 (((v187 * a2)).toNat) (((v187 * a2)).toNat)), (7, .sl 17 1 0 ((((8 : Int) * ((((v187 * a2)).toNat : Nat) : Int))).toNat) ((((8 : Int) * ((((v187 * a2)).toNat : Nat) : Int))).toNat))], .frame fr195 [(4, .d (di .i64 (0 : Int))), (5, .d (.v (.nilIface)))], .frame fr197 [(0, .ifc 54 (.ptr 4 0)), (1, .sl 17 1 0 ((((8 : Int) * ((((v187 * a2)).toNat : Nat) : Int))).toNat) ((((8 : Int) * ((((v187 * a2)).toNat : Nat) : Int))).toNat)), (2, .d (di .i64 (((((8 : Int) * ((((v187 * a2)).toNat : Nat) : Int))).toNat : Nat) : Int))), (6, .d (di .i64 (0 : Int))), (7, .d (.v (.nilIface))), (8, .d (di .i64 (0 : Int)))], .dead]) rfl ?_
    refine AO.nil ?_
    change AC _ _ _ _
    refine AC.cond rfl (fun q199 => ?_) (fun q199 => ?_)
    · replace h0 := cT h0 q199
      refine AC.seq ?_
      refine AC.region ?_
      refine AO.op rfl (AOp.move rfl rfl (ltb rfl) rfl ?_)
      refine AO.op rfl (AOp.inl [1] (by kernel_rfl) Tryd.func72 rfl Tryd.ntmps72 rfl rfl (ltb rfl) rfl (leb rfl) rfl ?_)
      intro fr200
      refine AC.seq ?_
      refine AC.region ?_
      refine AO.op rfl (AOp.move rfl rfl (ltb rfl) rfl ?_)
      refine AO.op rfl (AOp.move rfl rfl (ltb rfl) rfl ?_)
      refine AO.op rfl (AOp.nilCheck rfl rfl (ltb rfl) rfl rfl ?_)
      refine AO.op rfl (AOp.fieldAddr rfl rfl (ltb rfl) rfl fo71_0 ?_)
      refine AO.op rfl (AOp.load1 rfl rfl (ltb rfl) rfl agg22 rfl rfl ?_)
      obtain ⟨q201, h0⟩ := need_elim h0
      refine AO.op rfl (AOp.sliceD (cells := (List.map keS0 a0)) (n := a0.length) (l := 0) (hh := ((0 : Int)).toNat) rfl rfl (ltb rfl) rfl (.inl ⟨rfl, rfl⟩) (.inr ⟨_, _, _, rfl, rfl, q201.1.2, rfl⟩) el22 (by decide) (len1 _ _) q201.2.1 q201.2.2 (sub1 _ _ _ _) ?_)
      refine AO.op rfl (AOp.nilCheck rfl rfl (ltb rfl) rfl rfl ?_)
      refine AO.op rfl (AOp.fieldAddr rfl rfl (ltb rfl) rfl fo71_0 ?_)
      refine AO.op rfl (AOp.store rfl rfl rfl rfl size22 rfl rfl rfl (leb rfl) ?_)
      refine AO.objs (obs' := [.fix 24 [.d (.v (.slice none 0 0))], .fix 3 [.d (di .i64 (0 : Int))], .fix 4 [.d (dbool false)], .dead, .fix 71 [.d (eS0 ((a0.drop 0).take (((0 : Int)).toNat - 0))), .d (di .i64 ((m150 : Nat) : Int)), .d (di .i8 (0 : Int))], .dead, .frame fr137 [(6, .ptr 0 0), (7, .ptr 1 0), (8, .ptr 2 0), (9, .ptr 4 0)], .dead, .fix 102 (List.map (fun z => SV.d (keS0 z)) c152), .dead, .dead, .dead, .dead, .dead, .fix 95 [], .fix 63 (List.map (fun z => SV.d (keS1 z)) (List.replicate ((v187 * a2)).toNat (0 : Nat))), .frame fr191 [(11, .sl 15 1 0 (((v187 * a2)).toNat) (((v187 * a2)).toNat))], .fix 5 (List.map (fun z => SV.d (keS0 z)) (List.replicate (((8 : Int) * ((((v187 * a2)).toNat : Nat) : Int))).toNat (0 : Int))), .frame fr194 [(1, .ifc 95 (.ag [])), (2, .sl 15 1 0 (((v187 * a2)).toNat) (((v187 * a2)).toNat)), (7, .sl 17 1 0 ((((8 : Int) * ((((v187 * a2)).toNat : Nat) : Int))).toNat) ((((8 : Int) * ((((v187 * a2)).toNat : Nat) : Int))).toNat))], .frame fr195 [(4, .d (di .i64 (0 : Int))), (5, .d (.v (.nilIface)))], .frame fr197 [(0, .ifc 54 (.ptr 4 0)), (1, .sl 17 1 0 ((((8 : Int) * ((((v187 * a2)).toNat : Nat) : Int))).toNat) ((((8 : Int) * ((((v187 * a2)).toNat : Nat) : Int))).toNat)), (2, .d (di .i64 (((((8 : Int) * ((((v187 * a2)).toNat : Nat) : Int))).toNat : Nat) : Int))), (6, .d (di .i64 (0 : Int))), (7, .d (.v (.nilIface))), (8, .d (di .i64 (0 : Int)))], .dead, .frame fr200 [(1, .sl 17 1 0 ((((8 : Int) * ((((v187 * a2)).toNat : Nat) : Int))).toNat) ((((8 : Int) * ((((v187 * a2)).toNat : Nat) : Int))).toNat))]]) rfl ?_
      refine AO.nil ?_
      change AC _ _ _ _
      refine AC.seq ?_
      refine AC.region ?_
      refine AO.op rfl (AOp.move rfl rfl (ltb rfl) rfl ?_)
      refine AO.op rfl (AOp.nilCheck rfl rfl (ltb rfl) rfl rfl ?_)
      refine AO.op rfl (AOp.fieldAddr rfl rfl (ltb rfl) rfl fo71_1 ?_)
      refine AO.op rfl (AOp.store rfl rfl rfl rfl size3 rfl rfl rfl (leb rfl) ?_)
      refine AO.nil ?_
      change AC _ _ _ _
      refine AC.region ?_
      refine AO.op rfl (AOp.move rfl rfl (ltb rfl) rfl ?_)
      refine AO.op rfl (AOp.nilCheck rfl rfl (ltb rfl) rfl rfl ?_)
      refine AO.op rfl (AOp.fieldAddr rfl rfl (ltb rfl) rfl fo71_2 ?_)
      refine AO.op rfl (AOp.store rfl rfl rfl rfl size69 rfl rfl rfl (leb rfl) ?_)
      refine AO.nil ?_
      refine inlend (ob' := [.fix 24 [.d (.v (.slice none 0 0))], .fix 3 [.d (di .i64 (0 : Int))], .fix 4 [.d (dbool false)], .dead, .fix 71 [.d (eS0 ((a0.drop 0).take (((0 : Int)).toNat - 0))), .d (di .i64 (0 : Int)), .d (di .i8 (0 : Int))], .dead, .frame fr137 [(6, .ptr 0 0), (7, .ptr 1 0), (8, .ptr 2 0), (9, .ptr 4 0)], .dead, .fix 102 (List.map (fun z => SV.d (keS0 z)) c152), .dead, .dead, .dead, .dead, .dead, .fix 95 [], .fix 63 (List.map (fun z => SV.d (keS1 z)) (List.replicate ((v187 * a2)).toNat (0 : Nat))), .frame fr191 [(11, .sl 15 1 0 (((v187 * a2)).toNat) (((v187 * a2)).toNat))], .fix 5 (List.map (fun z => SV.d (keS0 z)) (List.replicate (((8 : Int) * ((((v187 * a2)).toNat : Nat) : Int))).toNat (0 : Int))), .frame fr194 [(1, .ifc 95 (.ag [])), (2, .sl 15 1 0 (((v187 * a2)).toNat) (((v187 * a2)).toNat)), (7, .sl 17 1 0 ((((8 : Int) * ((((v187 * a2)).toNat : Nat) : Int))).toNat) ((((8 : Int) * ((((v187 * a2)).toNat : Nat) : Int))).toNat))], .frame fr195 [(4, .d (di .i64 (0 : Int))), (5, .d (.v (.nilIface)))], .frame fr197 [(0, .ifc 54 (.ptr 4 0)), (1, .sl 17 1 0 ((((8 : Int) * ((((v187 * a2)).toNat : Nat) : Int))).toNat) ((((8 : Int) * ((((v187 * a2)).toNat : Nat) : Int))).toNat)), (2, .d (di .i64 (((((8 : Int) * ((((v187 * a2)).toNat : Nat) : Int))).toNat : Nat) : Int))), (6, .d (di .i64 (0 : Int))), (7, .d (.v (.nilIface))), (8, .d (di .i64 (0 : Int)))], .dead, .dead]) (e' := [(1, .sl 17 1 0 ((((8 : Int) * ((((v187 * a2)).toNat : Nat) : Int))).toNat) ((((8 : Int) * ((((v187 * a2)).toNat : Nat) : Int))).toNat))]) (r := .tu []) rfl rfl rfl ?_
      change AO _ _ _ _ _
      refine AO.objs (obs' := [.fix 24 [.d (.v (.slice none 0 0))], .fix 3 [.d (di .i64 (0 : Int))], .fix 4 [.d (dbool false)], .dead, .fix 71 [.d (eS0 ((a0.drop 0).take (((0 : Int)).toNat - 0))), .d (di .i64 (0 : Int)), .d (di .i8 (0 : Int))], .dead, .frame fr137 [(6, .ptr 0 0), (7, .ptr 1 0), (8, .ptr 2 0), (9, .ptr 4 0)], .dead, .fix 102 (List.map (fun z => SV.d (keS0 z)) c152), .dead, .dead, .dead, .dead, .dead, .fix 95 [], .fix 63 (List.map (fun z => SV.d (keS1 z)) (List.replicate ((v187 * a2)).toNat (0 : Nat))), .frame fr191 [(11, .sl 15 1 0 (((v187 * a2)).toNat) (((v187 * a2)).toNat))], .fix 5 (List.map (fun z => SV.d (keS0 z)) (List.replicate (((8 : Int) * ((((v187 * a2)).toNat : Nat) : Int))).toNat (0 : Int))), .frame fr194 [(1, .ifc 95 (.ag [])), (2, .sl 15 1 0 (((v187 * a2)).toNat) (((v187 * a2)).toNat)), (7, .sl 17 1 0 ((((8 : Int) * ((((v187 * a2)).toNat : Nat) : Int))).toNat) ((((8 : Int) * ((((v187 * a2)).toNat : Nat) : Int))).toNat))], .frame fr195 [(4, .d (di .i64 (0 : Int))), (5, .d (.v (.nilIface)))], .frame fr197 [(0, .ifc 54 (.ptr 4 0)), (1, .sl 17 1 0 ((((8 : Int) * ((((v187 * a2)).toNat : Nat) : Int))).toNat) ((((8 : Int) * ((((v187 * a2)).toNat : Nat) : Int))).toNat)), (2, .d (di .i64 (((((8 : Int) * ((((v187 * a2)).toNat : Nat) : Int))).toNat : Nat) : Int))), (6, .d (di .i64 (0 : Int))), (7, .d (.v (.nilIface))), (8, .d (di .i64 (0 : Int)))], .dead, .dead]) rfl ?_
      refine AO.nil ?_
      change AC _ _ _ _
      refine AC.seq ?_
      refine AC.seq ?_
      refine AC.region ?_
      refine AO.op rfl (AOp.move rfl rfl (ltb rfl) rfl ?_)
      refine AO.op rfl (AOp.lenSl rfl rfl (ltb rfl) rfl el22 ?_)
      refine AO.op rfl (AOp.ieql rfl rfl (ltb rfl) rfl rfl ?_)
      refine AO.nil ?_
      change AC _ _ _ _
      refine AC.cond rfl (fun q202 => ?_) (fun q202 => ?_)
      · replace h0 := cT h0 q202
        cases h0
      replace h0 := cF h0 q202
      refine AC.skip ?_
      change AC _ _ _ _
      refine AC.seq ?_
      refine AC.draw 3 mixed (by kernel_rfl) ?_
      refine AD.op [] rfl (by kernel_rfl) rfl rfl (fun _ _ h => AOp.loadEV rfl rfl (ltb rfl) rfl agg57 (by simp [GlobsP]) h) ?_
      refine AD.op [] rfl (by kernel_rfl) rfl rfl (fun _ _ h => AOp.assign rfl rfl (ltb rfl) rfl h) ?_
      refine AD.op [16] rfl (by kernel_rfl) rfl rfl (fun _ _ h => AOp.assign rfl rfl (ltb rfl) rfl h) ?_
      refine AD.done ?_
      refine AO.nil ?_
      change AC _ _ _ _
      refine AC.ret ?_
      refine inlret (ob' := [.fix 24 [.d (.v (.slice none 0 0))], .fix 3 [.d (di .i64 (0 : Int))], .fix 4 [.d (dbool false)], .dead, .fix 71 [.d (eS0 ((a0.drop 0).take (((0 : Int)).toNat - 0))), .d (di .i64 (0 : Int)), .d (di .i8 (0 : Int))], .dead, .frame fr137 [(6, .ptr 0 0), (7, .ptr 1 0), (8, .ptr 2 0), (9, .ptr 4 0)], .dead, .fix 102 (List.map (fun z => SV.d (keS0 z)) c152), .dead, .dead, .dead, .dead, .dead, .fix 95 [], .fix 63 (List.map (fun z => SV.d (keS1 z)) (List.replicate ((v187 * a2)).toNat (0 : Nat))), .frame fr191 [(11, .sl 15 1 0 (((v187 * a2)).toNat) (((v187 * a2)).toNat))], .fix 5 (List.map (fun z => SV.d (keS0 z)) (List.replicate (((8 : Int) * ((((v187 * a2)).toNat : Nat) : Int))).toNat (0 : Int))), .frame fr194 [(1, .ifc 95 (.ag [])), (2, .sl 15 1 0 (((v187 * a2)).toNat) (((v187 * a2)).toNat)), (7, .sl 17 1 0 ((((8 : Int) * ((((v187 * a2)).toNat : Nat) : Int))).toNat) ((((8 : Int) * ((((v187 * a2)).toNat : Nat) : Int))).toNat))], .frame fr195 [(4, .d (di .i64 (0 : Int))), (5, .d (.v (.nilIface)))], .dead, .dead, .dead]) (e' := [(0, .ifc 54 (.ptr 4 0)), (1, .sl 17 1 0 ((((8 : Int) * ((((v187 * a2)).toNat : Nat) : Int))).toNat) ((((8 : Int) * ((((v187 * a2)).toNat : Nat) : Int))).toNat)), (2, .d (di .i64 (((((8 : Int) * ((((v187 * a2)).toNat : Nat) : Int))).toNat : Nat) : Int))), (6, .d (di .i64 (0 : Int))), (7, .d (.v (.nilIface))), (8, .d (di .i64 (0 : Int)))]) (r := .tu [.d (di .i64 (0 : Int)), .d (.v (errV W 5))]) rfl rfl rfl ?_
      change AO _ _ _ _ _
      refine AO.objs (obs' := [.fix 24 [.d (.v (.slice none 0 0))], .fix 3 [.d (di .i64 (0 : Int))], .fix 4 [.d (dbool false)], .dead, .fix 71 [.d (eS0 ((a0.drop 0).take (((0 : Int)).toNat - 0))), .d (di .i64 (0 : Int)), .d (di .i8 (0 : Int))], .dead, .frame fr137 [(6, .ptr 0 0), (7, .ptr 1 0), (8, .ptr 2 0), (9, .ptr 4 0)], .dead, .fix 102 (List.map (fun z => SV.d (keS0 z)) c152), .dead, .dead, .dead, .dead, .dead, .fix 95 [], .fix 63 (List.map (fun z => SV.d (keS1 z)) (List.replicate ((v187 * a2)).toNat (0 : Nat))), .frame fr191 [(11, .sl 15 1 0 (((v187 * a2)).toNat) (((v187 * a2)).toNat))], .fix 5 (List.map (fun z => SV.d (keS0 z)) (List.replicate (((8 : Int) * ((((v187 * a2)).toNat : Nat) : Int))).toNat (0 : Int))), .frame fr194 [(1, .ifc 95 (.ag [])), (2, .sl 15 1 0 (((v187 * a2)).toNat) (((v187 * a2)).toNat)), (7, .sl 17 1 0 ((((8 : Int) * ((((v187 * a2)).toNat : Nat) : Int))).toNat) ((((8 : Int) * ((((v187 * a2)).toNat : Nat) : Int))).toNat))], .frame fr195 [(4, .d (di .i64 (0 : Int))), (5, .d (.v (.nilIface)))], .dead, .dead, .dead]) rfl ?_
      refine AO.nil ?_
      change AD _ _ _ _ _
      refine AD.op [29] rfl (by kernel_rfl) rfl rfl (fun _ _ h => AOp.move rfl rfl (ltb rfl) rfl h) ?_
      first | refine AD.op [21] rfl (by kernel_rfl) rfl rfl (fun _ _ h => AOp.extractD rfl rfl (ltb rfl) rfl rfl h) ?_ | refine AD.op [21] rfl (by kernel_rfl) rfl rfl (fun _ _ h => AOp.extract rfl rfl (ltb rfl) rfl rfl h) ?_
      first | refine AD.op [21] rfl (by kernel_rfl) rfl rfl (fun _ _ h => AOp.extractD rfl rfl (ltb rfl) rfl rfl h) ?_ | refine AD.op [21] rfl (by kernel_rfl) rfl rfl (fun _ _ h => AOp.extract rfl rfl (ltb rfl) rfl rfl h) ?_
      refine AD.op [30] rfl (by kernel_rfl) rfl rfl (fun _ _ h => AOp.assign rfl rfl (ltb rfl) rfl h) ?_
      refine AD.op [31] rfl (by kernel_rfl) rfl rfl (fun _ _ h => AOp.assign rfl rfl (ltb rfl) rfl h) ?_
      refine AD.done ?_
      refine AO.nil ?_
      change AC _ _ _ _
      refine AC.region ?_
      refine AO.op rfl (AOp.move rfl rfl (ltb rfl) rfl ?_)
      refine AO.op rfl (AOp.move rfl rfl (ltb rfl) rfl ?_)
      refine AO.op rfl (AOp.iadd rfl rfl (ltb rfl) rfl rfl (show (0 : Int) + (0 : Int) = (0 : Int) by decide) (by decide) (by decide) ?_)
      refine AO.op rfl (AOp.assign rfl rfl (ltb rfl) rfl ?_)
      refine AO.nil ?_
      change ACL _ _ _ _
      refine ACL.round ?_
      refine AC.seq ?_
      refine AC.seq ?_
      refine AC.region ?_
      refine AO.op rfl (AOp.move rfl rfl (ltb rfl) rfl ?_)
      refine AO.op rfl (AOp.move rfl rfl (ltb rfl) rfl ?_)
      refine AO.op rfl (AOp.ilss rfl rfl (ltb rfl) rfl rfl ?_)
      refine AO.op rfl (AOp.move rfl rfl (ltb rfl) rfl ?_)
      refine AO.guardY rfl rfl rfl q196 (AOp.move rfl rfl (ltb rfl) rfl ?_)
      refine AO.guardY rfl rfl rfl q196 (AOp.errEql rfl rfl (ltb rfl) rfl (by simp [GlobsP]) imeth57 ?_)
      refine AO.op rfl (AOp.pick rfl rfl (ltb rfl) rfl q196 rfl ?_)
      refine AO.nil ?_
      change AC _ _ _ _
      refine AC.condF rfl rfl ?_
      refine AC.exit ?_
      change AC _ _ _ _
      refine AC.seq ?_
      refine AC.seq ?_
      refine AC.region ?_
      refine AO.op rfl (AOp.move rfl rfl (ltb rfl) rfl ?_)
      refine AO.op rfl (AOp.move rfl rfl (ltb rfl) rfl ?_)
      refine AO.op rfl (AOp.igeq rfl rfl (ltb rfl) rfl rfl ?_)
      refine AO.nil ?_
      change AC _ _ _ _
      refine AC.condF rfl (dlt_ge q196) ?_
      refine AC.seq ?_
      refine AC.region ?_
      refine AO.op rfl (AOp.move rfl rfl (ltb rfl) rfl ?_)
      refine AO.op rfl (AOp.igtr rfl rfl (ltb rfl) rfl rfl ?_)
      refine AO.op rfl (AOp.move rfl rfl (ltb rfl) rfl ?_)
      refine AO.guardN rfl rfl rfl (ltb rfl) rfl rfl ?_
      refine AO.guardN rfl rfl rfl (ltb rfl) rfl rfl ?_
      refine AO.guardN rfl rfl rfl (ltb rfl) rfl rfl ?_
      refine AO.op rfl (AOp.pickN rfl rfl (ltb rfl) rfl rfl rfl ?_)
      refine AO.nil ?_
      change AC _ _ _ _
      refine AC.condF rfl rfl ?_
      refine AC.skip ?_
      change AC _ _ _ _
      refine AC.ret ?_
      refine inlret (ob' := [.fix 24 [.d (.v (.slice none 0 0))], .fix 3 [.d (di .i64 (0 : Int))], .fix 4 [.d (dbool false)], .dead, .fix 71 [.d (eS0 ((a0.drop 0).take (((0 : Int)).toNat - 0))), .d (di .i64 (0 : Int)), .d (di .i8 (0 : Int))], .dead, .frame fr137 [(6, .ptr 0 0), (7, .ptr 1 0), (8, .ptr 2 0), (9, .ptr 4 0)], .dead, .fix 102 (List.map (fun z => SV.d (keS0 z)) c152), .dead, .dead, .dead, .dead, .dead, .fix 95 [], .fix 63 (List.map (fun z => SV.d (keS1 z)) (List.replicate ((v187 * a2)).toNat (0 : Nat))), .frame fr191 [(11, .sl 15 1 0 (((v187 * a2)).toNat) (((v187 * a2)).toNat))], .fix 5 (List.map (fun z => SV.d (keS0 z)) (List.replicate (((8 : Int) * ((((v187 * a2)).toNat : Nat) : Int))).toNat (0 : Int))), .frame fr194 [(1, .ifc 95 (.ag [])), (2, .sl 15 1 0 (((v187 * a2)).toNat) (((v187 * a2)).toNat)), (7, .sl 17 1 0 ((((8 : Int) * ((((v187 * a2)).toNat : Nat) : Int))).toNat) ((((8 : Int) * ((((v187 * a2)).toNat : Nat) : Int))).toNat))], .dead, .dead, .dead, .dead]) (e' := [(4, .d (di .i64 (0 : Int))), (5, .d (.v (.nilIface)))]) (r := .tu [.d (di .i64 (0 : Int)), .d (.v (errV W 5))]) rfl rfl rfl ?_
      change AO _ _ _ _ _
      first | refine AO.op rfl (AOp.extractD rfl rfl (ltb rfl) rfl rfl ?_) | refine AO.op rfl (AOp.extract rfl rfl (ltb rfl) rfl rfl ?_)
      first | refine AO.op rfl (AOp.extractD rfl rfl (ltb rfl) rfl rfl ?_) | refine AO.op rfl (AOp.extract rfl rfl (ltb rfl) rfl rfl ?_)
      refine AO.op rfl (AOp.assign rfl rfl (ltb rfl) rfl ?_)
      refine AO.op rfl (AOp.assign rfl rfl (ltb rfl) rfl ?_)
      refine AO.objs (obs' := [.fix 24 [.d (.v (.slice none 0 0))], .fix 3 [.d (di .i64 (0 : Int))], .fix 4 [.d (dbool false)], .dead, .fix 71 [.d (eS0 ((a0.drop 0).take (((0 : Int)).toNat - 0))), .d (di .i64 (0 : Int)), .d (di .i8 (0 : Int))], .dead, .frame fr137 [(6, .ptr 0 0), (7, .ptr 1 0), (8, .ptr 2 0), (9, .ptr 4 0)], .dead, .fix 102 (List.map (fun z => SV.d (keS0 z)) c152), .dead, .dead, .dead, .dead, .dead, .fix 95 [], .fix 63 (List.map (fun z => SV.d (keS1 z)) (List.replicate ((v187 * a2)).toNat (0 : Nat))), .frame fr191 [(11, .sl 15 1 0 (((v187 * a2)).toNat) (((v187 * a2)).toNat))], .fix 5 (List.map (fun z => SV.d (keS0 z)) (List.replicate (((8 : Int) * ((((v187 * a2)).toNat : Nat) : Int))).toNat (0 : Int))), .frame fr194 [(1, .ifc 95 (.ag [])), (2, .sl 15 1 0 (((v187 * a2)).toNat) (((v187 * a2)).toNat)), (7, .sl 17 1 0 ((((8 : Int) * ((((v187 * a2)).toNat : Nat) : Int))).toNat) ((((8 : Int) * ((((v187 * a2)).toNat : Nat) : Int))).toNat))], .dead, .dead, .dead, .dead]) rfl ?_
      refine AO.nil ?_
      change AC _ _ _ _
      refine AC.ret ?_
      refine inlret (ob' := [.fix 24 [.d (.v (.slice none 0 0))], .fix 3 [.d (di .i64 (0 : Int))], .fix 4 [.d (dbool false)], .dead, .fix 71 [.d (eS0 ((a0.drop 0).take (((0 : Int)).toNat - 0))), .d (di .i64 (0 : Int)), .d (di .i8 (0 : Int))], .dead, .frame fr137 [(6, .ptr 0 0), (7, .ptr 1 0), (8, .ptr 2 0), (9, .ptr 4 0)], .dead, .fix 102 (List.map (fun z => SV.d (keS0 z)) c152), .dead, .dead, .dead, .dead, .dead, .fix 95 [], .fix 63 (List.map (fun z => SV.d (keS1 z)) (List.replicate ((v187 * a2)).toNat (0 : Nat))), .frame fr191 [(11, .sl 15 1 0 (((v187 * a2)).toNat) (((v187 * a2)).toNat))], .fix 5 (List.map (fun z => SV.d (keS0 z)) (List.replicate (((8 : Int) * ((((v187 * a2)).toNat : Nat) : Int))).toNat (0 : Int))), .dead, .dead, .dead, .dead, .dead]) (e' := [(1, .ifc 95 (.ag [])), (2, .sl 15 1 0 (((v187 * a2)).toNat) (((v187 * a2)).toNat)), (7, .sl 17 1 0 ((((8 : Int) * ((((v187 * a2)).toNat : Nat) : Int))).toNat) ((((8 : Int) * ((((v187 * a2)).toNat : Nat) : Int))).toNat))]) (r := .tu [.d (di .i64 (0 : Int)), .d (.v (errV W 5))]) rfl rfl rfl ?_
      change AO _ _ _ _ _
      refine AO.op rfl (AOp.move rfl rfl (ltb rfl) rfl ?_)
      first | refine AO.op rfl (AOp.extractD rfl rfl (ltb rfl) rfl rfl ?_) | refine AO.op rfl (AOp.extract rfl rfl (ltb rfl) rfl rfl ?_)
      first | refine AO.op rfl (AOp.extractD rfl rfl (ltb rfl) rfl rfl ?_) | refine AO.op rfl (AOp.extract rfl rfl (ltb rfl) rfl rfl ?_)
      refine AO.op rfl (AOp.assign rfl rfl (ltb rfl) rfl ?_)
      refine AO.op rfl (AOp.assign rfl rfl (ltb rfl) rfl ?_)
      refine AO.objs (obs' := [.fix 24 [.d (.v (.slice none 0 0))], .fix 3 [.d (di .i64 (0 : Int))], .fix 4 [.d (dbool false)], .dead, .fix 71 [.d (eS0 ((a0.drop 0).take (((0 : Int)).toNat - 0))), .d (di .i64 (0 : Int)), .d (di .i8 (0 : Int))], .dead, .frame fr137 [(6, .ptr 0 0), (7, .ptr 1 0), (8, .ptr 2 0), (9, .ptr 4 0)], .dead, .fix 102 (List.map (fun z => SV.d (keS0 z)) c152), .dead, .dead, .dead, .dead, .dead, .fix 95 [], .fix 63 (List.map (fun z => SV.d (keS1 z)) (List.replicate ((v187 * a2)).toNat (0 : Nat))), .frame fr191 [(11, .sl 15 1 0 (((v187 * a2)).toNat) (((v187 * a2)).toNat))], .fix 5 (List.map (fun z => SV.d (keS0 z)) (List.replicate (((8 : Int) * ((((v187 * a2)).toNat : Nat) : Int))).toNat (0 : Int))), .dead, .dead, .dead, .dead, .dead]) rfl ?_
      refine AO.nil ?_
      change AC _ _ _ _
      refine AC.seq ?_
      refine AC.region ?_
      refine AO.op rfl (AOp.move rfl rfl (ltb rfl) rfl ?_)
      refine AO.op rfl (AOp.errNeq rfl rfl (ltb rfl) rfl (by simp [GlobsP]) imeth57 ?_)
      refine AO.nil ?_
      change AC _ _ _ _
      refine AC.condT rfl rfl ?_
      refine AC.seq ?_
      refine AC.region ?_
      refine AO.op rfl (AOp.move rfl rfl (ltb rfl) rfl ?_)
      refine AO.op rfl (AOp.assign rfl rfl (ltb rfl) rfl ?_)
      refine AO.nil ?_
      change AC _ _ _ _
      refine AC.ret ?_
      refine inlret (ob' := [.fix 24 [.d (.v (.slice none 0 0))], .fix 3 [.d (di .i64 (0 : Int))], .fix 4 [.d (dbool false)], .dead, .fix 71 [.d (eS0 ((a0.drop 0).take (((0 : Int)).toNat - 0))), .d (di .i64 (0 : Int)), .d (di .i8 (0 : Int))], .dead, .frame fr137 [(6, .ptr 0 0), (7, .ptr 1 0), (8, .ptr 2 0), (9, .ptr 4 0)], .dead, .fix 102 (List.map (fun z => SV.d (keS0 z)) c152), .dead, .dead, .dead, .dead, .dead, .fix 95 [], .fix 63 (List.map (fun z => SV.d (keS1 z)) (List.replicate ((v187 * a2)).toNat (0 : Nat))), .dead, .fix 5 (List.map (fun z => SV.d (keS0 z)) (List.replicate (((8 : Int) * ((((v187 * a2)).toNat : Nat) : Int))).toNat (0 : Int))), .dead, .dead, .dead, .dead, .dead]) (e' := [(11, .sl 15 1 0 (((v187 * a2)).toNat) (((v187 * a2)).toNat))]) (r := .d (.v (errV W 5))) rfl rfl rfl ?_
      change AO _ _ _ _ _
      refine AO.op rfl (AOp.assign rfl rfl (ltb rfl) rfl ?_)
      refine AO.objs (obs' := [.fix 24 [.d (.v (.slice none 0 0))], .fix 3 [.d (di .i64 (0 : Int))], .fix 4 [.d (dbool false)], .dead, .fix 71 [.d (eS0 ((a0.drop 0).take (((0 : Int)).toNat - 0))), .d (di .i64 (0 : Int)), .d (di .i8 (0 : Int))], .dead, .frame fr137 [(6, .ptr 0 0), (7, .ptr 1 0), (8, .ptr 2 0), (9, .ptr 4 0)], .dead, .fix 102 (List.map (fun z => SV.d (keS0 z)) c152), .dead, .dead, .dead, .dead, .dead, .fix 95 [], .fix 63 (List.map (fun z => SV.d (keS1 z)) (List.replicate ((v187 * a2)).toNat (0 : Nat))), .dead, .fix 5 (List.map (fun z => SV.d (keS0 z)) (List.replicate (((8 : Int) * ((((v187 * a2)).toNat : Nat) : Int))).toNat (0 : Int))), .dead, .dead, .dead, .dead, .dead]) rfl ?_
      refine AO.nil ?_
      change AC _ _ _ _
      refine AC.seq ?_
      refine AC.region ?_
      refine AO.op rfl (AOp.move rfl rfl (ltb rfl) rfl ?_)
      refine AO.op rfl (AOp.errNeq rfl rfl (ltb rfl) rfl (by simp [GlobsP]) imeth57 ?_)
      refine AO.nil ?_
      change AC _ _ _ _
      refine AC.condT rfl rfl ?_
      refine AC.seq ?_
      refine AC.region ?_
      refine AO.op rfl (AOp.move rfl rfl (ltb rfl) rfl ?_)
      refine AO.op rfl (AOp.assign rfl rfl (ltb rfl) rfl ?_)
      refine AO.op rfl (AOp.assign rfl rfl (ltb rfl) rfl ?_)
      refine AO.nil ?_
      change AC _ _ _ _
      refine AC.ret ?_
      refine inlret (ob' := [.fix 24 [.d (.v (.slice none 0 0))], .fix 3 [.d (di .i64 (0 : Int))], .fix 4 [.d (dbool false)], .dead, .fix 71 [.d (eS0 ((a0.drop 0).take (((0 : Int)).toNat - 0))), .d (di .i64 (0 : Int)), .d (di .i8 (0 : Int))], .dead, .dead, .dead, .fix 102 (List.map (fun z => SV.d (keS0 z)) c152), .dead, .dead, .dead, .dead, .dead, .fix 95 [], .fix 63 (List.map (fun z => SV.d (keS1 z)) (List.replicate ((v187 * a2)).toNat (0 : Nat))), .dead, .fix 5 (List.map (fun z => SV.d (keS0 z)) (List.replicate (((8 : Int) * ((((v187 * a2)).toNat : Nat) : Int))).toNat (0 : Int))), .dead, .dead, .dead, .dead, .dead]) (e' := [(6, .ptr 0 0), (7, .ptr 1 0), (8, .ptr 2 0), (9, .ptr 4 0)]) (r := .tu [.d (.v (.slice none 0 0)), .d (.v (errV W 5))]) rfl rfl rfl ?_
      change AO _ _ _ _ _
      refine AO.op rfl (AOp.move rfl rfl (ltb rfl) rfl ?_)
      first | refine AO.op rfl (AOp.extractD rfl rfl (ltb rfl) rfl rfl ?_) | refine AO.op rfl (AOp.extract rfl rfl (ltb rfl) rfl rfl ?_)
      first | refine AO.op rfl (AOp.extractD rfl rfl (ltb rfl) rfl rfl ?_) | refine AO.op rfl (AOp.extract rfl rfl (ltb rfl) rfl rfl ?_)
      refine AO.op rfl (AOp.store rfl rfl rfl rfl size24 rfl rfl rfl (leb rfl) ?_)
      refine AO.op rfl (AOp.assign rfl rfl (ltb rfl) rfl ?_)
      refine AO.objs (obs' := [.fix 24 [.d (.v (.slice none 0 0))], .fix 3 [.d (di .i64 (0 : Int))], .fix 4 [.d (dbool false)], .dead, .fix 71 [.d (eS0 ((a0.drop 0).take (((0 : Int)).toNat - 0))), .d (di .i64 (0 : Int)), .d (di .i8 (0 : Int))], .dead, .dead, .dead, .fix 102 (List.map (fun z => SV.d (keS0 z)) c152), .dead, .dead, .dead, .dead, .dead, .fix 95 [], .fix 63 (List.map (fun z => SV.d (keS1 z)) (List.replicate ((v187 * a2)).toNat (0 : Nat))), .dead, .fix 5 (List.map (fun z => SV.d (keS0 z)) (List.replicate (((8 : Int) * ((((v187 * a2)).toNat : Nat) : Int))).toNat (0 : Int))), .dead, .dead, .dead, .dead, .dead]) rfl ?_
      refine AO.nil ?_
      change AC _ _ _ _
      refine AC.seq ?_
      refine AC.freezeP (ds := c_TBytes_Buffer (TBytes_Buffer.mk ((a0.drop 0).take (((0 : Int)).toNat - 0)) (0 : Int) (0 : Int))) 9 4 rfl rfl rfl rfl (Nat.zero_le _) ?_
      obtain ⟨y203, q204, h0⟩ := bind_elim h0
      refine AC.drawS [0, 1, 2, 3, 4, 5, 6] [5, 6] [7] (fun L => [.fix 24 [.d (.v (.slice none 0 0))], .fix 3 [(bif L 6 then .d (di .i64 y203) else .d (di .i64 (0 : Int)))], .fix 4 [.d (dbool false)], .dead, .dead, .dead, .dead, .dead, .fix 102 (List.map (fun z => SV.d (keS0 z)) c152), .dead, .dead, .dead, .dead, .dead, .fix 95 [], .fix 63 (List.map (fun z => SV.d (keS1 z)) (List.replicate ((v187 * a2)).toNat (0 : Nat))), .dead, .fix 5 (List.map (fun z => SV.d (keS0 z)) (List.replicate (((8 : Int) * ((((v187 * a2)).toNat : Nat) : Int))).toNat (0 : Int))), .dead, .dead, .dead, .dead, .dead]) [(5, (fun _ => true)), (6, (fun _ => true))] mixed (by kernel_rfl) (fun L L' h => by simp only [h 5 (by decide), h 6 (by decide)]) rfl ?_
      refine AS.op [6] [] [5, 6] [] rfl rfl rfl (by kernel_rfl) (by kernel_rfl) rfl rfl (fun _ _ _ h => AOp.load1 rfl rfl (ltb rfl) rfl agg24 rfl rfl h) (by kernel_rfl) ?_
      refine AS.op [9] [] [5, 6] [] rfl rfl rfl (by kernel_rfl) (by kernel_rfl) rfl rfl (fun _ _ _ h => AOp.move rfl rfl (ltb rfl) rfl h) (by kernel_rfl) ?_
      refine AS.op [24] [] [5, 6] [] rfl rfl rfl (by kernel_rfl) (by kernel_rfl) rfl rfl (fun _ _ _ h => AOp.callD rfl rfl (ltb rfl) rfl rfl (w_Buffer_Len (TBytes_Buffer.mk ((a0.drop 0).take (((0 : Int)).toNat - 0)) (0 : Int) (0 : Int)) y203 q204) (by rintro _ rfl; exact h)) (by kernel_rfl) ?_
      refine AS.op [10] [] [] [5, 6] rfl rfl rfl (by kernel_rfl) (by kernel_rfl) rfl rfl (fun _ _ _ h => AOp.move rfl rfl (ltb rfl) rfl h) (by kernel_rfl) ?_
      refine AS.op [26] [] [] [5, 6] rfl rfl rfl (by kernel_rfl) (by kernel_rfl) rfl rfl (fun _ _ _ h => AOp.errEql rfl rfl (ltb rfl) rfl (by simp [GlobsP]) imeth57 h) (by kernel_rfl) ?_
      refine AS.mid0 [6, 23] [] [6, 5] [] rfl rfl rfl rfl (by kernel_rfl) (by kernel_rfl) rfl rfl (fun _ _ _ h => AOp.store rfl rfl rfl rfl size24 rfl rfl rfl (leb rfl) (AO.dropT h)) (by kernel_rfl) rfl ?_
      refine AS.mid0 [7, 25] [5] [6] [] rfl rfl rfl rfl (by kernel_rfl) (by kernel_rfl) rfl rfl (fun _ _ _ h => AOp.store rfl rfl rfl rfl size3 rfl rfl rfl (leb rfl) (AO.dropT h)) (by kernel_rfl) rfl ?_
      refine AS.done ?_
      refine AO.objs (obs' := [.fix 24 [.d (.v (.slice none 0 0))], .fix 3 [.d (di .i64 y203)], .fix 4 [.d (dbool false)], .dead, .dead, .dead, .dead, .dead, .fix 102 (List.map (fun z => SV.d (keS0 z)) c152), .dead, .dead, .dead, .dead, .dead, .fix 95 [], .fix 63 (List.map (fun z => SV.d (keS1 z)) (List.replicate ((v187 * a2)).toNat (0 : Nat))), .dead, .fix 5 (List.map (fun z => SV.d (keS0 z)) (List.replicate (((8 : Int) * ((((v187 * a2)).toNat : Nat) : Int))).toNat (0 : Int))), .dead, .dead, .dead, .dead, .dead]) rfl ?_
      refine AO.op rfl (AOp.store rfl rfl rfl rfl size4 rfl rfl rfl (leb rfl) ?_)
      refine AO.nil ?_
      change AC _ _ _ _
      refine AC.subO 0 rfl (.cons (SVLe.nil 1) .nil) ?_
      refine AC.ret ?_
      change RetQ _ _ _ .ret _
      obtain rfl := Option.some.inj h0
      refine retq rfl rfl
    replace h0 := cF h0 q199
    refine AC.skip ?_
    change AC _ _ _ _
    refine AC.seq ?_
    refine AC.draw 10 mixed (by kernel_rfl) ?_
    refine AD.op [1] rfl (by kernel_rfl) rfl rfl (fun _ _ h => AOp.move rfl rfl (ltb rfl) rfl h) ?_
    refine AD.op [0] rfl (by kernel_rfl) rfl rfl (fun _ _ h => AOp.move rfl rfl (ltb rfl) rfl h) ?_
    refine AD.op [18] rfl (by kernel_rfl) rfl rfl (fun _ _ h => AOp.nilCheck rfl rfl (ltb rfl) rfl rfl h) ?_
    refine AD.op [19] rfl (by kernel_rfl) rfl rfl (fun _ _ h => AOp.fieldAddr rfl rfl (ltb rfl) rfl fo71_0 h) ?_
    refine AD.op [20] rfl (by kernel_rfl) rfl rfl (fun _ _ h => AOp.load1 rfl rfl (ltb rfl) rfl agg22 rfl rfl h) ?_
    refine AD.op [0] rfl (by kernel_rfl) rfl rfl (fun _ _ h => AOp.move rfl rfl (ltb rfl) rfl h) ?_
    refine AD.op [22] rfl (by kernel_rfl) rfl rfl (fun _ _ h => AOp.nilCheck rfl rfl (ltb rfl) rfl rfl h) ?_
    refine AD.op [23] rfl (by kernel_rfl) rfl rfl (fun _ _ h => AOp.fieldAddr rfl rfl (ltb rfl) rfl fo71_1 h) ?_
    refine AD.op [24] rfl (by kernel_rfl) rfl rfl (fun _ _ h => AOp.load1 rfl rfl (ltb rfl) rfl agg3 rfl rfl h) ?_
    obtain ⟨q205, h0⟩ := need_elim h0
    refine AD.op [21, 25] rfl (by kernel_rfl) rfl rfl (fun _ _ h => AOp.sliceD (cells := (List.map keS0 a0)) (n := a0.length) (l := (((m150 : Nat) : Int)).toNat) (hh := a0.length) rfl rfl (ltb rfl) rfl (.inr ⟨_, _, _, rfl, rfl, q205.1.1, rfl⟩) (.inl ⟨rfl, rfl⟩) el22 (by decide) (len1 _ _) q205.2.1 q205.2.2 (sub1 _ _ _ _) h) ?_
    refine AD.done ?_
    obtain ⟨q206, h0⟩ := need_elim h0
    obtain ⟨m207, q208, h0⟩ := bind_elim h0
    obtain ⟨c209, q210, h0⟩ := bind_elim h0
    refine AO.op rfl (AOp.copyL2 (k := keS0) (l := (List.replicate (((8 : Int) * ((((v187 * a2)).toNat : Nat) : Int))).toNat (0 : Int))) (l2 := ((a0.drop (((m150 : Nat) : Int)).toNat).take (a0.length - (((m150 : Nat) : Int)).toNat))) (m := m207) rfl rfl (ltb rfl) rfl rfl el22 rfl q206 (fun _ => rfl) ((Option.some.inj q208).symm) (Option.some.inj q210) ?_)
    refine AO.op rfl (AOp.assign rfl rfl (ltb rfl) rfl ?_)
    refine AO.nil ?_
    change AC _ _ _ _
    refine AC.seq ?_
    refine AC.region ?_
    refine AO.op rfl (AOp.move rfl rfl (ltb rfl) rfl ?_)
    refine AO.op rfl (AOp.nilCheck rfl rfl (ltb rfl) rfl rfl ?_)
    refine AO.op rfl (AOp.fieldAddr rfl rfl (ltb rfl) rfl fo71_1 ?_)
    refine AO.op rfl (AOp.load1 rfl rfl (ltb rfl) rfl agg3 rfl rfl ?_)
    refine AO.op rfl (AOp.move rfl rfl (ltb rfl) rfl ?_)
    obtain ⟨q211, h0⟩ := need_elim h0
    refine AO.op rfl (AOp.iadd rfl rfl (ltb rfl) rfl rfl rfl q211.1 q211.2 ?_)
    refine AO.op rfl (AOp.nilCheck rfl rfl (ltb rfl) rfl rfl ?_)
    refine AO.op rfl (AOp.fieldAddr rfl rfl (ltb rfl) rfl fo71_1 ?_)
    refine AO.op rfl (AOp.store rfl rfl rfl rfl size3 rfl rfl rfl (leb rfl) ?_)
    refine AO.nil ?_
    change AC _ _ _ _
    refine AC.joinP (V := Int) [4] [] 22 (fun g212 => []) (fun g212 => [.fix 24 [.d (.v (.slice none 0 0))], .fix 3 [.d (di .i64 (0 : Int))], .fix 4 [.d (dbool false)], .dead, .fix 71 [.d (eS0 a0), .d (di .i64 (((m150 : Nat) : Int) + ((m207 : Nat) : Int))), .d (di .i8 g212)], .dead, .frame fr137 [(6, .ptr 0 0), (7, .ptr 1 0), (8, .ptr 2 0), (9, .ptr 4 0)], .dead, .fix 102 (List.map (fun z => SV.d (keS0 z)) c152), .dead, .dead, .dead, .dead, .dead, .fix 95 [], .fix 63 (List.map (fun z => SV.d (keS1 z)) (List.replicate ((v187 * a2)).toNat (0 : Nat))), .frame fr191 [(11, .sl 15 1 0 (((v187 * a2)).toNat) (((v187 * a2)).toNat))], .fix 5 (List.map (fun z => SV.d (keS0 z)) c209), .frame fr194 [(1, .ifc 95 (.ag [])), (2, .sl 15 1 0 (((v187 * a2)).toNat) (((v187 * a2)).toNat)), (7, .sl 17 1 0 ((((8 : Int) * ((((v187 * a2)).toNat : Nat) : Int))).toNat) ((((8 : Int) * ((((v187 * a2)).toNat : Nat) : Int))).toNat))], .frame fr195 [(4, .d (di .i64 (0 : Int))), (5, .d (.v (.nilIface)))], .frame fr197 [(0, .ifc 54 (.ptr 4 0)), (1, .sl 17 1 0 ((((8 : Int) * ((((v187 * a2)).toNat : Nat) : Int))).toNat) ((((8 : Int) * ((((v187 * a2)).toNat : Nat) : Int))).toNat)), (2, .d (di .i64 (((((8 : Int) * ((((v187 * a2)).toNat : Nat) : Int))).toNat : Nat) : Int))), (6, .d (di .i64 (0 : Int))), (7, .d (.v (.nilIface))), (8, .d (di .i64 (0 : Int)))], .dead]) (fun g212 => (p_ReadFlat1_k8 a0 a2 F m150 v187 m207 c209) g212 = some r0) rfl ?_ ?_
    · refine AC.seq ?_
      refine AC.region ?_
      refine AO.op rfl (AOp.move rfl rfl (ltb rfl) rfl ?_)
      refine AO.op rfl (AOp.igtr rfl rfl (ltb rfl) rfl rfl ?_)
      refine AO.nil ?_
      change AC _ _ _ _
      refine AC.cond rfl (fun q248 => ?_) (fun q248 => ?_)
      · replace h0 := cT h0 q248
        refine AC.region ?_
        refine AO.op rfl (AOp.move rfl rfl (ltb rfl) rfl ?_)
        refine AO.op rfl (AOp.nilCheck rfl rfl (ltb rfl) rfl rfl ?_)
        refine AO.op rfl (AOp.fieldAddr rfl rfl (ltb rfl) rfl fo71_2 ?_)
        refine AO.op rfl (AOp.store rfl rfl rfl rfl size69 rfl rfl rfl (leb rfl) ?_)
        refine AO.nil ?_
        exact ⟨(-1 : Int), _, rfl, (LeL.refl _), rfl, (okU_mk rfl (okU_cons rfl (okU_cons rfl (okU_cons rfl (okU_cons rfl (okU_cons rfl (okU_cons rfl (okU_cons rfl (okU_cons rfl (okU_cons (okU_fixl (fun _ => rfl)) (okU_cons rfl (okU_cons rfl (okU_cons rfl (okU_cons rfl (okU_cons rfl (okU_cons rfl (okU_cons (okU_fixl (fun _ => rfl)) (okU_cons rfl (okU_cons (okU_fixl (fun _ => rfl)) (okU_cons rfl (okU_cons rfl (okU_cons rfl (okU_cons rfl okU_nil))))))))))))))))))))))), h0⟩
      replace h0 := cF h0 q248
      refine AC.skip ?_
      exact ⟨(0 : Int), _, rfl, (LeL.refl _), rfl, (okU_mk rfl (okU_cons rfl (okU_cons rfl (okU_cons rfl (okU_cons rfl (okU_cons rfl (okU_cons rfl (okU_cons rfl (okU_cons rfl (okU_cons (okU_fixl (fun _ => rfl)) (okU_cons rfl (okU_cons rfl (okU_cons rfl (okU_cons rfl (okU_cons rfl (okU_cons rfl (okU_cons (okU_fixl (fun _ => rfl)) (okU_cons rfl (okU_cons (okU_fixl (fun _ => rfl)) (okU_cons rfl (okU_cons rfl (okU_cons rfl (okU_cons rfl okU_nil))))))))))))))))))))))), h0⟩
    intro g212 h0
    unfold p_ReadFlat1_k8 at h0
    refine AC.seq ?_
    refine AC.region ?_
    refine AO.op rfl (AOp.move rfl rfl (ltb rfl) rfl ?_)
    refine AO.op rfl (AOp.assign rfl rfl (ltb rfl) rfl ?_)
    refine AO.op rfl (AOp.assign rfl rfl (ltb rfl) rfl ?_)
    refine AO.nil ?_
    change AC _ _ _ _
    refine AC.ret ?_
    refine inlret (ob' := [.fix 24 [.d (.v (.slice none 0 0))], .fix 3 [.d (di .i64 (0 : Int))], .fix 4 [.d (dbool false)], .dead, .fix 71 [.d (eS0 a0), .d (di .i64 (((m150 : Nat) : Int) + ((m207 : Nat) : Int))), .d (di .i8 g212)], .dead, .frame fr137 [(6, .ptr 0 0), (7, .ptr 1 0), (8, .ptr 2 0), (9, .ptr 4 0)], .dead, .fix 102 (List.map (fun z => SV.d (keS0 z)) c152), .dead, .dead, .dead, .dead, .dead, .fix 95 [], .fix 63 (List.map (fun z => SV.d (keS1 z)) (List.replicate ((v187 * a2)).toNat (0 : Nat))), .frame fr191 [(11, .sl 15 1 0 (((v187 * a2)).toNat) (((v187 * a2)).toNat))], .fix 5 (List.map (fun z => SV.d (keS0 z)) c209), .frame fr194 [(1, .ifc 95 (.ag [])), (2, .sl 15 1 0 (((v187 * a2)).toNat) (((v187 * a2)).toNat)), (7, .sl 17 1 0 ((((8 : Int) * ((((v187 * a2)).toNat : Nat) : Int))).toNat) ((((8 : Int) * ((((v187 * a2)).toNat : Nat) : Int))).toNat))], .frame fr195 [(4, .d (di .i64 (0 : Int))), (5, .d (.v (.nilIface)))], .dead, .dead]) (e' := [(0, .ifc 54 (.ptr 4 0)), (1, .sl 17 1 0 ((((8 : Int) * ((((v187 * a2)).toNat : Nat) : Int))).toNat) ((((8 : Int) * ((((v187 * a2)).toNat : Nat) : Int))).toNat)), (2, .d (di .i64 (((((8 : Int) * ((((v187 * a2)).toNat : Nat) : Int))).toNat : Nat) : Int))), (6, .d (di .i64 (0 : Int))), (7, .d (.v (.nilIface))), (8, .d (di .i64 (0 : Int)))]) (r := .tu [.d (di .i64 ((m207 : Nat) : Int)), .d (.v (.nilIface))]) rfl rfl rfl ?_
    change AO _ _ _ _ _
    refine AO.objs (obs' := [.fix 24 [.d (.v (.slice none 0 0))], .fix 3 [.d (di .i64 (0 : Int))], .fix 4 [.d (dbool false)], .dead, .fix 71 [.d (eS0 a0), .d (di .i64 (((m150 : Nat) : Int) + ((m207 : Nat) : Int))), .d (di .i8 g212)], .dead, .frame fr137 [(6, .ptr 0 0), (7, .ptr 1 0), (8, .ptr 2 0), (9, .ptr 4 0)], .dead, .fix 102 (List.map (fun z => SV.d (keS0 z)) c152), .dead, .dead, .dead, .dead, .dead, .fix 95 [], .fix 63 (List.map (fun z => SV.d (keS1 z)) (List.replicate ((v187 * a2)).toNat (0 : Nat))), .frame fr191 [(11, .sl 15 1 0 (((v187 * a2)).toNat) (((v187 * a2)).toNat))], .fix 5 (List.map (fun z => SV.d (keS0 z)) c209), .frame fr194 [(1, .ifc 95 (.ag [])), (2, .sl 15 1 0 (((v187 * a2)).toNat) (((v187 * a2)).toNat)), (7, .sl 17 1 0 ((((8 : Int) * ((((v187 * a2)).toNat : Nat) : Int))).toNat) ((((8 : Int) * ((((v187 * a2)).toNat : Nat) : Int))).toNat))], .frame fr195 [(4, .d (di .i64 (0 : Int))), (5, .d (.v (.nilIface)))], .dead, .dead]) rfl ?_
    refine AO.nil ?_
    change AD _ _ _ _ _
    refine AD.op [29] rfl (by kernel_rfl) rfl rfl (fun _ _ h => AOp.move rfl rfl (ltb rfl) rfl h) ?_
    first | refine AD.op [21] rfl (by kernel_rfl) rfl rfl (fun _ _ h => AOp.extractD rfl rfl (ltb rfl) rfl rfl h) ?_ | refine AD.op [21] rfl (by kernel_rfl) rfl rfl (fun _ _ h => AOp.extract rfl rfl (ltb rfl) rfl rfl h) ?_
    first | refine AD.op [21] rfl (by kernel_rfl) rfl rfl (fun _ _ h => AOp.extractD rfl rfl (ltb rfl) rfl rfl h) ?_ | refine AD.op [21] rfl (by kernel_rfl) rfl rfl (fun _ _ h => AOp.extract rfl rfl (ltb rfl) rfl rfl h) ?_
    refine AD.op [30] rfl (by kernel_rfl) rfl rfl (fun _ _ h => AOp.assign rfl rfl (ltb rfl) rfl h) ?_
    refine AD.op [31] rfl (by kernel_rfl) rfl rfl (fun _ _ h => AOp.assign rfl rfl (ltb rfl) rfl h) ?_
    refine AD.done ?_
    refine AO.nil ?_
    change AC _ _ _ _
    refine AC.region ?_
    refine AO.op rfl (AOp.move rfl rfl (ltb rfl) rfl ?_)
    refine AO.op rfl (AOp.move rfl rfl (ltb rfl) rfl ?_)
    obtain ⟨q213, h0⟩ := need_elim h0
    refine AO.op rfl (AOp.iadd rfl rfl (ltb rfl) rfl rfl (Int.zero_add _) q213.1 q213.2 ?_)
    refine AO.op rfl (AOp.assign rfl rfl (ltb rfl) rfl ?_)
    refine AO.nil ?_
    change ACL _ _ _ _
    refine ACL.round ?_
    refine AC.seq ?_
    refine AC.seq ?_
    refine AC.region ?_
    refine AO.op rfl (AOp.move rfl rfl (ltb rfl) rfl ?_)
    refine AO.op rfl (AOp.move rfl rfl (ltb rfl) rfl ?_)
    refine AO.op rfl (AOp.ilss rfl rfl (ltb rfl) rfl rfl ?_)
    refine AO.op rfl (AOp.move rfl rfl (ltb rfl) rfl ?_)
    refine AO.dec (decide (((m207 : Nat) : Int) < (((((8 : Int) * ((((v187 * a2)).toNat : Nat) : Int))).toNat : Nat) : Int))) (fun q214 => ?_) (fun q214 => ?_)
    · replace h0 := cT h0 q214
      refine AO.guardY rfl rfl rfl q214 (AOp.move rfl rfl (ltb rfl) rfl ?_)
      refine AO.guardY rfl rfl rfl q214 (AOp.nilEq rfl rfl (ltb rfl) rfl imeth57 ?_)
      refine AO.op rfl (AOp.pick rfl rfl (ltb rfl) rfl q214 rfl ?_)
      refine AO.nil ?_
      change AC _ _ _ _
      refine AC.condT rfl rfl ?_
      refine AC.skip ?_
      change AC _ _ _ _
      refine AC.block ?_
      refine AC.seq ?_
      refine AC.region ?_
      refine AO.op rfl (AOp.assign rfl rfl (ltb rfl) rfl ?_)
      refine AO.nil ?_
      change AC _ _ _ _
      refine AC.seq ?_
      refine AC.drawC 7 mixed (by kernel_rfl) rfl ?_
      refine AD.op [0] rfl (by kernel_rfl) rfl rfl (fun _ _ h => AOp.move rfl rfl (ltb rfl) rfl h) ?_
      refine AD.op [1] rfl (by kernel_rfl) rfl rfl (fun _ _ h => AOp.move rfl rfl (ltb rfl) rfl h) ?_
      refine AD.op [6] rfl (by kernel_rfl) rfl rfl (fun _ _ h => AOp.move rfl rfl (ltb rfl) rfl h) ?_
      obtain ⟨q215, h0⟩ := need_elim h0
      refine AD.op [23, 24] rfl (by kernel_rfl) rfl rfl (fun _ _ h => AOp.sliceSl (cap := ((((8 : Int) * ((((v187 * a2)).toNat : Nat) : Int))).toNat)) rfl rfl (ltb rfl) rfl rfl el22 q215.1 q215.2 h) ?_
      refine AD.op [22] rfl (by kernel_rfl) rfl rfl (fun _ _ h => AOp.makeMeth rfl rfl (ltb rfl) rfl h) ?_
      refine AD.op [26] rfl (by kernel_rfl) rfl rfl (fun _ _ h => AOp.nilMeth rfl rfl (ltb rfl) rfl rfl nilm54_Read h) ?_
      refine AD.op [22] rfl (by kernel_rfl) rfl rfl (fun _ _ h => AOp.move rfl rfl (ltb rfl) rfl h) ?_
      refine AD.done ?_
      refine AO.op rfl (AOp.inlE [0, 1, 2, 6, 7, 8, 21, 29, 30, 31] (EntersS.meth (by kernel_rfl) rfl rfl rfl meth54_Read rfl rfl) Tryd.func71 rfl Tryd.ntmps71 rfl (ltb rfl) (leb rfl) rfl ?_)
      intro fr216
      refine AC.seq ?_
      refine AC.region ?_
      refine AO.op rfl (AOp.assign rfl rfl (ltb rfl) rfl ?_)
      refine AO.op rfl (AOp.assign rfl rfl (ltb rfl) rfl ?_)
      refine AO.objs (obs' := [.fix 24 [.d (.v (.slice none 0 0))], .fix 3 [.d (di .i64 (0 : Int))], .fix 4 [.d (dbool false)], .dead, .fix 71 [.d (eS0 a0), .d (di .i64 (((m150 : Nat) : Int) + ((m207 : Nat) : Int))), .d (di .i8 g212)], .dead, .frame fr137 [(6, .ptr 0 0), (7, .ptr 1 0), (8, .ptr 2 0), (9, .ptr 4 0)], .dead, .fix 102 (List.map (fun z => SV.d (keS0 z)) c152), .dead, .dead, .dead, .dead, .dead, .fix 95 [], .fix 63 (List.map (fun z => SV.d (keS1 z)) (List.replicate ((v187 * a2)).toNat (0 : Nat))), .frame fr191 [(11, .sl 15 1 0 (((v187 * a2)).toNat) (((v187 * a2)).toNat))], .fix 5 (List.map (fun z => SV.d (keS0 z)) c209), .frame fr194 [(1, .ifc 95 (.ag [])), (2, .sl 15 1 0 (((v187 * a2)).toNat) (((v187 * a2)).toNat)), (7, .sl 17 1 0 ((((8 : Int) * ((((v187 * a2)).toNat : Nat) : Int))).toNat) ((((8 : Int) * ((((v187 * a2)).toNat : Nat) : Int))).toNat))], .frame fr195 [(4, .d (di .i64 (0 : Int))), (5, .d (.v (.nilIface)))], .dead, .dead, .frame fr216 [(0, .ifc 54 (.ptr 4 0)), (1, .sl 17 1 0 ((((8 : Int) * ((((v187 * a2)).toNat : Nat) : Int))).toNat) ((((8 : Int) * ((((v187 * a2)).toNat : Nat) : Int))).toNat)), (2, .d (di .i64 (((((8 : Int) * ((((v187 * a2)).toNat : Nat) : Int))).toNat : Nat) : Int))), (6, .d (di .i64 ((m207 : Nat) : Int))), (7, .d (.v (.nilIface))), (8, .d (di .i64 (0 : Int))), (21, .tu [.d (di .i64 ((m207 : Nat) : Int)), .d (.v (.nilIface))]), (29, .tu [.d (di .i64 ((m207 : Nat) : Int)), .d (.v (.nilIface))]), (30, .d (di .i64 ((m207 : Nat) : Int))), (31, .d (.v (.nilIface)))]]) rfl ?_
      refine AO.nil ?_
      change AC _ _ _ _
      refine AC.seq ?_
      refine AC.region ?_
      refine AO.op rfl (AOp.move rfl rfl (ltb rfl) rfl ?_)
      refine AO.op rfl (AOp.nilCheck rfl rfl (ltb rfl) rfl rfl ?_)
      refine AO.op rfl (AOp.fieldAddr rfl rfl (ltb rfl) rfl fo71_2 ?_)
      refine AO.op rfl (AOp.store rfl rfl rfl rfl size69 rfl rfl rfl (leb rfl) ?_)
      refine AO.nil ?_
      change AC _ _ _ _
      refine AC.seq ?_
      refine AC.seq ?_
      refine AC.region ?_
      refine AO.op rfl (AOp.move rfl rfl (ltb rfl) rfl ?_)
      refine AO.op rfl (AOp.inl [0, 1] (by kernel_rfl) Tryd.func75 rfl Tryd.ntmps75 rfl rfl (ltb rfl) rfl (leb rfl) rfl ?_)
      intro fr217
      refine AC.seq ?_
      refine AC.region ?_
      refine AO.op rfl (AOp.assign rfl rfl (ltb rfl) rfl ?_)
      refine AO.objs (obs' := [.fix 24 [.d (.v (.slice none 0 0))], .fix 3 [.d (di .i64 (0 : Int))], .fix 4 [.d (dbool false)], .dead, .fix 71 [.d (eS0 a0), .d (di .i64 (((m150 : Nat) : Int) + ((m207 : Nat) : Int))), .d (di .i8 (0 : Int))], .dead, .frame fr137 [(6, .ptr 0 0), (7, .ptr 1 0), (8, .ptr 2 0), (9, .ptr 4 0)], .dead, .fix 102 (List.map (fun z => SV.d (keS0 z)) c152), .dead, .dead, .dead, .dead, .dead, .fix 95 [], .fix 63 (List.map (fun z => SV.d (keS1 z)) (List.replicate ((v187 * a2)).toNat (0 : Nat))), .frame fr191 [(11, .sl 15 1 0 (((v187 * a2)).toNat) (((v187 * a2)).toNat))], .fix 5 (List.map (fun z => SV.d (keS0 z)) c209), .frame fr194 [(1, .ifc 95 (.ag [])), (2, .sl 15 1 0 (((v187 * a2)).toNat) (((v187 * a2)).toNat)), (7, .sl 17 1 0 ((((8 : Int) * ((((v187 * a2)).toNat : Nat) : Int))).toNat) ((((8 : Int) * ((((v187 * a2)).toNat : Nat) : Int))).toNat))], .frame fr195 [(4, .d (di .i64 (0 : Int))), (5, .d (.v (.nilIface)))], .dead, .dead, .frame fr216 [(0, .ifc 54 (.ptr 4 0)), (1, .sl 17 1 0 ((((8 : Int) * ((((v187 * a2)).toNat : Nat) : Int))).toNat) ((((8 : Int) * ((((v187 * a2)).toNat : Nat) : Int))).toNat)), (2, .d (di .i64 (((((8 : Int) * ((((v187 * a2)).toNat : Nat) : Int))).toNat : Nat) : Int))), (6, .d (di .i64 ((m207 : Nat) : Int))), (7, .d (.v (.nilIface))), (8, .d (di .i64 (0 : Int))), (21, .tu [.d (di .i64 ((m207 : Nat) : Int)), .d (.v (.nilIface))]), (29, .tu [.d (di .i64 ((m207 : Nat) : Int)), .d (.v (.nilIface))]), (30, .d (di .i64 ((m207 : Nat) : Int))), (31, .d (.v (.nilIface)))], .frame fr217 [(0, .ptr 4 0), (1, .sl 17 1 (if ((((8 : Int) * ((((v187 * a2)).toNat : Nat) : Int))).toNat) = (((m207 : Nat) : Int)).toNat then 0 else 0 + (((m207 : Nat) : Int)).toNat * 1) (((((8 : Int) * ((((v187 * a2)).toNat : Nat) : Int))).toNat) - (((m207 : Nat) : Int)).toNat) (((((8 : Int) * ((((v187 * a2)).toNat : Nat) : Int))).toNat) - (((m207 : Nat) : Int)).toNat))]]) rfl ?_
      refine AO.nil ?_
      change AC _ _ _ _
      refine AC.seq ?_
      refine AC.draw 11 mixed (by kernel_rfl) ?_
      refine AD.op [0] rfl (by kernel_rfl) rfl rfl (fun _ _ h => AOp.move rfl rfl (ltb rfl) rfl h) ?_
      refine AD.op [3] rfl (by kernel_rfl) rfl rfl (fun _ _ h => AOp.nilCheck rfl rfl (ltb rfl) rfl rfl h) ?_
      refine AD.op [4] rfl (by kernel_rfl) rfl rfl (fun _ _ h => AOp.fieldAddr rfl rfl (ltb rfl) rfl fo71_0 h) ?_
      refine AD.op [5] rfl (by kernel_rfl) rfl rfl (fun _ _ h => AOp.load1 rfl rfl (ltb rfl) rfl agg22 rfl rfl h) ?_
      refine AD.op [6] rfl (by kernel_rfl) rfl rfl (fun _ _ h => AOp.lenDs (n := a0.length) (cells := (List.map keS0 a0)) rfl rfl (ltb rfl) rfl el22 (by decide) (len1 _ _) h) ?_
      refine AD.op [0] rfl (by kernel_rfl) rfl rfl (fun _ _ h => AOp.move rfl rfl (ltb rfl) rfl h) ?_
      refine AD.op [8] rfl (by kernel_rfl) rfl rfl (fun _ _ h => AOp.nilCheck rfl rfl (ltb rfl) rfl rfl h) ?_
      refine AD.op [9] rfl (by kernel_rfl) rfl rfl (fun _ _ h => AOp.fieldAddr rfl rfl (ltb rfl) rfl fo71_1 h) ?_
      refine AD.op [10] rfl (by kernel_rfl) rfl rfl (fun _ _ h => AOp.load1 rfl rfl (ltb rfl) rfl agg3 rfl rfl h) ?_
      refine AD.op [7, 11] rfl (by kernel_rfl) rfl rfl (fun _ _ h => AOp.ileq rfl rfl (ltb rfl) rfl rfl h) ?_
      refine AD.op [12] rfl (by kernel_rfl) rfl rfl (fun _ _ h => AOp.assign rfl rfl (ltb rfl) rfl h) ?_
      refine AD.done ?_
      refine AO.nil ?_
      change AC _ _ _ _
      refine AC.ret ?_
      refine inlret (ob' := [.fix 24 [.d (.v (.slice none 0 0))], .fix 3 [.d (di .i64 (0 : Int))], .fix 4 [.d (dbool false)], .dead, .fix 71 [.d (eS0 a0), .d (di .i64 (((m150 : Nat) : Int) + ((m207 : Nat) : Int))), .d (di .i8 (0 : Int))], .dead, .frame fr137 [(6, .ptr 0 0), (7, .ptr 1 0), (8, .ptr 2 0), (9, .ptr 4 0)], .dead, .fix 102 (List.map (fun z => SV.d (keS0 z)) c152), .dead, .dead, .dead, .dead, .dead, .fix 95 [], .fix 63 (List.map (fun z => SV.d (keS1 z)) (List.replicate ((v187 * a2)).toNat (0 : Nat))), .frame fr191 [(11, .sl 15 1 0 (((v187 * a2)).toNat) (((v187 * a2)).toNat))], .fix 5 (List.map (fun z => SV.d (keS0 z)) c209), .frame fr194 [(1, .ifc 95 (.ag [])), (2, .sl 15 1 0 (((v187 * a2)).toNat) (((v187 * a2)).toNat)), (7, .sl 17 1 0 ((((8 : Int) * ((((v187 * a2)).toNat : Nat) : Int))).toNat) ((((8 : Int) * ((((v187 * a2)).toNat : Nat) : Int))).toNat))], .frame fr195 [(4, .d (di .i64 (0 : Int))), (5, .d (.v (.nilIface)))], .dead, .dead, .frame fr216 [(0, .ifc 54 (.ptr 4 0)), (1, .sl 17 1 0 ((((8 : Int) * ((((v187 * a2)).toNat : Nat) : Int))).toNat) ((((8 : Int) * ((((v187 * a2)).toNat : Nat) : Int))).toNat)), (2, .d (di .i64 (((((8 : Int) * ((((v187 * a2)).toNat : Nat) : Int))).toNat : Nat) : Int))), (6, .d (di .i64 ((m207 : Nat) : Int))), (7, .d (.v (.nilIface))), (8, .d (di .i64 (0 : Int))), (21, .tu [.d (di .i64 ((m207 : Nat) : Int)), .d (.v (.nilIface))]), (29, .tu [.d (di .i64 ((m207 : Nat) : Int)), .d (.v (.nilIface))]), (30, .d (di .i64 ((m207 : Nat) : Int))), (31, .d (.v (.nilIface)))], .dead]) (e' := [(0, .ptr 4 0), (1, .sl 17 1 (if ((((8 : Int) * ((((v187 * a2)).toNat : Nat) : Int))).toNat) = (((m207 : Nat) : Int)).toNat then 0 else 0 + (((m207 : Nat) : Int)).toNat * 1) (((((8 : Int) * ((((v187 * a2)).toNat : Nat) : Int))).toNat) - (((m207 : Nat) : Int)).toNat) (((((8 : Int) * ((((v187 * a2)).toNat : Nat) : Int))).toNat) - (((m207 : Nat) : Int)).toNat))]) (r := .d (dbool (decide (((a0.length : Nat) : Int) ≤ (((m150 : Nat) : Int) + ((m207 : Nat) : Int)))))) rfl rfl rfl ?_
      change AO _ _ _ _ _
      refine AO.objs (obs' := [.fix 24 [.d (.v (.slice none 0 0))], .fix 3 [.d (di .i64 (0 : Int))], .fix 4 [.d (dbool false)], .dead, .fix 71 [.d (eS0 a0), .d (di .i64 (((m150 : Nat) : Int) + ((m207 : Nat) : Int))), .d (di .i8 (0 : Int))], .dead, .frame fr137 [(6, .ptr 0 0), (7, .ptr 1 0), (8, .ptr 2 0), (9, .ptr 4 0)], .dead, .fix 102 (List.map (fun z => SV.d (keS0 z)) c152), .dead, .dead, .dead, .dead, .dead, .fix 95 [], .fix 63 (List.map (fun z => SV.d (keS1 z)) (List.replicate ((v187 * a2)).toNat (0 : Nat))), .frame fr191 [(11, .sl 15 1 0 (((v187 * a2)).toNat) (((v187 * a2)).toNat))], .fix 5 (List.map (fun z => SV.d (keS0 z)) c209), .frame fr194 [(1, .ifc 95 (.ag [])), (2, .sl 15 1 0 (((v187 * a2)).toNat) (((v187 * a2)).toNat)), (7, .sl 17 1 0 ((((8 : Int) * ((((v187 * a2)).toNat : Nat) : Int))).toNat) ((((8 : Int) * ((((v187 * a2)).toNat : Nat) : Int))).toNat))], .frame fr195 [(4, .d (di .i64 (0 : Int))), (5, .d (.v (.nilIface)))], .dead, .dead, .frame fr216 [(0, .ifc 54 (.ptr 4 0)), (1, .sl 17 1 0 ((((8 : Int) * ((((v187 * a2)).toNat : Nat) : Int))).toNat) ((((8 : Int) * ((((v187 * a2)).toNat : Nat) : Int))).toNat)), (2, .d (di .i64 (((((8 : Int) * ((((v187 * a2)).toNat : Nat) : Int))).toNat : Nat) : Int))), (6, .d (di .i64 ((m207 : Nat) : Int))), (7, .d (.v (.nilIface))), (8, .d (di .i64 (0 : Int))), (21, .tu [.d (di .i64 ((m207 : Nat) : Int)), .d (.v (.nilIface))]), (29, .tu [.d (di .i64 ((m207 : Nat) : Int)), .d (.v (.nilIface))]), (30, .d (di .i64 ((m207 : Nat) : Int))), (31, .d (.v (.nilIface)))], .dead]) rfl ?_
      refine AO.nil ?_
      change AC _ _ _ _
      refine AC.cond rfl (fun q218 => ?_) (fun q218 => ?_)
      · replace h0 := cT h0 q218
        refine AC.seq ?_
        refine AC.region ?_
        refine AO.op rfl (AOp.move rfl rfl (ltb rfl) rfl ?_)
        refine AO.op rfl (AOp.inl [1] (by kernel_rfl) Tryd.func72 rfl Tryd.ntmps72 rfl rfl (ltb rfl) rfl (leb rfl) rfl ?_)
        intro fr219
        refine AC.seq ?_
        refine AC.region ?_
        refine AO.op rfl (AOp.move rfl rfl (ltb rfl) rfl ?_)
        refine AO.op rfl (AOp.move rfl rfl (ltb rfl) rfl ?_)
        refine AO.op rfl (AOp.nilCheck rfl rfl (ltb rfl) rfl rfl ?_)
        refine AO.op rfl (AOp.fieldAddr rfl rfl (ltb rfl) rfl fo71_0 ?_)
        refine AO.op rfl (AOp.load1 rfl rfl (ltb rfl) rfl agg22 rfl rfl ?_)
        obtain ⟨q220, h0⟩ := need_elim h0
        refine AO.op rfl (AOp.sliceD (cells := (List.map keS0 a0)) (n := a0.length) (l := 0) (hh := ((0 : Int)).toNat) rfl rfl (ltb rfl) rfl (.inl ⟨rfl, rfl⟩) (.inr ⟨_, _, _, rfl, rfl, q220.1.2, rfl⟩) el22 (by decide) (len1 _ _) q220.2.1 q220.2.2 (sub1 _ _ _ _) ?_)
        refine AO.op rfl (AOp.nilCheck rfl rfl (ltb rfl) rfl rfl ?_)
        refine AO.op rfl (AOp.fieldAddr rfl rfl (ltb rfl) rfl fo71_0 ?_)
        refine AO.op rfl (AOp.store rfl rfl rfl rfl size22 rfl rfl rfl (leb rfl) ?_)
        refine AO.objs (obs' := [.fix 24 [.d (.v (.slice none 0 0))], .fix 3 [.d (di .i64 (0 : Int))], .fix 4 [.d (dbool false)], .dead, .fix 71 [.d (eS0 ((a0.drop 0).take (((0 : Int)).toNat - 0))), .d (di .i64 (((m150 : Nat) : Int) + ((m207 : Nat) : Int))), .d (di .i8 (0 : Int))], .dead, .frame fr137 [(6, .ptr 0 0), (7, .ptr 1 0), (8, .ptr 2 0), (9, .ptr 4 0)], .dead, .fix 102 (List.map (fun z => SV.d (keS0 z)) c152), .dead, .dead, .dead, .dead, .dead, .fix 95 [], .fix 63 (List.map (fun z => SV.d (keS1 z)) (List.replicate ((v187 * a2)).toNat (0 : Nat))), .frame fr191 [(11, .sl 15 1 0 (((v187 * a2)).toNat) (((v187 * a2)).toNat))], .fix 5 (List.map (fun z => SV.d (keS0 z)) c209), .frame fr194 [(1, .ifc 95 (.ag [])), (2, .sl 15 1 0 (((v187 * a2)).toNat) (((v187 * a2)).toNat)), (7, .sl 17 1 0 ((((8 : Int) * ((((v187 * a2)).toNat : Nat) : Int))).toNat) ((((8 : Int) * ((((v187 * a2)).toNat : Nat) : Int))).toNat))], .frame fr195 [(4, .d (di .i64 (0 : Int))), (5, .d (.v (.nilIface)))], .dead, .dead, .frame fr216 [(0, .ifc 54 (.ptr 4 0)), (1, .sl 17 1 0 ((((8 : Int) * ((((v187 * a2)).toNat : Nat) : Int))).toNat) ((((8 : Int) * ((((v187 * a2)).toNat : Nat) : Int))).toNat)), (2, .d (di .i64 (((((8 : Int) * ((((v187 * a2)).toNat : Nat) : Int))).toNat : Nat) : Int))), (6, .d (di .i64 ((m207 : Nat) : Int))), (7, .d (.v (.nilIface))), (8, .d (di .i64 (0 : Int))), (21, .tu [.d (di .i64 ((m207 : Nat) : Int)), .d (.v (.nilIface))]), (29, .tu [.d (di .i64 ((m207 : Nat) : Int)), .d (.v (.nilIface))]), (30, .d (di .i64 ((m207 : Nat) : Int))), (31, .d (.v (.nilIface)))], .dead, .frame fr219 [(1, .sl 17 1 (if ((((8 : Int) * ((((v187 * a2)).toNat : Nat) : Int))).toNat) = (((m207 : Nat) : Int)).toNat then 0 else 0 + (((m207 : Nat) : Int)).toNat * 1) (((((8 : Int) * ((((v187 * a2)).toNat : Nat) : Int))).toNat) - (((m207 : Nat) : Int)).toNat) (((((8 : Int) * ((((v187 * a2)).toNat : Nat) : Int))).toNat) - (((m207 : Nat) : Int)).toNat))]]) rfl ?_
        refine AO.nil ?_
        change AC _ _ _ _
        refine AC.seq ?_
        refine AC.region ?_
        refine AO.op rfl (AOp.move rfl rfl (ltb rfl) rfl ?_)
        refine AO.op rfl (AOp.nilCheck rfl rfl (ltb rfl) rfl rfl ?_)
        refine AO.op rfl (AOp.fieldAddr rfl rfl (ltb rfl) rfl fo71_1 ?_)
        refine AO.op rfl (AOp.store rfl rfl rfl rfl size3 rfl rfl rfl (leb rfl) ?_)
        refine AO.nil ?_
        change AC _ _ _ _
        refine AC.region ?_
        refine AO.op rfl (AOp.move rfl rfl (ltb rfl) rfl ?_)
        refine AO.op rfl (AOp.nilCheck rfl rfl (ltb rfl) rfl rfl ?_)
        refine AO.op rfl (AOp.fieldAddr rfl rfl (ltb rfl) rfl fo71_2 ?_)
        refine AO.op rfl (AOp.store rfl rfl rfl rfl size69 rfl rfl rfl (leb rfl) ?_)
        refine AO.nil ?_
        refine inlend (ob' := [.fix 24 [.d (.v (.slice none 0 0))], .fix 3 [.d (di .i64 (0 : Int))], .fix 4 [.d (dbool false)], .dead, .fix 71 [.d (eS0 ((a0.drop 0).take (((0 : Int)).toNat - 0))), .d (di .i64 (0 : Int)), .d (di .i8 (0 : Int))], .dead, .frame fr137 [(6, .ptr 0 0), (7, .ptr 1 0), (8, .ptr 2 0), (9, .ptr 4 0)], .dead, .fix 102 (List.map (fun z => SV.d (keS0 z)) c152), .dead, .dead, .dead, .dead, .dead, .fix 95 [], .fix 63 (List.map (fun z => SV.d (keS1 z)) (List.replicate ((v187 * a2)).toNat (0 : Nat))), .frame fr191 [(11, .sl 15 1 0 (((v187 * a2)).toNat) (((v187 * a2)).toNat))], .fix 5 (List.map (fun z => SV.d (keS0 z)) c209), .frame fr194 [(1, .ifc 95 (.ag [])), (2, .sl 15 1 0 (((v187 * a2)).toNat) (((v187 * a2)).toNat)), (7, .sl 17 1 0 ((((8 : Int) * ((((v187 * a2)).toNat : Nat) : Int))).toNat) ((((8 : Int) * ((((v187 * a2)).toNat : Nat) : Int))).toNat))], .frame fr195 [(4, .d (di .i64 (0 : Int))), (5, .d (.v (.nilIface)))], .dead, .dead, .frame fr216 [(0, .ifc 54 (.ptr 4 0)), (1, .sl 17 1 0 ((((8 : Int) * ((((v187 * a2)).toNat : Nat) : Int))).toNat) ((((8 : Int) * ((((v187 * a2)).toNat : Nat) : Int))).toNat)), (2, .d (di .i64 (((((8 : Int) * ((((v187 * a2)).toNat : Nat) : Int))).toNat : Nat) : Int))), (6, .d (di .i64 ((m207 : Nat) : Int))), (7, .d (.v (.nilIface))), (8, .d (di .i64 (0 : Int))), (21, .tu [.d (di .i64 ((m207 : Nat) : Int)), .d (.v (.nilIface))]), (29, .tu [.d (di .i64 ((m207 : Nat) : Int)), .d (.v (.nilIface))]), (30, .d (di .i64 ((m207 : Nat) : Int))), (31, .d (.v (.nilIface)))], .dead, .dead]) (e' := [(1, .sl 17 1 (if ((((8 : Int) * ((((v187 * a2)).toNat : Nat) : Int))).toNat) = (((m207 : Nat) : Int)).toNat then 0 else 0 + (((m207 : Nat) : Int)).toNat * 1) (((((8 : Int) * ((((v187 * a2)).toNat : Nat) : Int))).toNat) - (((m207 : Nat) : Int)).toNat) (((((8 : Int) * ((((v187 * a2)).toNat : Nat) : Int))).toNat) - (((m207 : Nat) : Int)).toNat))]) (r := .tu []) rfl rfl rfl ?_
        change AO _ _ _ _ _
        refine AO.objs (obs' := [.fix 24 [.d (.v (.slice none 0 0))], .fix 3 [.d (di .i64 (0 : Int))], .fix 4 [.d (dbool false)], .dead, .fix 71 [.d (eS0 ((a0.drop 0).take (((0 : Int)).toNat - 0))), .d (di .i64 (0 : Int)), .d (di .i8 (0 : Int))], .dead, .frame fr137 [(6, .ptr 0 0), (7, .ptr 1 0), (8, .ptr 2 0), (9, .ptr 4 0)], .dead, .fix 102 (List.map (fun z => SV.d (keS0 z)) c152), .dead, .dead, .dead, .dead, .dead, .fix 95 [], .fix 63 (List.map (fun z => SV.d (keS1 z)) (List.replicate ((v187 * a2)).toNat (0 : Nat))), .frame fr191 [(11, .sl 15 1 0 (((v187 * a2)).toNat) (((v187 * a2)).toNat))], .fix 5 (List.map (fun z => SV.d (keS0 z)) c209), .frame fr194 [(1, .ifc 95 (.ag [])), (2, .sl 15 1 0 (((v187 * a2)).toNat) (((v187 * a2)).toNat)), (7, .sl 17 1 0 ((((8 : Int) * ((((v187 * a2)).toNat : Nat) : Int))).toNat) ((((8 : Int) * ((((v187 * a2)).toNat : Nat) : Int))).toNat))], .frame fr195 [(4, .d (di .i64 (0 : Int))), (5, .d (.v (.nilIface)))], .dead, .dead, .frame fr216 [(0, .ifc 54 (.ptr 4 0)), (1, .sl 17 1 0 ((((8 : Int) * ((((v187 * a2)).toNat : Nat) : Int))).toNat) ((((8 : Int) * ((((v187 * a2)).toNat : Nat) : Int))).toNat)), (2, .d (di .i64 (((((8 : Int) * ((((v187 * a2)).toNat : Nat) : Int))).toNat : Nat) : Int))), (6, .d (di .i64 ((m207 : Nat) : Int))), (7, .d (.v (.nilIface))), (8, .d (di .i64 (0 : Int))), (21, .tu [.d (di .i64 ((m207 : Nat) : Int)), .d (.v (.nilIface))]), (29, .tu [.d (di .i64 ((m207 : Nat) : Int)), .d (.v (.nilIface))]), (30, .d (di .i64 ((m207 : Nat) : Int))), (31, .d (.v (.nilIface)))], .dead, .dead]) rfl ?_
        refine AO.nil ?_
        change AC _ _ _ _
        refine AC.seq ?_
        refine AC.seq ?_
        refine AC.region ?_
        refine AO.op rfl (AOp.move rfl rfl (ltb rfl) rfl ?_)
        refine AO.op rfl (AOp.lenSl rfl rfl (ltb rfl) rfl el22 ?_)
        refine AO.op rfl (AOp.ieql rfl rfl (ltb rfl) rfl rfl ?_)
        refine AO.nil ?_
        change AC _ _ _ _
        refine AC.cond rfl (fun q221 => ?_) (fun q221 => ?_)
        · replace h0 := cT h0 q221
          cases h0
        replace h0 := cF h0 q221
        refine AC.skip ?_
        change AC _ _ _ _
        refine AC.seq ?_
        refine AC.draw 3 mixed (by kernel_rfl) ?_
        refine AD.op [] rfl (by kernel_rfl) rfl rfl (fun _ _ h => AOp.loadEV rfl rfl (ltb rfl) rfl agg57 (by simp [GlobsP]) h) ?_
        refine AD.op [] rfl (by kernel_rfl) rfl rfl (fun _ _ h => AOp.assign rfl rfl (ltb rfl) rfl h) ?_
        refine AD.op [16] rfl (by kernel_rfl) rfl rfl (fun _ _ h => AOp.assign rfl rfl (ltb rfl) rfl h) ?_
        refine AD.done ?_
        refine AO.nil ?_
        change AC _ _ _ _
        refine AC.ret ?_
        refine inlret (ob' := [.fix 24 [.d (.v (.slice none 0 0))], .fix 3 [.d (di .i64 (0 : Int))], .fix 4 [.d (dbool false)], .dead, .fix 71 [.d (eS0 ((a0.drop 0).take (((0 : Int)).toNat - 0))), .d (di .i64 (0 : Int)), .d (di .i8 (0 : Int))], .dead, .frame fr137 [(6, .ptr 0 0), (7, .ptr 1 0), (8, .ptr 2 0), (9, .ptr 4 0)], .dead, .fix 102 (List.map (fun z => SV.d (keS0 z)) c152), .dead, .dead, .dead, .dead, .dead, .fix 95 [], .fix 63 (List.map (fun z => SV.d (keS1 z)) (List.replicate ((v187 * a2)).toNat (0 : Nat))), .frame fr191 [(11, .sl 15 1 0 (((v187 * a2)).toNat) (((v187 * a2)).toNat))], .fix 5 (List.map (fun z => SV.d (keS0 z)) c209), .frame fr194 [(1, .ifc 95 (.ag [])), (2, .sl 15 1 0 (((v187 * a2)).toNat) (((v187 * a2)).toNat)), (7, .sl 17 1 0 ((((8 : Int) * ((((v187 * a2)).toNat : Nat) : Int))).toNat) ((((8 : Int) * ((((v187 * a2)).toNat : Nat) : Int))).toNat))], .frame fr195 [(4, .d (di .i64 (0 : Int))), (5, .d (.v (.nilIface)))], .dead, .dead, .dead, .dead, .dead]) (e' := [(0, .ifc 54 (.ptr 4 0)), (1, .sl 17 1 0 ((((8 : Int) * ((((v187 * a2)).toNat : Nat) : Int))).toNat) ((((8 : Int) * ((((v187 * a2)).toNat : Nat) : Int))).toNat)), (2, .d (di .i64 (((((8 : Int) * ((((v187 * a2)).toNat : Nat) : Int))).toNat : Nat) : Int))), (6, .d (di .i64 ((m207 : Nat) : Int))), (7, .d (.v (.nilIface))), (8, .d (di .i64 (0 : Int))), (21, .tu [.d (di .i64 ((m207 : Nat) : Int)), .d (.v (.nilIface))]), (29, .tu [.d (di .i64 ((m207 : Nat) : Int)), .d (.v (.nilIface))]), (30, .d (di .i64 ((m207 : Nat) : Int))), (31, .d (.v (.nilIface)))]) (r := .tu [.d (di .i64 (0 : Int)), .d (.v (errV W 5))]) rfl rfl rfl ?_
        change AO _ _ _ _ _
        refine AO.objs (obs' := [.fix 24 [.d (.v (.slice none 0 0))], .fix 3 [.d (di .i64 (0 : Int))], .fix 4 [.d (dbool false)], .dead, .fix 71 [.d (eS0 ((a0.drop 0).take (((0 : Int)).toNat - 0))), .d (di .i64 (0 : Int)), .d (di .i8 (0 : Int))], .dead, .frame fr137 [(6, .ptr 0 0), (7, .ptr 1 0), (8, .ptr 2 0), (9, .ptr 4 0)], .dead, .fix 102 (List.map (fun z => SV.d (keS0 z)) c152), .dead, .dead, .dead, .dead, .dead, .fix 95 [], .fix 63 (List.map (fun z => SV.d (keS1 z)) (List.replicate ((v187 * a2)).toNat (0 : Nat))), .frame fr191 [(11, .sl 15 1 0 (((v187 * a2)).toNat) (((v187 * a2)).toNat))], .fix 5 (List.map (fun z => SV.d (keS0 z)) c209), .frame fr194 [(1, .ifc 95 (.ag [])), (2, .sl 15 1 0 (((v187 * a2)).toNat) (((v187 * a2)).toNat)), (7, .sl 17 1 0 ((((8 : Int) * ((((v187 * a2)).toNat : Nat) : Int))).toNat) ((((8 : Int) * ((((v187 * a2)).toNat : Nat) : Int))).toNat))], .frame fr195 [(4, .d (di .i64 (0 : Int))), (5, .d (.v (.nilIface)))], .dead, .dead, .dead, .dead, .dead]) rfl ?_
        refine AO.nil ?_
        change AD _ _ _ _ _
        refine AD.op [29] rfl (by kernel_rfl) rfl rfl (fun _ _ h => AOp.move rfl rfl (ltb rfl) rfl h) ?_
        first | refine AD.op [21] rfl (by kernel_rfl) rfl rfl (fun _ _ h => AOp.extractD rfl rfl (ltb rfl) rfl rfl h) ?_ | refine AD.op [21] rfl (by kernel_rfl) rfl rfl (fun _ _ h => AOp.extract rfl rfl (ltb rfl) rfl rfl h) ?_
        first | refine AD.op [21] rfl (by kernel_rfl) rfl rfl (fun _ _ h => AOp.extractD rfl rfl (ltb rfl) rfl rfl h) ?_ | refine AD.op [21] rfl (by kernel_rfl) rfl rfl (fun _ _ h => AOp.extract rfl rfl (ltb rfl) rfl rfl h) ?_
        refine AD.op [30] rfl (by kernel_rfl) rfl rfl (fun _ _ h => AOp.assign rfl rfl (ltb rfl) rfl h) ?_
        refine AD.op [31] rfl (by kernel_rfl) rfl rfl (fun _ _ h => AOp.assign rfl rfl (ltb rfl) rfl h) ?_
        refine AD.done ?_
        refine AO.nil ?_
        change AC _ _ _ _
        refine AC.region ?_
        refine AO.op rfl (AOp.move rfl rfl (ltb rfl) rfl ?_)
        refine AO.op rfl (AOp.move rfl rfl (ltb rfl) rfl ?_)
        obtain ⟨q222, h0⟩ := need_elim h0
        refine AO.op rfl (AOp.iadd rfl rfl (ltb rfl) rfl rfl (Int.add_zero _) q222.1 q222.2 ?_)
        refine AO.op rfl (AOp.assign rfl rfl (ltb rfl) rfl ?_)
        refine AO.nil ?_
        change ACL _ _ _ _
        refine ACL.round ?_
        refine AC.seq ?_
        refine AC.seq ?_
        refine AC.region ?_
        refine AO.op rfl (AOp.move rfl rfl (ltb rfl) rfl ?_)
        refine AO.op rfl (AOp.move rfl rfl (ltb rfl) rfl ?_)
        refine AO.op rfl (AOp.ilss rfl rfl (ltb rfl) rfl rfl ?_)
        refine AO.op rfl (AOp.move rfl rfl (ltb rfl) rfl ?_)
        refine AO.guardY rfl rfl rfl q214 (AOp.move rfl rfl (ltb rfl) rfl ?_)
        refine AO.guardY rfl rfl rfl q214 (AOp.errEql rfl rfl (ltb rfl) rfl (by simp [GlobsP]) imeth57 ?_)
        refine AO.op rfl (AOp.pick rfl rfl (ltb rfl) rfl q214 rfl ?_)
        refine AO.nil ?_
        change AC _ _ _ _
        refine AC.condF rfl rfl ?_
        refine AC.exit ?_
        change AC _ _ _ _
        refine AC.seq ?_
        refine AC.seq ?_
        refine AC.region ?_
        refine AO.op rfl (AOp.move rfl rfl (ltb rfl) rfl ?_)
        refine AO.op rfl (AOp.move rfl rfl (ltb rfl) rfl ?_)
        refine AO.op rfl (AOp.igeq rfl rfl (ltb rfl) rfl rfl ?_)
        refine AO.nil ?_
        change AC _ _ _ _
        refine AC.condF rfl (dlt_ge q214) ?_
        refine AC.seq ?_
        refine AC.region ?_
        refine AO.op rfl (AOp.move rfl rfl (ltb rfl) rfl ?_)
        refine AO.op rfl (AOp.igtr rfl rfl (ltb rfl) rfl rfl ?_)
        refine AO.op rfl (AOp.move rfl rfl (ltb rfl) rfl ?_)
        refine AO.dec (decide ((0 : Int) < ((m207 : Nat) : Int))) (fun q223 => ?_) (fun q223 => ?_)
        · replace h0 := cT h0 q223
          refine AO.guardY rfl rfl rfl q223 (AOp.move rfl rfl (ltb rfl) rfl ?_)
          refine AO.guardY rfl rfl rfl q223 (AOp.loadEV rfl rfl (ltb rfl) rfl agg57 (by simp [GlobsP]) ?_)
          refine AO.guardY rfl rfl rfl q223 (AOp.errSame rfl rfl (ltb rfl) rfl rfl (by simp [GlobsP]) cmpE imeth57 ?_)
          refine AO.op rfl (AOp.pick rfl rfl (ltb rfl) rfl q223 rfl ?_)
          refine AO.nil ?_
          change AC _ _ _ _
          refine AC.condT rfl rfl ?_
          refine AC.region ?_
          refine AO.op rfl (AOp.loadEV rfl rfl (ltb rfl) rfl agg57 (by simp [GlobsP]) ?_)
          refine AO.op rfl (AOp.assign rfl rfl (ltb rfl) rfl ?_)
          refine AO.nil ?_
          change AC _ _ _ _
          refine AC.ret ?_
          refine inlret (ob' := [.fix 24 [.d (.v (.slice none 0 0))], .fix 3 [.d (di .i64 (0 : Int))], .fix 4 [.d (dbool false)], .dead, .fix 71 [.d (eS0 ((a0.drop 0).take (((0 : Int)).toNat - 0))), .d (di .i64 (0 : Int)), .d (di .i8 (0 : Int))], .dead, .frame fr137 [(6, .ptr 0 0), (7, .ptr 1 0), (8, .ptr 2 0), (9, .ptr 4 0)], .dead, .fix 102 (List.map (fun z => SV.d (keS0 z)) c152), .dead, .dead, .dead, .dead, .dead, .fix 95 [], .fix 63 (List.map (fun z => SV.d (keS1 z)) (List.replicate ((v187 * a2)).toNat (0 : Nat))), .frame fr191 [(11, .sl 15 1 0 (((v187 * a2)).toNat) (((v187 * a2)).toNat))], .fix 5 (List.map (fun z => SV.d (keS0 z)) c209), .frame fr194 [(1, .ifc 95 (.ag [])), (2, .sl 15 1 0 (((v187 * a2)).toNat) (((v187 * a2)).toNat)), (7, .sl 17 1 0 ((((8 : Int) * ((((v187 * a2)).toNat : Nat) : Int))).toNat) ((((8 : Int) * ((((v187 * a2)).toNat : Nat) : Int))).toNat))], .dead, .dead, .dead, .dead, .dead, .dead]) (e' := [(4, .d (di .i64 (0 : Int))), (5, .d (.v (.nilIface)))]) (r := .tu [.d (di .i64 ((m207 : Nat) : Int)), .d (.v (errV W 6))]) rfl rfl rfl ?_
          change AO _ _ _ _ _
          first | refine AO.op rfl (AOp.extractD rfl rfl (ltb rfl) rfl rfl ?_) | refine AO.op rfl (AOp.extract rfl rfl (ltb rfl) rfl rfl ?_)
          first | refine AO.op rfl (AOp.extractD rfl rfl (ltb rfl) rfl rfl ?_) | refine AO.op rfl (AOp.extract rfl rfl (ltb rfl) rfl rfl ?_)
          refine AO.op rfl (AOp.assign rfl rfl (ltb rfl) rfl ?_)
          refine AO.op rfl (AOp.assign rfl rfl (ltb rfl) rfl ?_)
          refine AO.objs (obs' := [.fix 24 [.d (.v (.slice none 0 0))], .fix 3 [.d (di .i64 (0 : Int))], .fix 4 [.d (dbool false)], .dead, .fix 71 [.d (eS0 ((a0.drop 0).take (((0 : Int)).toNat - 0))), .d (di .i64 (0 : Int)), .d (di .i8 (0 : Int))], .dead, .frame fr137 [(6, .ptr 0 0), (7, .ptr 1 0), (8, .ptr 2 0), (9, .ptr 4 0)], .dead, .fix 102 (List.map (fun z => SV.d (keS0 z)) c152), .dead, .dead, .dead, .dead, .dead, .fix 95 [], .fix 63 (List.map (fun z => SV.d (keS1 z)) (List.replicate ((v187 * a2)).toNat (0 : Nat))), .frame fr191 [(11, .sl 15 1 0 (((v187 * a2)).toNat) (((v187 * a2)).toNat))], .fix 5 (List.map (fun z => SV.d (keS0 z)) c209), .frame fr194 [(1, .ifc 95 (.ag [])), (2, .sl 15 1 0 (((v187 * a2)).toNat) (((v187 * a2)).toNat)), (7, .sl 17 1 0 ((((8 : Int) * ((((v187 * a2)).toNat : Nat) : Int))).toNat) ((((8 : Int) * ((((v187 * a2)).toNat : Nat) : Int))).toNat))], .dead, .dead, .dead, .dead, .dead, .dead]) rfl ?_
          refine AO.nil ?_
          change AC _ _ _ _
          refine AC.ret ?_
          refine inlret (ob' := [.fix 24 [.d (.v (.slice none 0 0))], .fix 3 [.d (di .i64 (0 : Int))], .fix 4 [.d (dbool false)], .dead, .fix 71 [.d (eS0 ((a0.drop 0).take (((0 : Int)).toNat - 0))), .d (di .i64 (0 : Int)), .d (di .i8 (0 : Int))], .dead, .frame fr137 [(6, .ptr 0 0), (7, .ptr 1 0), (8, .ptr 2 0), (9, .ptr 4 0)], .dead, .fix 102 (List.map (fun z => SV.d (keS0 z)) c152), .dead, .dead, .dead, .dead, .dead, .fix 95 [], .fix 63 (List.map (fun z => SV.d (keS1 z)) (List.replicate ((v187 * a2)).toNat (0 : Nat))), .frame fr191 [(11, .sl 15 1 0 (((v187 * a2)).toNat) (((v187 * a2)).toNat))], .fix 5 (List.map (fun z => SV.d (keS0 z)) c209), .dead, .dead, .dead, .dead, .dead, .dead, .dead]) (e' := [(1, .ifc 95 (.ag [])), (2, .sl 15 1 0 (((v187 * a2)).toNat) (((v187 * a2)).toNat)), (7, .sl 17 1 0 ((((8 : Int) * ((((v187 * a2)).toNat : Nat) : Int))).toNat) ((((8 : Int) * ((((v187 * a2)).toNat : Nat) : Int))).toNat))]) (r := .tu [.d (di .i64 ((m207 : Nat) : Int)), .d (.v (errV W 6))]) rfl rfl rfl ?_
          change AO _ _ _ _ _
          refine AO.op rfl (AOp.move rfl rfl (ltb rfl) rfl ?_)
          first | refine AO.op rfl (AOp.extractD rfl rfl (ltb rfl) rfl rfl ?_) | refine AO.op rfl (AOp.extract rfl rfl (ltb rfl) rfl rfl ?_)
          first | refine AO.op rfl (AOp.extractD rfl rfl (ltb rfl) rfl rfl ?_) | refine AO.op rfl (AOp.extract rfl rfl (ltb rfl) rfl rfl ?_)
          refine AO.op rfl (AOp.assign rfl rfl (ltb rfl) rfl ?_)
          refine AO.op rfl (AOp.assign rfl rfl (ltb rfl) rfl ?_)
          refine AO.objs (obs' := [.fix 24 [.d (.v (.slice none 0 0))], .fix 3 [.d (di .i64 (0 : Int))], .fix 4 [.d (dbool false)], .dead, .fix 71 [.d (eS0 ((a0.drop 0).take (((0 : Int)).toNat - 0))), .d (di .i64 (0 : Int)), .d (di .i8 (0 : Int))], .dead, .frame fr137 [(6, .ptr 0 0), (7, .ptr 1 0), (8, .ptr 2 0), (9, .ptr 4 0)], .dead, .fix 102 (List.map (fun z => SV.d (keS0 z)) c152), .dead, .dead, .dead, .dead, .dead, .fix 95 [], .fix 63 (List.map (fun z => SV.d (keS1 z)) (List.replicate ((v187 * a2)).toNat (0 : Nat))), .frame fr191 [(11, .sl 15 1 0 (((v187 * a2)).toNat) (((v187 * a2)).toNat))], .fix 5 (List.map (fun z => SV.d (keS0 z)) c209), .dead, .dead, .dead, .dead, .dead, .dead, .dead]) rfl ?_
          refine AO.nil ?_
          change AC _ _ _ _
          refine AC.seq ?_
          refine AC.region ?_
          refine AO.op rfl (AOp.move rfl rfl (ltb rfl) rfl ?_)
          refine AO.op rfl (AOp.errNeq rfl rfl (ltb rfl) rfl (by simp [GlobsP]) imeth57 ?_)
          refine AO.nil ?_
          change AC _ _ _ _
          refine AC.condT rfl rfl ?_
          refine AC.seq ?_
          refine AC.region ?_
          refine AO.op rfl (AOp.move rfl rfl (ltb rfl) rfl ?_)
          refine AO.op rfl (AOp.assign rfl rfl (ltb rfl) rfl ?_)
          refine AO.nil ?_
          change AC _ _ _ _
          refine AC.ret ?_
          refine inlret (ob' := [.fix 24 [.d (.v (.slice none 0 0))], .fix 3 [.d (di .i64 (0 : Int))], .fix 4 [.d (dbool false)], .dead, .fix 71 [.d (eS0 ((a0.drop 0).take (((0 : Int)).toNat - 0))), .d (di .i64 (0 : Int)), .d (di .i8 (0 : Int))], .dead, .frame fr137 [(6, .ptr 0 0), (7, .ptr 1 0), (8, .ptr 2 0), (9, .ptr 4 0)], .dead, .fix 102 (List.map (fun z => SV.d (keS0 z)) c152), .dead, .dead, .dead, .dead, .dead, .fix 95 [], .fix 63 (List.map (fun z => SV.d (keS1 z)) (List.replicate ((v187 * a2)).toNat (0 : Nat))), .dead, .fix 5 (List.map (fun z => SV.d (keS0 z)) c209), .dead, .dead, .dead, .dead, .dead, .dead, .dead]) (e' := [(11, .sl 15 1 0 (((v187 * a2)).toNat) (((v187 * a2)).toNat))]) (r := .d (.v (errV W 6))) rfl rfl rfl ?_
          change AO _ _ _ _ _
          refine AO.op rfl (AOp.assign rfl rfl (ltb rfl) rfl ?_)
          refine AO.objs (obs' := [.fix 24 [.d (.v (.slice none 0 0))], .fix 3 [.d (di .i64 (0 : Int))], .fix 4 [.d (dbool false)], .dead, .fix 71 [.d (eS0 ((a0.drop 0).take (((0 : Int)).toNat - 0))), .d (di .i64 (0 : Int)), .d (di .i8 (0 : Int))], .dead, .frame fr137 [(6, .ptr 0 0), (7, .ptr 1 0), (8, .ptr 2 0), (9, .ptr 4 0)], .dead, .fix 102 (List.map (fun z => SV.d (keS0 z)) c152), .dead, .dead, .dead, .dead, .dead, .fix 95 [], .fix 63 (List.map (fun z => SV.d (keS1 z)) (List.replicate ((v187 * a2)).toNat (0 : Nat))), .dead, .fix 5 (List.map (fun z => SV.d (keS0 z)) c209), .dead, .dead, .dead, .dead, .dead, .dead, .dead]) rfl ?_
          refine AO.nil ?_
          change AC _ _ _ _
          refine AC.seq ?_
          refine AC.region ?_
          refine AO.op rfl (AOp.move rfl rfl (ltb rfl) rfl ?_)
          refine AO.op rfl (AOp.errNeq rfl rfl (ltb rfl) rfl (by simp [GlobsP]) imeth57 ?_)
          refine AO.nil ?_
          change AC _ _ _ _
          refine AC.condT rfl rfl ?_
          refine AC.seq ?_
          refine AC.region ?_
          refine AO.op rfl (AOp.move rfl rfl (ltb rfl) rfl ?_)
          refine AO.op rfl (AOp.assign rfl rfl (ltb rfl) rfl ?_)
          refine AO.op rfl (AOp.assign rfl rfl (ltb rfl) rfl ?_)
          refine AO.nil ?_
          change AC _ _ _ _
          refine AC.ret ?_
          refine inlret (ob' := [.fix 24 [.d (.v (.slice none 0 0))], .fix 3 [.d (di .i64 (0 : Int))], .fix 4 [.d (dbool false)], .dead, .fix 71 [.d (eS0 ((a0.drop 0).take (((0 : Int)).toNat - 0))), .d (di .i64 (0 : Int)), .d (di .i8 (0 : Int))], .dead, .dead, .dead, .fix 102 (List.map (fun z => SV.d (keS0 z)) c152), .dead, .dead, .dead, .dead, .dead, .fix 95 [], .fix 63 (List.map (fun z => SV.d (keS1 z)) (List.replicate ((v187 * a2)).toNat (0 : Nat))), .dead, .fix 5 (List.map (fun z => SV.d (keS0 z)) c209), .dead, .dead, .dead, .dead, .dead, .dead, .dead]) (e' := [(6, .ptr 0 0), (7, .ptr 1 0), (8, .ptr 2 0), (9, .ptr 4 0)]) (r := .tu [.d (.v (.slice none 0 0)), .d (.v (errV W 6))]) rfl rfl rfl ?_
          change AO _ _ _ _ _
          refine AO.op rfl (AOp.move rfl rfl (ltb rfl) rfl ?_)
          first | refine AO.op rfl (AOp.extractD rfl rfl (ltb rfl) rfl rfl ?_) | refine AO.op rfl (AOp.extract rfl rfl (ltb rfl) rfl rfl ?_)
          first | refine AO.op rfl (AOp.extractD rfl rfl (ltb rfl) rfl rfl ?_) | refine AO.op rfl (AOp.extract rfl rfl (ltb rfl) rfl rfl ?_)
          refine AO.op rfl (AOp.store rfl rfl rfl rfl size24 rfl rfl rfl (leb rfl) ?_)
          refine AO.op rfl (AOp.assign rfl rfl (ltb rfl) rfl ?_)
          refine AO.objs (obs' := [.fix 24 [.d (.v (.slice none 0 0))], .fix 3 [.d (di .i64 (0 : Int))], .fix 4 [.d (dbool false)], .dead, .fix 71 [.d (eS0 ((a0.drop 0).take (((0 : Int)).toNat - 0))), .d (di .i64 (0 : Int)), .d (di .i8 (0 : Int))], .dead, .dead, .dead, .fix 102 (List.map (fun z => SV.d (keS0 z)) c152), .dead, .dead, .dead, .dead, .dead, .fix 95 [], .fix 63 (List.map (fun z => SV.d (keS1 z)) (List.replicate ((v187 * a2)).toNat (0 : Nat))), .dead, .fix 5 (List.map (fun z => SV.d (keS0 z)) c209), .dead, .dead, .dead, .dead, .dead, .dead, .dead]) rfl ?_
          refine AO.nil ?_
          change AC _ _ _ _
          refine AC.seq ?_
          refine AC.freezeP (ds := c_TBytes_Buffer (TBytes_Buffer.mk ((a0.drop 0).take (((0 : Int)).toNat - 0)) (0 : Int) (0 : Int))) 9 4 rfl rfl rfl rfl (Nat.zero_le _) ?_
          obtain ⟨y224, q225, h0⟩ := bind_elim h0
          refine AC.drawS [0, 1, 2, 3, 4, 5, 6] [5, 6] [7] (fun L => [.fix 24 [.d (.v (.slice none 0 0))], .fix 3 [(bif L 6 then .d (di .i64 y224) else .d (di .i64 (0 : Int)))], .fix 4 [.d (dbool false)], .dead, .dead, .dead, .dead, .dead, .fix 102 (List.map (fun z => SV.d (keS0 z)) c152), .dead, .dead, .dead, .dead, .dead, .fix 95 [], .fix 63 (List.map (fun z => SV.d (keS1 z)) (List.replicate ((v187 * a2)).toNat (0 : Nat))), .dead, .fix 5 (List.map (fun z => SV.d (keS0 z)) c209), .dead, .dead, .dead, .dead, .dead, .dead, .dead]) [(5, (fun _ => true)), (6, (fun _ => true))] mixed (by kernel_rfl) (fun L L' h => by simp only [h 5 (by decide), h 6 (by decide)]) rfl ?_
          refine AS.op [6] [] [5, 6] [] rfl rfl rfl (by kernel_rfl) (by kernel_rfl) rfl rfl (fun _ _ _ h => AOp.load1 rfl rfl (ltb rfl) rfl agg24 rfl rfl h) (by kernel_rfl) ?_
          refine AS.op [9] [] [5, 6] [] rfl rfl rfl (by kernel_rfl) (by kernel_rfl) rfl rfl (fun _ _ _ h => AOp.move rfl rfl (ltb rfl) rfl h) (by kernel_rfl) ?_
          refine AS.op [24] [] [5, 6] [] rfl rfl rfl (by kernel_rfl) (by kernel_rfl) rfl rfl (fun _ _ _ h => AOp.callD rfl rfl (ltb rfl) rfl rfl (w_Buffer_Len (TBytes_Buffer.mk ((a0.drop 0).take (((0 : Int)).toNat - 0)) (0 : Int) (0 : Int)) y224 q225) (by rintro _ rfl; exact h)) (by kernel_rfl) ?_
          refine AS.op [10] [] [] [5, 6] rfl rfl rfl (by kernel_rfl) (by kernel_rfl) rfl rfl (fun _ _ _ h => AOp.move rfl rfl (ltb rfl) rfl h) (by kernel_rfl) ?_
          refine AS.op [26] [] [] [5, 6] rfl rfl rfl (by kernel_rfl) (by kernel_rfl) rfl rfl (fun _ _ _ h => AOp.errEql rfl rfl (ltb rfl) rfl (by simp [GlobsP]) imeth57 h) (by kernel_rfl) ?_
          refine AS.mid0 [6, 23] [] [6, 5] [] rfl rfl rfl rfl (by kernel_rfl) (by kernel_rfl) rfl rfl (fun _ _ _ h => AOp.store rfl rfl rfl rfl size24 rfl rfl rfl (leb rfl) (AO.dropT h)) (by kernel_rfl) rfl ?_
          refine AS.mid0 [7, 25] [5] [6] [] rfl rfl rfl rfl (by kernel_rfl) (by kernel_rfl) rfl rfl (fun _ _ _ h => AOp.store rfl rfl rfl rfl size3 rfl rfl rfl (leb rfl) (AO.dropT h)) (by kernel_rfl) rfl ?_
          refine AS.done ?_
          refine AO.objs (obs' := [.fix 24 [.d (.v (.slice none 0 0))], .fix 3 [.d (di .i64 y224)], .fix 4 [.d (dbool false)], .dead, .dead, .dead, .dead, .dead, .fix 102 (List.map (fun z => SV.d (keS0 z)) c152), .dead, .dead, .dead, .dead, .dead, .fix 95 [], .fix 63 (List.map (fun z => SV.d (keS1 z)) (List.replicate ((v187 * a2)).toNat (0 : Nat))), .dead, .fix 5 (List.map (fun z => SV.d (keS0 z)) c209), .dead, .dead, .dead, .dead, .dead, .dead, .dead]) rfl ?_
          refine AO.op rfl (AOp.store rfl rfl rfl rfl size4 rfl rfl rfl (leb rfl) ?_)
          refine AO.nil ?_
          change AC _ _ _ _
          refine AC.subO 0 rfl (.cons (SVLe.nil 1) .nil) ?_
          refine AC.ret ?_
          change RetQ _ _ _ .ret _
          obtain rfl := Option.some.inj h0
          refine retq rfl rfl
        replace h0 := cF h0 q223
        refine AO.guardN rfl rfl rfl (ltb rfl) rfl q223 ?_
        refine AO.guardN rfl rfl rfl (ltb rfl) rfl q223 ?_
        refine AO.guardN rfl rfl rfl (ltb rfl) rfl q223 ?_
        refine AO.op rfl (AOp.pickN rfl rfl (ltb rfl) rfl q223 rfl ?_)
        refine AO.nil ?_
        change AC _ _ _ _
        refine AC.condF rfl rfl ?_
        refine AC.skip ?_
        change AC _ _ _ _
        refine AC.ret ?_
        refine inlret (ob' := [.fix 24 [.d (.v (.slice none 0 0))], .fix 3 [.d (di .i64 (0 : Int))], .fix 4 [.d (dbool false)], .dead, .fix 71 [.d (eS0 ((a0.drop 0).take (((0 : Int)).toNat - 0))), .d (di .i64 (0 : Int)), .d (di .i8 (0 : Int))], .dead, .frame fr137 [(6, .ptr 0 0), (7, .ptr 1 0), (8, .ptr 2 0), (9, .ptr 4 0)], .dead, .fix 102 (List.map (fun z => SV.d (keS0 z)) c152), .dead, .dead, .dead, .dead, .dead, .fix 95 [], .fix 63 (List.map (fun z => SV.d (keS1 z)) (List.replicate ((v187 * a2)).toNat (0 : Nat))), .frame fr191 [(11, .sl 15 1 0 (((v187 * a2)).toNat) (((v187 * a2)).toNat))], .fix 5 (List.map (fun z => SV.d (keS0 z)) c209), .frame fr194 [(1, .ifc 95 (.ag [])), (2, .sl 15 1 0 (((v187 * a2)).toNat) (((v187 * a2)).toNat)), (7, .sl 17 1 0 ((((8 : Int) * ((((v187 * a2)).toNat : Nat) : Int))).toNat) ((((8 : Int) * ((((v187 * a2)).toNat : Nat) : Int))).toNat))], .dead, .dead, .dead, .dead, .dead, .dead]) (e' := [(4, .d (di .i64 (0 : Int))), (5, .d (.v (.nilIface)))]) (r := .tu [.d (di .i64 ((m207 : Nat) : Int)), .d (.v (errV W 5))]) rfl rfl rfl ?_
        change AO _ _ _ _ _
        first | refine AO.op rfl (AOp.extractD rfl rfl (ltb rfl) rfl rfl ?_) | refine AO.op rfl (AOp.extract rfl rfl (ltb rfl) rfl rfl ?_)
        first | refine AO.op rfl (AOp.extractD rfl rfl (ltb rfl) rfl rfl ?_) | refine AO.op rfl (AOp.extract rfl rfl (ltb rfl) rfl rfl ?_)
        refine AO.op rfl (AOp.assign rfl rfl (ltb rfl) rfl ?_)
        refine AO.op rfl (AOp.assign rfl rfl (ltb rfl) rfl ?_)
        refine AO.objs (obs' := [.fix 24 [.d (.v (.slice none 0 0))], .fix 3 [.d (di .i64 (0 : Int))], .fix 4 [.d (dbool false)], .dead, .fix 71 [.d (eS0 ((a0.drop 0).take (((0 : Int)).toNat - 0))), .d (di .i64 (0 : Int)), .d (di .i8 (0 : Int))], .dead, .frame fr137 [(6, .ptr 0 0), (7, .ptr 1 0), (8, .ptr 2 0), (9, .ptr 4 0)], .dead, .fix 102 (List.map (fun z => SV.d (keS0 z)) c152), .dead, .dead, .dead, .dead, .dead, .fix 95 [], .fix 63 (List.map (fun z => SV.d (keS1 z)) (List.replicate ((v187 * a2)).toNat (0 : Nat))), .frame fr191 [(11, .sl 15 1 0 (((v187 * a2)).toNat) (((v187 * a2)).toNat))], .fix 5 (List.map (fun z => SV.d (keS0 z)) c209), .frame fr194 [(1, .ifc 95 (.ag [])), (2, .sl 15 1 0 (((v187 * a2)).toNat) (((v187 * a2)).toNat)), (7, .sl 17 1 0 ((((8 : Int) * ((((v187 * a2)).toNat : Nat) : Int))).toNat) ((((8 : Int) * ((((v187 * a2)).toNat : Nat) : Int))).toNat))], .dead, .dead, .dead, .dead, .dead, .dead]) rfl ?_
        refine AO.nil ?_
        change AC _ _ _ _
        refine AC.ret ?_
        refine inlret (ob' := [.fix 24 [.d (.v (.slice none 0 0))], .fix 3 [.d (di .i64 (0 : Int))], .fix 4 [.d (dbool false)], .dead, .fix 71 [.d (eS0 ((a0.drop 0).take (((0 : Int)).toNat - 0))), .d (di .i64 (0 : Int)), .d (di .i8 (0 : Int))], .dead, .frame fr137 [(6, .ptr 0 0), (7, .ptr 1 0), (8, .ptr 2 0), (9, .ptr 4 0)], .dead, .fix 102 (List.map (fun z => SV.d (keS0 z)) c152), .dead, .dead, .dead, .dead, .dead, .fix 95 [], .fix 63 (List.map (fun z => SV.d (keS1 z)) (List.replicate ((v187 * a2)).toNat (0 : Nat))), .frame fr191 [(11, .sl 15 1 0 (((v187 * a2)).toNat) (((v187 * a2)).toNat))], .fix 5 (List.map (fun z => SV.d (keS0 z)) c209), .dead, .dead, .dead, .dead, .dead, .dead, .dead]) (e' := [(1, .ifc 95 (.ag [])), (2, .sl 15 1 0 (((v187 * a2)).toNat) (((v187 * a2)).toNat)), (7, .sl 17 1 0 ((((8 : Int) * ((((v187 * a2)).toNat : Nat) : Int))).toNat) ((((8 : Int) * ((((v187 * a2)).toNat : Nat) : Int))).toNat))]) (r := .tu [.d (di .i64 ((m207 : Nat) : Int)), .d (.v (errV W 5))]) rfl rfl rfl ?_
        change AO _ _ _ _ _
        refine AO.op rfl (AOp.move rfl rfl (ltb rfl) rfl ?_)
        first | refine AO.op rfl (AOp.extractD rfl rfl (ltb rfl) rfl rfl ?_) | refine AO.op rfl (AOp.extract rfl rfl (ltb rfl) rfl rfl ?_)
        first | refine AO.op rfl (AOp.extractD rfl rfl (ltb rfl) rfl rfl ?_) | refine AO.op rfl (AOp.extract rfl rfl (ltb rfl) rfl rfl ?_)
        refine AO.op rfl (AOp.assign rfl rfl (ltb rfl) rfl ?_)
        refine AO.op rfl (AOp.assign rfl rfl (ltb rfl) rfl ?_)
        refine AO.objs (obs' := [.fix 24 [.d (.v (.slice none 0 0))], .fix 3 [.d (di .i64 (0 : Int))], .fix 4 [.d (dbool false)], .dead, .fix 71 [.d (eS0 ((a0.drop 0).take (((0 : Int)).toNat - 0))), .d (di .i64 (0 : Int)), .d (di .i8 (0 : Int))], .dead, .frame fr137 [(6, .ptr 0 0), (7, .ptr 1 0), (8, .ptr 2 0), (9, .ptr 4 0)], .dead, .fix 102 (List.map (fun z => SV.d (keS0 z)) c152), .dead, .dead, .dead, .dead, .dead, .fix 95 [], .fix 63 (List.map (fun z => SV.d (keS1 z)) (List.replicate ((v187 * a2)).toNat (0 : Nat))), .frame fr191 [(11, .sl 15 1 0 (((v187 * a2)).toNat) (((v187 * a2)).toNat))], .fix 5 (List.map (fun z => SV.d (keS0 z)) c209), .dead, .dead, .dead, .dead, .dead, .dead, .dead]) rfl ?_
        refine AO.nil ?_
        change AC _ _ _ _
        refine AC.seq ?_
        refine AC.region ?_
        refine AO.op rfl (AOp.move rfl rfl (ltb rfl) rfl ?_)
        refine AO.op rfl (AOp.errNeq rfl rfl (ltb rfl) rfl (by simp [GlobsP]) imeth57 ?_)
        refine AO.nil ?_
        change AC _ _ _ _
        refine AC.condT rfl rfl ?_
        refine AC.seq ?_
        refine AC.region ?_
        refine AO.op rfl (AOp.move rfl rfl (ltb rfl) rfl ?_)
        refine AO.op rfl (AOp.assign rfl rfl (ltb rfl) rfl ?_)
        refine AO.nil ?_
        change AC _ _ _ _
        refine AC.ret ?_
        refine inlret (ob' := [.fix 24 [.d (.v (.slice none 0 0))], .fix 3 [.d (di .i64 (0 : Int))], .fix 4 [.d (dbool false)], .dead, .fix 71 [.d (eS0 ((a0.drop 0).take (((0 : Int)).toNat - 0))), .d (di .i64 (0 : Int)), .d (di .i8 (0 : Int))], .dead, .frame fr137 [(6, .ptr 0 0), (7, .ptr 1 0), (8, .ptr 2 0), (9, .ptr 4 0)], .dead, .fix 102 (List.map (fun z => SV.d (keS0 z)) c152), .dead, .dead, .dead, .dead, .dead, .fix 95 [], .fix 63 (List.map (fun z => SV.d (keS1 z)) (List.replicate ((v187 * a2)).toNat (0 : Nat))), .dead, .fix 5 (List.map (fun z => SV.d (keS0 z)) c209), .dead, .dead, .dead, .dead, .dead, .dead, .dead]) (e' := [(11, .sl 15 1 0 (((v187 * a2)).toNat) (((v187 * a2)).toNat))]) (r := .d (.v (errV W 5))) rfl rfl rfl ?_
        change AO _ _ _ _ _
        refine AO.op rfl (AOp.assign rfl rfl (ltb rfl) rfl ?_)
        refine AO.objs (obs' := [.fix 24 [.d (.v (.slice none 0 0))], .fix 3 [.d (di .i64 (0 : Int))], .fix 4 [.d (dbool false)], .dead, .fix 71 [.d (eS0 ((a0.drop 0).take (((0 : Int)).toNat - 0))), .d (di .i64 (0 : Int)), .d (di .i8 (0 : Int))], .dead, .frame fr137 [(6, .ptr 0 0), (7, .ptr 1 0), (8, .ptr 2 0), (9, .ptr 4 0)], .dead, .fix 102 (List.map (fun z => SV.d (keS0 z)) c152), .dead, .dead, .dead, .dead, .dead, .fix 95 [], .fix 63 (List.map (fun z => SV.d (keS1 z)) (List.replicate ((v187 * a2)).toNat (0 : Nat))), .dead, .fix 5 (List.map (fun z => SV.d (keS0 z)) c209), .dead, .dead, .dead, .dead, .dead, .dead, .dead]) rfl ?_
        refine AO.nil ?_
        change AC _ _ _ _
        refine AC.seq ?_
        refine AC.region ?_
        refine AO.op rfl (AOp.move rfl rfl (ltb rfl) rfl ?_)
        refine AO.op rfl (AOp.errNeq rfl rfl (ltb rfl) rfl (by simp [GlobsP]) imeth57 ?_)
        refine AO.nil ?_
        change AC _ _ _ _
        refine AC.condT rfl rfl ?_
        refine AC.seq ?_
        refine AC.region ?_
        refine AO.op rfl (AOp.move rfl rfl (ltb rfl) rfl ?_)
        refine AO.op rfl (AOp.assign rfl rfl (ltb rfl) rfl ?_)
        refine AO.op rfl (AOp.assign rfl rfl (ltb rfl) rfl ?_)
        refine AO.nil ?_
        change AC _ _ _ _
        refine AC.ret ?_
        refine inlret (ob' := [.fix 24 [.d (.v (.slice none 0 0))], .fix 3 [.d (di .i64 (0 : Int))], .fix 4 [.d (dbool false)], .dead, .fix 71 [.d (eS0 ((a0.drop 0).take (((0 : Int)).toNat - 0))), .d (di .i64 (0 : Int)), .d (di .i8 (0 : Int))], .dead, .dead, .dead, .fix 102 (List.map (fun z => SV.d (keS0 z)) c152), .dead, .dead, .dead, .dead, .dead, .fix 95 [], .fix 63 (List.map (fun z => SV.d (keS1 z)) (List.replicate ((v187 * a2)).toNat (0 : Nat))), .dead, .fix 5 (List.map (fun z => SV.d (keS0 z)) c209), .dead, .dead, .dead, .dead, .dead, .dead, .dead]) (e' := [(6, .ptr 0 0), (7, .ptr 1 0), (8, .ptr 2 0), (9, .ptr 4 0)]) (r := .tu [.d (.v (.slice none 0 0)), .d (.v (errV W 5))]) rfl rfl rfl ?_
        change AO _ _ _ _ _
        refine AO.op rfl (AOp.move rfl rfl (ltb rfl) rfl ?_)
        first | refine AO.op rfl (AOp.extractD rfl rfl (ltb rfl) rfl rfl ?_) | refine AO.op rfl (AOp.extract rfl rfl (ltb rfl) rfl rfl ?_)
        first | refine AO.op rfl (AOp.extractD rfl rfl (ltb rfl) rfl rfl ?_) | refine AO.op rfl (AOp.extract rfl rfl (ltb rfl) rfl rfl ?_)
        refine AO.op rfl (AOp.store rfl rfl rfl rfl size24 rfl rfl rfl (leb rfl) ?_)
        refine AO.op rfl (AOp.assign rfl rfl (ltb rfl) rfl ?_)
        refine AO.objs (obs' := [.fix 24 [.d (.v (.slice none 0 0))], .fix 3 [.d (di .i64 (0 : Int))], .fix 4 [.d (dbool false)], .dead, .fix 71 [.d (eS0 ((a0.drop 0).take (((0 : Int)).toNat - 0))), .d (di .i64 (0 : Int)), .d (di .i8 (0 : Int))], .dead, .dead, .dead, .fix 102 (List.map (fun z => SV.d (keS0 z)) c152), .dead, .dead, .dead, .dead, .dead, .fix 95 [], .fix 63 (List.map (fun z => SV.d (keS1 z)) (List.replicate ((v187 * a2)).toNat (0 : Nat))), .dead, .fix 5 (List.map (fun z => SV.d (keS0 z)) c209), .dead, .dead, .dead, .dead, .dead, .dead, .dead]) rfl ?_
        refine AO.nil ?_
        change AC _ _ _ _
        refine AC.seq ?_
        refine AC.freezeP (ds := c_TBytes_Buffer (TBytes_Buffer.mk ((a0.drop 0).take (((0 : Int)).toNat - 0)) (0 : Int) (0 : Int))) 9 4 rfl rfl rfl rfl (Nat.zero_le _) ?_
        obtain ⟨y226, q227, h0⟩ := bind_elim h0
        refine AC.drawS [0, 1, 2, 3, 4, 5, 6] [5, 6] [7] (fun L => [.fix 24 [.d (.v (.slice none 0 0))], .fix 3 [(bif L 6 then .d (di .i64 y226) else .d (di .i64 (0 : Int)))], .fix 4 [.d (dbool false)], .dead, .dead, .dead, .dead, .dead, .fix 102 (List.map (fun z => SV.d (keS0 z)) c152), .dead, .dead, .dead, .dead, .dead, .fix 95 [], .fix 63 (List.map (fun z => SV.d (keS1 z)) (List.replicate ((v187 * a2)).toNat (0 : Nat))), .dead, .fix 5 (List.map (fun z => SV.d (keS0 z)) c209), .dead, .dead, .dead, .dead, .dead, .dead, .dead]) [(5, (fun _ => true)), (6, (fun _ => true))] mixed (by kernel_rfl) (fun L L' h => by simp only [h 5 (by decide), h 6 (by decide)]) rfl ?_
        refine AS.op [6] [] [5, 6] [] rfl rfl rfl (by kernel_rfl) (by kernel_rfl) rfl rfl (fun _ _ _ h => AOp.load1 rfl rfl (ltb rfl) rfl agg24 rfl rfl h) (by kernel_rfl) ?_
        refine AS.op [9] [] [5, 6] [] rfl rfl rfl (by kernel_rfl) (by kernel_rfl) rfl rfl (fun _ _ _ h => AOp.move rfl rfl (ltb rfl) rfl h) (by kernel_rfl) ?_
        refine AS.op [24] [] [5, 6] [] rfl rfl rfl (by kernel_rfl) (by kernel_rfl) rfl rfl (fun _ _ _ h => AOp.callD rfl rfl (ltb rfl) rfl rfl (w_Buffer_Len (TBytes_Buffer.mk ((a0.drop 0).take (((0 : Int)).toNat - 0)) (0 : Int) (0 : Int)) y226 q227) (by rintro _ rfl; exact h)) (by kernel_rfl) ?_
        refine AS.op [10] [] [] [5, 6] rfl rfl rfl (by kernel_rfl) (by kernel_rfl) rfl rfl (fun _ _ _ h => AOp.move rfl rfl (ltb rfl) rfl h) (by kernel_rfl) ?_
        refine AS.op [26] [] [] [5, 6] rfl rfl rfl (by kernel_rfl) (by kernel_rfl) rfl rfl (fun _ _ _ h => AOp.errEql rfl rfl (ltb rfl) rfl (by simp [GlobsP]) imeth57 h) (by kernel_rfl) ?_
        refine AS.mid0 [6, 23] [] [6, 5] [] rfl rfl rfl rfl (by kernel_rfl) (by kernel_rfl) rfl rfl (fun _ _ _ h => AOp.store rfl rfl rfl rfl size24 rfl rfl rfl (leb rfl) (AO.dropT h)) (by kernel_rfl) rfl ?_
        refine AS.mid0 [7, 25] [5] [6] [] rfl rfl rfl rfl (by kernel_rfl) (by kernel_rfl) rfl rfl (fun _ _ _ h => AOp.store rfl rfl rfl rfl size3 rfl rfl rfl (leb rfl) (AO.dropT h)) (by kernel_rfl) rfl ?_
        refine AS.done ?_
        refine AO.objs (obs' := [.fix 24 [.d (.v (.slice none 0 0))], .fix 3 [.d (di .i64 y226)], .fix 4 [.d (dbool false)], .dead, .dead, .dead, .dead, .dead, .fix 102 (List.map (fun z => SV.d (keS0 z)) c152), .dead, .dead, .dead, .dead, .dead, .fix 95 [], .fix 63 (List.map (fun z => SV.d (keS1 z)) (List.replicate ((v187 * a2)).toNat (0 : Nat))), .dead, .fix 5 (List.map (fun z => SV.d (keS0 z)) c209), .dead, .dead, .dead, .dead, .dead, .dead, .dead]) rfl ?_
        refine AO.op rfl (AOp.store rfl rfl rfl rfl size4 rfl rfl rfl (leb rfl) ?_)
        refine AO.nil ?_
        change AC _ _ _ _
        refine AC.subO 0 rfl (.cons (SVLe.nil 1) .nil) ?_
        refine AC.ret ?_
        change RetQ _ _ _ .ret _
        obtain rfl := Option.some.inj h0
        refine retq rfl rfl
      replace h0 := cF h0 q218
      cases h0
    replace h0 := cF h0 q214
    refine AO.guardN rfl rfl rfl (ltb rfl) rfl q214 ?_
    refine AO.guardN rfl rfl rfl (ltb rfl) rfl q214 ?_
    refine AO.op rfl (AOp.pickN rfl rfl (ltb rfl) rfl q214 rfl ?_)
    refine AO.nil ?_
    change AC _ _ _ _
    refine AC.condF rfl rfl ?_
    refine AC.exit ?_
    change AC _ _ _ _
    refine AC.seq ?_
    refine AC.seq ?_
    refine AC.region ?_
    refine AO.op rfl (AOp.move rfl rfl (ltb rfl) rfl ?_)
    refine AO.op rfl (AOp.move rfl rfl (ltb rfl) rfl ?_)
    refine AO.op rfl (AOp.igeq rfl rfl (ltb rfl) rfl rfl ?_)
    refine AO.nil ?_
    change AC _ _ _ _
    refine AC.condT rfl (dlt_ge q214) ?_
    refine AC.region ?_
    refine AO.op rfl (AOp.assign rfl rfl (ltb rfl) rfl ?_)
    refine AO.nil ?_
    change AC _ _ _ _
    refine AC.ret ?_
    refine inlret (ob' := [.fix 24 [.d (.v (.slice none 0 0))], .fix 3 [.d (di .i64 (0 : Int))], .fix 4 [.d (dbool false)], .dead, .fix 71 [.d (eS0 a0), .d (di .i64 (((m150 : Nat) : Int) + ((m207 : Nat) : Int))), .d (di .i8 g212)], .dead, .frame fr137 [(6, .ptr 0 0), (7, .ptr 1 0), (8, .ptr 2 0), (9, .ptr 4 0)], .dead, .fix 102 (List.map (fun z => SV.d (keS0 z)) c152), .dead, .dead, .dead, .dead, .dead, .fix 95 [], .fix 63 (List.map (fun z => SV.d (keS1 z)) (List.replicate ((v187 * a2)).toNat (0 : Nat))), .frame fr191 [(11, .sl 15 1 0 (((v187 * a2)).toNat) (((v187 * a2)).toNat))], .fix 5 (List.map (fun z => SV.d (keS0 z)) c209), .frame fr194 [(1, .ifc 95 (.ag [])), (2, .sl 15 1 0 (((v187 * a2)).toNat) (((v187 * a2)).toNat)), (7, .sl 17 1 0 ((((8 : Int) * ((((v187 * a2)).toNat : Nat) : Int))).toNat) ((((8 : Int) * ((((v187 * a2)).toNat : Nat) : Int))).toNat))], .dead, .dead, .dead]) (e' := [(4, .d (di .i64 (0 : Int))), (5, .d (.v (.nilIface)))]) (r := .tu [.d (di .i64 ((m207 : Nat) : Int)), .d (.v (.nilIface))]) rfl rfl rfl ?_
    change AO _ _ _ _ _
    first | refine AO.op rfl (AOp.extractD rfl rfl (ltb rfl) rfl rfl ?_) | refine AO.op rfl (AOp.extract rfl rfl (ltb rfl) rfl rfl ?_)
    first | refine AO.op rfl (AOp.extractD rfl rfl (ltb rfl) rfl rfl ?_) | refine AO.op rfl (AOp.extract rfl rfl (ltb rfl) rfl rfl ?_)
    refine AO.op rfl (AOp.assign rfl rfl (ltb rfl) rfl ?_)
    refine AO.op rfl (AOp.assign rfl rfl (ltb rfl) rfl ?_)
    refine AO.objs (obs' := [.fix 24 [.d (.v (.slice none 0 0))], .fix 3 [.d (di .i64 (0 : Int))], .fix 4 [.d (dbool false)], .dead, .fix 71 [.d (eS0 a0), .d (di .i64 (((m150 : Nat) : Int) + ((m207 : Nat) : Int))), .d (di .i8 g212)], .dead, .frame fr137 [(6, .ptr 0 0), (7, .ptr 1 0), (8, .ptr 2 0), (9, .ptr 4 0)], .dead, .fix 102 (List.map (fun z => SV.d (keS0 z)) c152), .dead, .dead, .dead, .dead, .dead, .fix 95 [], .fix 63 (List.map (fun z => SV.d (keS1 z)) (List.replicate ((v187 * a2)).toNat (0 : Nat))), .frame fr191 [(11, .sl 15 1 0 (((v187 * a2)).toNat) (((v187 * a2)).toNat))], .fix 5 (List.map (fun z => SV.d (keS0 z)) c209), .frame fr194 [(1, .ifc 95 (.ag [])), (2, .sl 15 1 0 (((v187 * a2)).toNat) (((v187 * a2)).toNat)), (7, .sl 17 1 0 ((((8 : Int) * ((((v187 * a2)).toNat : Nat) : Int))).toNat) ((((8 : Int) * ((((v187 * a2)).toNat : Nat) : Int))).toNat))], .dead, .dead, .dead]) rfl ?_
    refine AO.nil ?_
    change AC _ _ _ _
    refine AC.ret ?_
    refine inlret (ob' := [.fix 24 [.d (.v (.slice none 0 0))], .fix 3 [.d (di .i64 (0 : Int))], .fix 4 [.d (dbool false)], .dead, .fix 71 [.d (eS0 a0), .d (di .i64 (((m150 : Nat) : Int) + ((m207 : Nat) : Int))), .d (di .i8 g212)], .dead, .frame fr137 [(6, .ptr 0 0), (7, .ptr 1 0), (8, .ptr 2 0), (9, .ptr 4 0)], .dead, .fix 102 (List.map (fun z => SV.d (keS0 z)) c152), .dead, .dead, .dead, .dead, .dead, .fix 95 [], .fix 63 (List.map (fun z => SV.d (keS1 z)) (List.replicate ((v187 * a2)).toNat (0 : Nat))), .frame fr191 [(11, .sl 15 1 0 (((v187 * a2)).toNat) (((v187 * a2)).toNat))], .fix 5 (List.map (fun z => SV.d (keS0 z)) c209), .dead, .dead, .dead, .dead]) (e' := [(1, .ifc 95 (.ag [])), (2, .sl 15 1 0 (((v187 * a2)).toNat) (((v187 * a2)).toNat)), (7, .sl 17 1 0 ((((8 : Int) * ((((v187 * a2)).toNat : Nat) : Int))).toNat) ((((8 : Int) * ((((v187 * a2)).toNat : Nat) : Int))).toNat))]) (r := .tu [.d (di .i64 ((m207 : Nat) : Int)), .d (.v (.nilIface))]) rfl rfl rfl ?_
    change AO _ _ _ _ _
    refine AO.op rfl (AOp.move rfl rfl (ltb rfl) rfl ?_)
    first | refine AO.op rfl (AOp.extractD rfl rfl (ltb rfl) rfl rfl ?_) | refine AO.op rfl (AOp.extract rfl rfl (ltb rfl) rfl rfl ?_)
    first | refine AO.op rfl (AOp.extractD rfl rfl (ltb rfl) rfl rfl ?_) | refine AO.op rfl (AOp.extract rfl rfl (ltb rfl) rfl rfl ?_)
    refine AO.op rfl (AOp.assign rfl rfl (ltb rfl) rfl ?_)
    refine AO.op rfl (AOp.assign rfl rfl (ltb rfl) rfl ?_)
    refine AO.objs (obs' := [.fix 24 [.d (.v (.slice none 0 0))], .fix 3 [.d (di .i64 (0 : Int))], .fix 4 [.d (dbool false)], .dead, .fix 71 [.d (eS0 a0), .d (di .i64 (((m150 : Nat) : Int) + ((m207 : Nat) : Int))), .d (di .i8 g212)], .dead, .frame fr137 [(6, .ptr 0 0), (7, .ptr 1 0), (8, .ptr 2 0), (9, .ptr 4 0)], .dead, .fix 102 (List.map (fun z => SV.d (keS0 z)) c152), .dead, .dead, .dead, .dead, .dead, .fix 95 [], .fix 63 (List.map (fun z => SV.d (keS1 z)) (List.replicate ((v187 * a2)).toNat (0 : Nat))), .frame fr191 [(11, .sl 15 1 0 (((v187 * a2)).toNat) (((v187 * a2)).toNat))], .fix 5 (List.map (fun z => SV.d (keS0 z)) c209), .dead, .dead, .dead, .dead]) rfl ?_
    refine AO.nil ?_
    change AC _ _ _ _
    refine AC.seq ?_
    refine AC.region ?_
    refine AO.op rfl (AOp.move rfl rfl (ltb rfl) rfl ?_)
    refine AO.op rfl (AOp.nilNeq rfl rfl (ltb rfl) rfl imeth57 ?_)
    refine AO.nil ?_
    change AC _ _ _ _
    refine AC.condF rfl rfl ?_
    refine AC.skip ?_
    change AC _ _ _ _
    refine AC.seq ?_
    refine AC.seq ?_
    refine AC.region ?_
    refine AO.op rfl (AOp.move rfl rfl (ltb rfl) rfl ?_)
    refine AO.op rfl (AOp.lenSl rfl rfl (ltb rfl) rfl el24 ?_)
    refine AO.op rfl (AOp.move rfl rfl (ltb rfl) rfl ?_)
    refine AO.nil ?_
    change AC _ _ _ _
    obtain ⟨q228, h0⟩ := need_elim h0
    refine AC.freezeF (ds := (List.map keS0 c209)) 7 17 rfl rfl rfl (by rw [List.map_map]; rfl) (lenq q228 (len1 _ _)) (Nat.le_refl _) ?_
    obtain ⟨o229, l230, h0⟩ := bind_elim h0
    refine AC.joinE (V := (List Nat)) [] [] 22 (fun g231 => []) (fun g231 => [.fix 24 [.d (.v (.slice none 0 0))], .fix 3 [.d (di .i64 (0 : Int))], .fix 4 [.d (dbool false)], .dead, .fix 71 [.d (eS0 a0), .d (di .i64 (((m150 : Nat) : Int) + ((m207 : Nat) : Int))), .d (di .i8 g212)], .dead, .frame fr137 [(6, .ptr 0 0), (7, .ptr 1 0), (8, .ptr 2 0), (9, .ptr 4 0)], .dead, .fix 102 (List.map (fun z => SV.d (keS0 z)) c152), .dead, .dead, .dead, .dead, .dead, .fix 95 [], .fix 63 (List.map (fun z => SV.d (keS1 z)) g231), .frame fr191 [(11, .sl 15 1 0 (((v187 * a2)).toNat) (((v187 * a2)).toNat))], .dead, .dead, .dead, .dead, .dead]) (fun g231 => (p_ReadFlat1_k9 a0 a2 m150 v187 m207 g212) g231 = some r0) rfl ?_ ?_
    · refine AC.block ?_
      refine AC.loopP (V := (Int × (List Nat))) (p_ReadFlat1_l10 a2 v187 c209) o229 [1, 2, 7, 25] [26] 22 (fun g235 => [(26, .d (di .i64 g235.1))]) (fun g235 => [.fix 24 [.d (.v (.slice none 0 0))], .fix 3 [.d (di .i64 (0 : Int))], .fix 4 [.d (dbool false)], .dead, .fix 71 [.d (eS0 a0), .d (di .i64 (((m150 : Nat) : Int) + ((m207 : Nat) : Int))), .d (di .i8 g212)], .dead, .frame fr137 [(6, .ptr 0 0), (7, .ptr 1 0), (8, .ptr 2 0), (9, .ptr 4 0)], .dead, .fix 102 (List.map (fun z => SV.d (keS0 z)) c152), .dead, .dead, .dead, .dead, .dead, .fix 95 [], .fix 63 (List.map (fun z => SV.d (keS1 z)) g235.2), .frame fr191 [(11, .sl 15 1 0 (((v187 * a2)).toNat) (((v187 * a2)).toNat))], .dead, .dead, .dead, .dead, .dead]) F ((0 : Int), (List.replicate ((v187 * a2)).toNat (0 : Nat))) l230 rfl rfl (LeL.refl _) rfl (okU_mk rfl (okU_cons rfl (okU_cons rfl (okU_cons rfl (okU_cons rfl (okU_cons rfl (okU_cons rfl (okU_cons rfl (okU_cons rfl (okU_cons (okU_fixl (fun _ => rfl)) (okU_cons rfl (okU_cons rfl (okU_cons rfl (okU_cons rfl (okU_cons rfl (okU_cons rfl (okU_cons (okU_fixl (fun _ => rfl)) (okU_cons rfl (okU_cons rfl (okU_cons rfl (okU_cons rfl (okU_cons rfl (okU_cons rfl okU_nil))))))))))))))))))))))) ?_
      intro n237 g235 h1
      unfold p_ReadFlat1_l10 at h1
      refine AC.seq ?_
      refine AC.region ?_
      refine AO.op rfl (AOp.ilss rfl rfl (ltb rfl) rfl rfl ?_)
      refine AO.nil ?_
      change AC _ _ _ _
      refine AC.seq ?_
      refine AC.cond rfl (fun q238 => ?_) (fun q238 => ?_)
      · replace h1 := cT h1 q238
        refine AC.skip ?_
        change AC _ _ _ _
        refine AC.seq ?_
        refine AC.block ?_
        refine AC.seq ?_
        refine AC.region ?_
        refine AO.op rfl (AOp.move rfl rfl (ltb rfl) rfl ?_)
        refine AO.op rfl (AOp.assign rfl rfl (ltb rfl) rfl ?_)
        refine AO.nil ?_
        change AC _ _ _ _
        refine AC.region ?_
        refine AO.op rfl (AOp.move rfl rfl (ltb rfl) rfl ?_)
        refine AO.op rfl (AOp.move rfl rfl (ltb rfl) rfl ?_)
        refine AO.op rfl (AOp.move rfl rfl (ltb rfl) rfl ?_)
        refine AO.op rfl (AOp.move rfl rfl (ltb rfl) rfl ?_)
        obtain ⟨q239, h1⟩ := need_elim h1
        refine AO.op rfl (AOp.imul rfl rfl (ltb rfl) rfl rfl rfl q239.1 q239.2 ?_)
        obtain ⟨q240, h1⟩ := need_elim h1
        refine AO.op rfl (AOp.sliceD (cells := (List.map keS0 c209)) (n := c209.length) (l := (((8 : Int) * g235.1)).toNat) (hh := c209.length) rfl rfl (ltb rfl) rfl (.inr ⟨_, _, _, rfl, rfl, q240.1.1, rfl⟩) (.inl ⟨rfl, rfl⟩) el22 (by decide) (len1 _ _) q240.2.1 q240.2.2 (sub1 _ _ _ _) ?_)
        refine AO.op rfl (AOp.move rfl rfl (ltb rfl) rfl ?_)
        refine AO.op rfl (AOp.inl [1, 2, 7, 25, 26, 29, 30] (by kernel_rfl) Tryd.func46 rfl Tryd.ntmps46 rfl rfl (ltb rfl) rfl (leb rfl) rfl ?_)
        intro fr241
        refine AC.seq ?_
        refine AC.region ?_
        refine AO.op rfl (AOp.assign rfl rfl (ltb rfl) rfl ?_)
        refine AO.objs (obs' := [.fix 24 [.d (.v (.slice none 0 0))], .fix 3 [.d (di .i64 (0 : Int))], .fix 4 [.d (dbool false)], .dead, .fix 71 [.d (eS0 a0), .d (di .i64 (((m150 : Nat) : Int) + ((m207 : Nat) : Int))), .d (di .i8 g212)], .dead, .frame fr137 [(6, .ptr 0 0), (7, .ptr 1 0), (8, .ptr 2 0), (9, .ptr 4 0)], .dead, .fix 102 (List.map (fun z => SV.d (keS0 z)) c152), .dead, .dead, .dead, .dead, .dead, .fix 95 [], .fix 63 (List.map (fun z => SV.d (keS1 z)) g235.2), .frame fr191 [(11, .sl 15 1 0 (((v187 * a2)).toNat) (((v187 * a2)).toNat))], .dead, .dead, .dead, .dead, .dead, .frame fr241 [(1, .ifc 95 (.ag [])), (2, .sl 15 1 0 (((v187 * a2)).toNat) (((v187 * a2)).toNat)), (7, .d (eS0 c209)), (25, .d (di .i64 ((((v187 * a2)).toNat : Nat) : Int))), (26, .d (di .i64 g235.1)), (29, .sl 15 1 0 (((v187 * a2)).toNat) (((v187 * a2)).toNat)), (30, .d (di .i64 g235.1))]]) rfl ?_
        refine AO.nil ?_
        change AC _ _ _ _
        refine AC.seq ?_
        refine AC.region ?_
        refine AO.op rfl (AOp.move rfl rfl (ltb rfl) rfl ?_)
        refine AO.op rfl (AOp.move rfl rfl (ltb rfl) rfl ?_)
        obtain ⟨y242, q243, h1⟩ := bind_elim h1
        refine AO.op rfl (AOp.callE (EntersS.meth (by kernel_rfl) rfl rfl rfl meth95_Uint64 rfl rfl) rfl (ltb rfl) rfl rfl (w_littleEndian_Uint64 TBinary_bigEndian.mk ((c209.drop (((8 : Int) * g235.1)).toNat).take (c209.length - (((8 : Int) * g235.1)).toNat)) y242 q243) ?_)
        rintro _ rfl
        refine AO.op rfl (AOp.assign rfl rfl (ltb rfl) rfl ?_)
        refine AO.nil ?_
        change AC _ _ _ _
        refine AC.seq ?_
        refine AC.region ?_
        refine AO.op rfl (AOp.move rfl rfl (ltb rfl) rfl ?_)
        obtain ⟨q244, h1⟩ := need_elim h1
        refine AO.op rfl (AOp.callX [.int .u64 (((y242).toNat : Nat) : Int)] rfl rfl (ltb rfl) (by rw [q244]; rfl) (callFromBits ((y242).toNat)) ?_)
        refine AO.op rfl (AOp.assign rfl rfl (ltb rfl) rfl ?_)
        refine AO.nil ?_
        change AC _ _ _ _
        refine AC.ret ?_
        refine inlret (ob' := [.fix 24 [.d (.v (.slice none 0 0))], .fix 3 [.d (di .i64 (0 : Int))], .fix 4 [.d (dbool false)], .dead, .fix 71 [.d (eS0 a0), .d (di .i64 (((m150 : Nat) : Int) + ((m207 : Nat) : Int))), .d (di .i8 g212)], .dead, .frame fr137 [(6, .ptr 0 0), (7, .ptr 1 0), (8, .ptr 2 0), (9, .ptr 4 0)], .dead, .fix 102 (List.map (fun z => SV.d (keS0 z)) c152), .dead, .dead, .dead, .dead, .dead, .fix 95 [], .fix 63 (List.map (fun z => SV.d (keS1 z)) g235.2), .frame fr191 [(11, .sl 15 1 0 (((v187 * a2)).toNat) (((v187 * a2)).toNat))], .dead, .dead, .dead, .dead, .dead, .dead]) (e' := [(1, .ifc 95 (.ag [])), (2, .sl 15 1 0 (((v187 * a2)).toNat) (((v187 * a2)).toNat)), (7, .d (eS0 c209)), (25, .d (di .i64 ((((v187 * a2)).toNat : Nat) : Int))), (26, .d (di .i64 g235.1)), (29, .sl 15 1 0 (((v187 * a2)).toNat) (((v187 * a2)).toNat)), (30, .d (di .i64 g235.1))]) (r := .d (dfl ((y242).toNat))) rfl rfl rfl ?_
        change AO _ _ _ _ _
        obtain ⟨q245, h1⟩ := need_elim h1
        refine AO.op rfl (AOp.indexSl rfl rfl (ltb rfl) rfl rfl el24 q245.1 q245.2 ?_)
        obtain ⟨q246, h1⟩ := need_elim h1
        refine AO.op rfl (AOp.storeL (f := fun z => SV.d (keS1 z)) (l := g235.2) (i := (g235.1).toNat) (v := (y242).toNat) rfl rfl rfl rfl size63 rfl rfl rfl q246 ?_)
        refine AO.objs (obs' := [.fix 24 [.d (.v (.slice none 0 0))], .fix 3 [.d (di .i64 (0 : Int))], .fix 4 [.d (dbool false)], .dead, .fix 71 [.d (eS0 a0), .d (di .i64 (((m150 : Nat) : Int) + ((m207 : Nat) : Int))), .d (di .i8 g212)], .dead, .frame fr137 [(6, .ptr 0 0), (7, .ptr 1 0), (8, .ptr 2 0), (9, .ptr 4 0)], .dead, .fix 102 (List.map (fun z => SV.d (keS0 z)) c152), .dead, .dead, .dead, .dead, .dead, .fix 95 [], .fix 63 (List.map (fun z => SV.d (keS1 z)) (g235.2.set (g235.1).toNat ((y242).toNat))), .frame fr191 [(11, .sl 15 1 0 (((v187 * a2)).toNat) (((v187 * a2)).toNat))], .dead, .dead, .dead, .dead, .dead, .dead]) rfl ?_
        refine AO.nil ?_
        change AC _ _ _ _
        refine AC.region ?_
        obtain ⟨q247, h1⟩ := need_elim h1
        refine AO.op rfl (AOp.iadd rfl rfl (ltb rfl) rfl rfl rfl q247.1 q247.2 ?_)
        refine AO.op rfl (AOp.move rfl rfl (ltb rfl) rfl ?_)
        refine AO.nil ?_
        exact ⟨((g235.1 + (1 : Int)), (g235.2.set (g235.1).toNat ((y242).toNat))), _, rfl, (LeL.refl _), rfl, (okU_mk rfl (okU_cons rfl (okU_cons rfl (okU_cons rfl (okU_cons rfl (okU_cons rfl (okU_cons rfl (okU_cons rfl (okU_cons rfl (okU_cons (okU_fixl (fun _ => rfl)) (okU_cons rfl (okU_cons rfl (okU_cons rfl (okU_cons rfl (okU_cons rfl (okU_cons rfl (okU_cons (okU_fixl (fun _ => rfl)) (okU_cons rfl (okU_cons rfl (okU_cons rfl (okU_cons rfl (okU_cons rfl (okU_cons rfl okU_nil))))))))))))))))))))))), h1⟩
      replace h1 := cF h1 q238
      refine AC.exit ?_
      obtain rfl := Option.some.inj h1
      exact ⟨g235.2, _, rfl, (LeL.refl _), rfl, (okU_mk rfl (okU_cons rfl (okU_cons rfl (okU_cons rfl (okU_cons rfl (okU_cons rfl (okU_cons rfl (okU_cons rfl (okU_cons rfl (okU_cons (okU_fixl (fun _ => rfl)) (okU_cons rfl (okU_cons rfl (okU_cons rfl (okU_cons rfl (okU_cons rfl (okU_cons rfl (okU_cons (okU_fixl (fun _ => rfl)) (okU_cons rfl (okU_cons rfl (okU_cons rfl (okU_cons rfl (okU_cons rfl (okU_cons rfl okU_nil))))))))))))))))))))))), aftL h0⟩
    intro g231 h0
    unfold p_ReadFlat1_k9 at h0
    change AC _ _ _ _
    refine AC.seq ?_
    refine AC.region ?_
    refine AO.op rfl (AOp.assign rfl rfl (ltb rfl) rfl ?_)
    refine AO.nil ?_
    change AC _ _ _ _
    refine AC.ret ?_
    refine inlret (ob' := [.fix 24 [.d (.v (.slice none 0 0))], .fix 3 [.d (di .i64 (0 : Int))], .fix 4 [.d (dbool false)], .dead, .fix 71 [.d (eS0 a0), .d (di .i64 (((m150 : Nat) : Int) + ((m207 : Nat) : Int))), .d (di .i8 g212)], .dead, .frame fr137 [(6, .ptr 0 0), (7, .ptr 1 0), (8, .ptr 2 0), (9, .ptr 4 0)], .dead, .fix 102 (List.map (fun z => SV.d (keS0 z)) c152), .dead, .dead, .dead, .dead, .dead, .fix 95 [], .fix 63 (List.map (fun z => SV.d (keS1 z)) g231), .dead, .dead, .dead, .dead, .dead, .dead]) (e' := [(11, .sl 15 1 0 (((v187 * a2)).toNat) (((v187 * a2)).toNat))]) (r := .d (.v (.nilIface))) rfl rfl rfl ?_
    change AO _ _ _ _ _
    refine AO.op rfl (AOp.assign rfl rfl (ltb rfl) rfl ?_)
    refine AO.objs (obs' := [.fix 24 [.d (.v (.slice none 0 0))], .fix 3 [.d (di .i64 (0 : Int))], .fix 4 [.d (dbool false)], .dead, .fix 71 [.d (eS0 a0), .d (di .i64 (((m150 : Nat) : Int) + ((m207 : Nat) : Int))), .d (di .i8 g212)], .dead, .frame fr137 [(6, .ptr 0 0), (7, .ptr 1 0), (8, .ptr 2 0), (9, .ptr 4 0)], .dead, .fix 102 (List.map (fun z => SV.d (keS0 z)) c152), .dead, .dead, .dead, .dead, .dead, .fix 95 [], .fix 63 (List.map (fun z => SV.d (keS1 z)) g231), .dead, .dead, .dead, .dead, .dead, .dead]) rfl ?_
    refine AO.nil ?_
    change AC _ _ _ _
    refine AC.seq ?_
    refine AC.region ?_
    refine AO.op rfl (AOp.move rfl rfl (ltb rfl) rfl ?_)
    refine AO.op rfl (AOp.nilNeq rfl rfl (ltb rfl) rfl imeth57 ?_)
    refine AO.nil ?_
    change AC _ _ _ _
    refine AC.condF rfl rfl ?_
    refine AC.skip ?_
    change AC _ _ _ _
    refine AC.seq ?_
    refine AC.region ?_
    refine AO.op rfl (AOp.move rfl rfl (ltb rfl) rfl ?_)
    refine AO.op rfl (AOp.assign rfl rfl (ltb rfl) rfl ?_)
    refine AO.op rfl (AOp.assign rfl rfl (ltb rfl) rfl ?_)
    refine AO.nil ?_
    change AC _ _ _ _
    refine AC.ret ?_
    refine inlret (ob' := [.fix 24 [.d (.v (.slice none 0 0))], .fix 3 [.d (di .i64 (0 : Int))], .fix 4 [.d (dbool false)], .dead, .fix 71 [.d (eS0 a0), .d (di .i64 (((m150 : Nat) : Int) + ((m207 : Nat) : Int))), .d (di .i8 g212)], .dead, .dead, .dead, .fix 102 (List.map (fun z => SV.d (keS0 z)) c152), .dead, .dead, .dead, .dead, .dead, .fix 95 [], .fix 63 (List.map (fun z => SV.d (keS1 z)) g231), .dead, .dead, .dead, .dead, .dead, .dead]) (e' := [(6, .ptr 0 0), (7, .ptr 1 0), (8, .ptr 2 0), (9, .ptr 4 0)]) (r := .tu [.sl 15 1 0 (((v187 * a2)).toNat) (((v187 * a2)).toNat), .d (.v (.nilIface))]) rfl rfl rfl ?_
    change AO _ _ _ _ _
    refine AO.op rfl (AOp.move rfl rfl (ltb rfl) rfl ?_)
    first | refine AO.op rfl (AOp.extractD rfl rfl (ltb rfl) rfl rfl ?_) | refine AO.op rfl (AOp.extract rfl rfl (ltb rfl) rfl rfl ?_)
    first | refine AO.op rfl (AOp.extractD rfl rfl (ltb rfl) rfl rfl ?_) | refine AO.op rfl (AOp.extract rfl rfl (ltb rfl) rfl rfl ?_)
    obtain ⟨q232, h0⟩ := need_elim h0
    refine AO.freezeF (ds := (List.map keS1 g231)) 21 15 rfl rfl rfl (by rw [List.map_map]; rfl) (lenq q232 (len1 _ _)) (Nat.le_refl _) ?_
    refine AO.op rfl (AOp.store rfl rfl rfl rfl size24 rfl rfl rfl (leb rfl) ?_)
    refine AO.op rfl (AOp.assign rfl rfl (ltb rfl) rfl ?_)
    refine AO.objs (obs' := [.fix 24 [.d (eS1 g231)], .fix 3 [.d (di .i64 (0 : Int))], .fix 4 [.d (dbool false)], .dead, .fix 71 [.d (eS0 a0), .d (di .i64 (((m150 : Nat) : Int) + ((m207 : Nat) : Int))), .d (di .i8 g212)], .dead, .dead, .dead, .fix 102 (List.map (fun z => SV.d (keS0 z)) c152), .dead, .dead, .dead, .dead, .dead, .fix 95 [], .dead, .dead, .dead, .dead, .dead, .dead, .dead]) rfl ?_
    refine AO.nil ?_
    change AC _ _ _ _
    refine AC.seq ?_
    refine AC.freezeP (ds := c_TBytes_Buffer (TBytes_Buffer.mk a0 (((m150 : Nat) : Int) + ((m207 : Nat) : Int)) g212)) 9 4 rfl rfl rfl rfl (Nat.zero_le _) ?_
    obtain ⟨y233, q234, h0⟩ := bind_elim h0
    refine AC.drawS [0, 1, 2, 3, 4, 5, 6] [5, 6] [7] (fun L => [.fix 24 [.d (eS1 g231)], .fix 3 [(bif L 6 then .d (di .i64 y233) else .d (di .i64 (0 : Int)))], .fix 4 [.d (dbool false)], .dead, .dead, .dead, .dead, .dead, .fix 102 (List.map (fun z => SV.d (keS0 z)) c152), .dead, .dead, .dead, .dead, .dead, .fix 95 [], .dead, .dead, .dead, .dead, .dead, .dead, .dead]) [(5, (fun _ => true)), (6, (fun _ => true))] mixed (by kernel_rfl) (fun L L' h => by simp only [h 5 (by decide), h 6 (by decide)]) rfl ?_
    refine AS.op [6] [] [5, 6] [] rfl rfl rfl (by kernel_rfl) (by kernel_rfl) rfl rfl (fun _ _ _ h => AOp.load1 rfl rfl (ltb rfl) rfl agg24 rfl rfl h) (by kernel_rfl) ?_
    refine AS.op [9] [] [5, 6] [] rfl rfl rfl (by kernel_rfl) (by kernel_rfl) rfl rfl (fun _ _ _ h => AOp.move rfl rfl (ltb rfl) rfl h) (by kernel_rfl) ?_
    refine AS.op [24] [] [5, 6] [] rfl rfl rfl (by kernel_rfl) (by kernel_rfl) rfl rfl (fun _ _ _ h => AOp.callD rfl rfl (ltb rfl) rfl rfl (w_Buffer_Len (TBytes_Buffer.mk a0 (((m150 : Nat) : Int) + ((m207 : Nat) : Int)) g212) y233 q234) (by rintro _ rfl; exact h)) (by kernel_rfl) ?_
    refine AS.op [10] [] [] [5, 6] rfl rfl rfl (by kernel_rfl) (by kernel_rfl) rfl rfl (fun _ _ _ h => AOp.move rfl rfl (ltb rfl) rfl h) (by kernel_rfl) ?_
    refine AS.op [26] [] [] [5, 6] rfl rfl rfl (by kernel_rfl) (by kernel_rfl) rfl rfl (fun _ _ _ h => AOp.nilEq rfl rfl (ltb rfl) rfl imeth57 h) (by kernel_rfl) ?_
    refine AS.mid0 [6, 23] [] [6, 5] [] rfl rfl rfl rfl (by kernel_rfl) (by kernel_rfl) rfl rfl (fun _ _ _ h => AOp.store rfl rfl rfl rfl size24 rfl rfl rfl (leb rfl) (AO.dropT h)) (by kernel_rfl) rfl ?_
    refine AS.mid0 [7, 25] [5] [6] [] rfl rfl rfl rfl (by kernel_rfl) (by kernel_rfl) rfl rfl (fun _ _ _ h => AOp.store rfl rfl rfl rfl size3 rfl rfl rfl (leb rfl) (AO.dropT h)) (by kernel_rfl) rfl ?_
    refine AS.done ?_
    refine AO.objs (obs' := [.fix 24 [.d (eS1 g231)], .fix 3 [.d (di .i64 y233)], .fix 4 [.d (dbool false)], .dead, .dead, .dead, .dead, .dead, .fix 102 (List.map (fun z => SV.d (keS0 z)) c152), .dead, .dead, .dead, .dead, .dead, .fix 95 [], .dead, .dead, .dead, .dead, .dead, .dead, .dead]) rfl ?_
    refine AO.op rfl (AOp.store rfl rfl rfl rfl size4 rfl rfl rfl (leb rfl) ?_)
    refine AO.nil ?_
    change AC _ _ _ _
    refine AC.ret ?_
    change RetQ _ _ _ .ret _
    obtain rfl := Option.some.inj h0
    refine retq rfl rfl
  replace h0 := cF h0 q196
  refine AO.guardN rfl rfl rfl (ltb rfl) rfl q196 ?_
  refine AO.guardN rfl rfl rfl (ltb rfl) rfl q196 ?_
  refine AO.op rfl (AOp.pickN rfl rfl (ltb rfl) rfl q196 rfl ?_)
  refine AO.nil ?_
  change AC _ _ _ _
  refine AC.condF rfl rfl ?_
  refine AC.exit ?_
  change AC _ _ _ _
  refine AC.seq ?_
  refine AC.seq ?_
  refine AC.region ?_
  refine AO.op rfl (AOp.move rfl rfl (ltb rfl) rfl ?_)
  refine AO.op rfl (AOp.move rfl rfl (ltb rfl) rfl ?_)
  refine AO.op rfl (AOp.igeq rfl rfl (ltb rfl) rfl rfl ?_)
  refine AO.nil ?_
  change AC _ _ _ _
  refine AC.condT rfl (dlt_ge q196) ?_
  refine AC.region ?_
  refine AO.op rfl (AOp.assign rfl rfl (ltb rfl) rfl ?_)
  refine AO.nil ?_
  change AC _ _ _ _
  refine AC.ret ?_
  refine inlret (ob' := [.fix 24 [.d (.v (.slice none 0 0))], .fix 3 [.d (di .i64 (0 : Int))], .fix 4 [.d (dbool false)], .dead, .fix 71 [.d (eS0 a0), .d (di .i64 ((m150 : Nat) : Int)), .d (di .i8 g155)], .dead, .frame fr137 [(6, .ptr 0 0), (7, .ptr 1 0), (8, .ptr 2 0), (9, .ptr 4 0)], .dead, .fix 102 (List.map (fun z => SV.d (keS0 z)) c152), .dead, .dead, .dead, .dead, .dead, .fix 95 [], .fix 63 (List.map (fun z => SV.d (keS1 z)) (List.replicate ((v187 * a2)).toNat (0 : Nat))), .frame fr191 [(11, .sl 15 1 0 (((v187 * a2)).toNat) (((v187 * a2)).toNat))], .fix 5 (List.map (fun z => SV.d (keS0 z)) (List.replicate (((8 : Int) * ((((v187 * a2)).toNat : Nat) : Int))).toNat (0 : Int))), .frame fr194 [(1, .ifc 95 (.ag [])), (2, .sl 15 1 0 (((v187 * a2)).toNat) (((v187 * a2)).toNat)), (7, .sl 17 1 0 ((((8 : Int) * ((((v187 * a2)).toNat : Nat) : Int))).toNat) ((((8 : Int) * ((((v187 * a2)).toNat : Nat) : Int))).toNat))], .dead]) (e' := [(4, .d (di .i64 (0 : Int))), (5, .d (.v (.nilIface)))]) (r := .tu [.d (di .i64 (0 : Int)), .d (.v (.nilIface))]) rfl rfl rfl ?_
  change AO _ _ _ _ _
  first | refine AO.op rfl (AOp.extractD rfl rfl (ltb rfl) rfl rfl ?_) | refine AO.op rfl (AOp.extract rfl rfl (ltb rfl) rfl rfl ?_)
  first | refine AO.op rfl (AOp.extractD rfl rfl (ltb rfl) rfl rfl ?_) | refine AO.op rfl (AOp.extract rfl rfl (ltb rfl) rfl rfl ?_)
  refine AO.op rfl (AOp.assign rfl rfl (ltb rfl) rfl ?_)
  refine AO.op rfl (AOp.assign rfl rfl (ltb rfl) rfl ?_)
  refine AO.objs (obs' := [.fix 24 [.d (.v (.slice none 0 0))], .fix 3 [.d (di .i64 (0 : Int))], .fix 4 [.d (dbool false)], .dead, .fix 71 [.d (eS0 a0), .d (di .i64 ((m150 : Nat) : Int)), .d (di .i8 g155)], .dead, .frame fr137 [(6, .ptr 0 0), (7, .ptr 1 0), (8, .ptr 2 0), (9, .ptr 4 0)], .dead, .fix 102 (List.map (fun z => SV.d (keS0 z)) c152), .dead, .dead, .dead, .dead, .dead, .fix 95 [], .fix 63 (List.map (fun z => SV.d (keS1 z)) (List.replicate ((v187 * a2)).toNat (0 : Nat))), .frame fr191 [(11, .sl 15 1 0 (((v187 * a2)).toNat) (((v187 * a2)).toNat))], .fix 5 (List.map (fun z => SV.d (keS0 z)) (List.replicate (((8 : Int) * ((((v187 * a2)).toNat : Nat) : Int))).toNat (0 : Int))), .frame fr194 [(1, .ifc 95 (.ag [])), (2, .sl 15 1 0 (((v187 * a2)).toNat) (((v187 * a2)).toNat)), (7, .sl 17 1 0 ((((8 : Int) * ((((v187 * a2)).toNat : Nat) : Int))).toNat) ((((8 : Int) * ((((v187 * a2)).toNat : Nat) : Int))).toNat))], .dead]) rfl ?_
  refine AO.nil ?_
  change AC _ _ _ _
  refine AC.ret ?_
  refine inlret (ob' := [.fix 24 [.d (.v (.slice none 0 0))], .fix 3 [.d (di .i64 (0 : Int))], .fix 4 [.d (dbool false)], .dead, .fix 71 [.d (eS0 a0), .d (di .i64 ((m150 : Nat) : Int)), .d (di .i8 g155)], .dead, .frame fr137 [(6, .ptr 0 0), (7, .ptr 1 0), (8, .ptr 2 0), (9, .ptr 4 0)], .dead, .fix 102 (List.map (fun z => SV.d (keS0 z)) c152), .dead, .dead, .dead, .dead, .dead, .fix 95 [], .fix 63 (List.map (fun z => SV.d (keS1 z)) (List.replicate ((v187 * a2)).toNat (0 : Nat))), .frame fr191 [(11, .sl 15 1 0 (((v187 * a2)).toNat) (((v187 * a2)).toNat))], .fix 5 (List.map (fun z => SV.d (keS0 z)) (List.replicate (((8 : Int) * ((((v187 * a2)).toNat : Nat) : Int))).toNat (0 : Int))), .dead, .dead]) (e' := [(1, .ifc 95 (.ag [])), (2, .sl 15 1 0 (((v187 * a2)).toNat) (((v187 * a2)).toNat)), (7, .sl 17 1 0 ((((8 : Int) * ((((v187 * a2)).toNat : Nat) : Int))).toNat) ((((8 : Int) * ((((v187 * a2)).toNat : Nat) : Int))).toNat))]) (r := .tu [.d (di .i64 (0 : Int)), .d (.v (.nilIface))]) rfl rfl rfl ?_
  change AO _ _ _ _ _
  refine AO.op rfl (AOp.move rfl rfl (ltb rfl) rfl ?_)
  first | refine AO.op rfl (AOp.extractD rfl rfl (ltb rfl) rfl rfl ?_) | refine AO.op rfl (AOp.extract rfl rfl (ltb rfl) rfl rfl ?_)
  first | refine AO.op rfl (AOp.extractD rfl rfl (ltb rfl) rfl rfl ?_) | refine AO.op rfl (AOp.extract rfl rfl (ltb rfl) rfl rfl ?_)
  refine AO.op rfl (AOp.assign rfl rfl (ltb rfl) rfl ?_)
  refine AO.op rfl (AOp.assign rfl rfl (ltb rfl) rfl ?_)
  refine AO.objs (obs' := [.fix 24 [.d (.v (.slice none 0 0))], .fix 3 [.d (di .i64 (0 : Int))], .fix 4 [.d (dbool false)], .dead, .fix 71 [.d (eS0 a0), .d (di .i64 ((m150 : Nat) : Int)), .d (di .i8 g155)], .dead, .frame fr137 [(6, .ptr 0 0), (7, .ptr 1 0), (8, .ptr 2 0), (9, .ptr 4 0)], .dead, .fix 102 (List.map (fun z => SV.d (keS0 z)) c152), .dead, .dead, .dead, .dead, .dead, .fix 95 [], .fix 63 (List.map (fun z => SV.d (keS1 z)) (List.replicate ((v187 * a2)).toNat (0 : Nat))), .frame fr191 [(11, .sl 15 1 0 (((v187 * a2)).toNat) (((v187 * a2)).toNat))], .fix 5 (List.map (fun z => SV.d (keS0 z)) (List.replicate (((8 : Int) * ((((v187 * a2)).toNat : Nat) : Int))).toNat (0 : Int))), .dead, .dead]) rfl ?_
  refine AO.nil ?_
  change AC _ _ _ _
  refine AC.seq ?_
  refine AC.region ?_
  refine AO.op rfl (AOp.move rfl rfl (ltb rfl) rfl ?_)
  refine AO.op rfl (AOp.nilNeq rfl rfl (ltb rfl) rfl imeth57 ?_)
  refine AO.nil ?_
  change AC _ _ _ _
  refine AC.condF rfl rfl ?_
  refine AC.skip ?_
  change AC _ _ _ _
  refine AC.seq ?_
  refine AC.seq ?_
  refine AC.region ?_
  refine AO.op rfl (AOp.move rfl rfl (ltb rfl) rfl ?_)
  refine AO.op rfl (AOp.lenSl rfl rfl (ltb rfl) rfl el24 ?_)
  refine AO.op rfl (AOp.move rfl rfl (ltb rfl) rfl ?_)
  refine AO.nil ?_
  change AC _ _ _ _
  obtain ⟨q249, h0⟩ := need_elim h0
  refine AC.freezeF (ds := (List.map keS0 (List.replicate (((8 : Int) * ((((v187 * a2)).toNat : Nat) : Int))).toNat (0 : Int)))) 7 17 rfl rfl rfl (by rw [List.map_map]; rfl) (lenq q249 (len1 _ _)) (Nat.le_refl _) ?_
  obtain ⟨o250, l251, h0⟩ := bind_elim h0
  refine AC.joinE (V := (List Nat)) [] [] 20 (fun g252 => []) (fun g252 => [.fix 24 [.d (.v (.slice none 0 0))], .fix 3 [.d (di .i64 (0 : Int))], .fix 4 [.d (dbool false)], .dead, .fix 71 [.d (eS0 a0), .d (di .i64 ((m150 : Nat) : Int)), .d (di .i8 g155)], .dead, .frame fr137 [(6, .ptr 0 0), (7, .ptr 1 0), (8, .ptr 2 0), (9, .ptr 4 0)], .dead, .fix 102 (List.map (fun z => SV.d (keS0 z)) c152), .dead, .dead, .dead, .dead, .dead, .fix 95 [], .fix 63 (List.map (fun z => SV.d (keS1 z)) g252), .frame fr191 [(11, .sl 15 1 0 (((v187 * a2)).toNat) (((v187 * a2)).toNat))], .dead, .dead, .dead]) (fun g252 => (p_ReadFlat1_k11 a0 a2 m150 g155 v187) g252 = some r0) rfl ?_ ?_
  · refine AC.block ?_
    refine AC.loopP (V := (Int × (List Nat))) (p_ReadFlat1_l12 a2 v187) o250 [1, 2, 7, 25] [26] 20 (fun g256 => [(26, .d (di .i64 g256.1))]) (fun g256 => [.fix 24 [.d (.v (.slice none 0 0))], .fix 3 [.d (di .i64 (0 : Int))], .fix 4 [.d (dbool false)], .dead, .fix 71 [.d (eS0 a0), .d (di .i64 ((m150 : Nat) : Int)), .d (di .i8 g155)], .dead, .frame fr137 [(6, .ptr 0 0), (7, .ptr 1 0), (8, .ptr 2 0), (9, .ptr 4 0)], .dead, .fix 102 (List.map (fun z => SV.d (keS0 z)) c152), .dead, .dead, .dead, .dead, .dead, .fix 95 [], .fix 63 (List.map (fun z => SV.d (keS1 z)) g256.2), .frame fr191 [(11, .sl 15 1 0 (((v187 * a2)).toNat) (((v187 * a2)).toNat))], .dead, .dead, .dead]) F ((0 : Int), (List.replicate ((v187 * a2)).toNat (0 : Nat))) l251 rfl rfl (LeL.refl _) rfl (okU_mk rfl (okU_cons rfl (okU_cons rfl (okU_cons rfl (okU_cons rfl (okU_cons rfl (okU_cons rfl (okU_cons rfl (okU_cons rfl (okU_cons (okU_fixl (fun _ => rfl)) (okU_cons rfl (okU_cons rfl (okU_cons rfl (okU_cons rfl (okU_cons rfl (okU_cons rfl (okU_cons (okU_fixl (fun _ => rfl)) (okU_cons rfl (okU_cons rfl (okU_cons rfl (okU_cons rfl okU_nil))))))))))))))))))))) ?_
    intro n258 g256 h1
    unfold p_ReadFlat1_l12 at h1
    refine AC.seq ?_
    refine AC.region ?_
    refine AO.op rfl (AOp.ilss rfl rfl (ltb rfl) rfl rfl ?_)
    refine AO.nil ?_
    change AC _ _ _ _
    refine AC.seq ?_
    refine AC.cond rfl (fun q259 => ?_) (fun q259 => ?_)
    · replace h1 := cT h1 q259
      refine AC.skip ?_
      change AC _ _ _ _
      refine AC.seq ?_
      refine AC.block ?_
      refine AC.seq ?_
      refine AC.region ?_
      refine AO.op rfl (AOp.move rfl rfl (ltb rfl) rfl ?_)
      refine AO.op rfl (AOp.assign rfl rfl (ltb rfl) rfl ?_)
      refine AO.nil ?_
      change AC _ _ _ _
      refine AC.region ?_
      refine AO.op rfl (AOp.move rfl rfl (ltb rfl) rfl ?_)
      refine AO.op rfl (AOp.move rfl rfl (ltb rfl) rfl ?_)
      refine AO.op rfl (AOp.move rfl rfl (ltb rfl) rfl ?_)
      refine AO.op rfl (AOp.move rfl rfl (ltb rfl) rfl ?_)
      obtain ⟨q260, h1⟩ := need_elim h1
      refine AO.op rfl (AOp.imul rfl rfl (ltb rfl) rfl rfl rfl q260.1 q260.2 ?_)
      obtain ⟨q261, h1⟩ := need_elim h1
      refine AO.op rfl (AOp.sliceD (cells := (List.map keS0 (List.replicate (((8 : Int) * ((((v187 * a2)).toNat : Nat) : Int))).toNat (0 : Int)))) (n := (List.replicate (((8 : Int) * ((((v187 * a2)).toNat : Nat) : Int))).toNat (0 : Int)).length) (l := (((8 : Int) * g256.1)).toNat) (hh := (List.replicate (((8 : Int) * ((((v187 * a2)).toNat : Nat) : Int))).toNat (0 : Int)).length) rfl rfl (ltb rfl) rfl (.inr ⟨_, _, _, rfl, rfl, q261.1.1, rfl⟩) (.inl ⟨rfl, rfl⟩) el22 (by decide) (len1 _ _) q261.2.1 q261.2.2 (sub1 _ _ _ _) ?_)
      refine AO.op rfl (AOp.move rfl rfl (ltb rfl) rfl ?_)
      refine AO.op rfl (AOp.inl [1, 2, 7, 25, 26, 29, 30] (by kernel_rfl) Tryd.func46 rfl Tryd.ntmps46 rfl rfl (ltb rfl) rfl (leb rfl) rfl ?_)
      intro fr262
      refine AC.seq ?_
      refine AC.region ?_
      refine AO.op rfl (AOp.assign rfl rfl (ltb rfl) rfl ?_)
      refine AO.objs (obs' := [.fix 24 [.d (.v (.slice none 0 0))], .fix 3 [.d (di .i64 (0 : Int))], .fix 4 [.d (dbool false)], .dead, .fix 71 [.d (eS0 a0), .d (di .i64 ((m150 : Nat) : Int)), .d (di .i8 g155)], .dead, .frame fr137 [(6, .ptr 0 0), (7, .ptr 1 0), (8, .ptr 2 0), (9, .ptr 4 0)], .dead, .fix 102 (List.map (fun z => SV.d (keS0 z)) c152), .dead, .dead, .dead, .dead, .dead, .fix 95 [], .fix 63 (List.map (fun z => SV.d (keS1 z)) g256.2), .frame fr191 [(11, .sl 15 1 0 (((v187 * a2)).toNat) (((v187 * a2)).toNat))], .dead, .dead, .dead, .frame fr262 [(1, .ifc 95 (.ag [])), (2, .sl 15 1 0 (((v187 * a2)).toNat) (((v187 * a2)).toNat)), (7, .d (eS0 (List.replicate (((8 : Int) * ((((v187 * a2)).toNat : Nat) : Int))).toNat (0 : Int)))), (25, .d (di .i64 ((((v187 * a2)).toNat : Nat) : Int))), (26, .d (di .i64 g256.1)), (29, .sl 15 1 0 (((v187 * a2)).toNat) (((v187 * a2)).toNat)), (30, .d (di .i64 g256.1))]]) rfl ?_
      refine AO.nil ?_
      change AC _ _ _ _
      refine AC.seq ?_
      refine AC.region ?_
      refine AO.op rfl (AOp.move rfl rfl (ltb rfl) rfl ?_)
      refine AO.op rfl (AOp.move rfl rfl (ltb rfl) rfl ?_)
      obtain ⟨y263, q264, h1⟩ := bind_elim h1
      refine AO.op rfl (AOp.callE (EntersS.meth (by kernel_rfl) rfl rfl rfl meth95_Uint64 rfl rfl) rfl (ltb rfl) rfl rfl (w_littleEndian_Uint64 TBinary_bigEndian.mk (((List.replicate (((8 : Int) * ((((v187 * a2)).toNat : Nat) : Int))).toNat (0 : Int)).drop (((8 : Int) * g256.1)).toNat).take ((List.replicate (((8 : Int) * ((((v187 * a2)).toNat : Nat) : Int))).toNat (0 : Int)).length - (((8 : Int) * g256.1)).toNat)) y263 q264) ?_)
      rintro _ rfl
      refine AO.op rfl (AOp.assign rfl rfl (ltb rfl) rfl ?_)
      refine AO.nil ?_
      change AC _ _ _ _
      refine AC.seq ?_
      refine AC.region ?_
      refine AO.op rfl (AOp.move rfl rfl (ltb rfl) rfl ?_)
      obtain ⟨q265, h1⟩ := need_elim h1
      refine AO.op rfl (AOp.callX [.int .u64 (((y263).toNat : Nat) : Int)] rfl rfl (ltb rfl) (by rw [q265]; rfl) (callFromBits ((y263).toNat)) ?_)
      refine AO.op rfl (AOp.assign rfl rfl (ltb rfl) rfl ?_)
      refine AO.nil ?_
      change AC _ _ _ _
      refine AC.ret ?_
      refine inlret (ob' := [.fix 24 [.d (.v (.slice none 0 0))], .fix 3 [.d (di .i64 (0 : Int))], .fix 4 [.d (dbool false)], .dead, .fix 71 [.d (eS0 a0), .d (di .i64 ((m150 : Nat) : Int)), .d (di .i8 g155)], .dead, .frame fr137 [(6, .ptr 0 0), (7, .ptr 1 0), (8, .ptr 2 0), (9, .ptr 4 0)], .dead, .fix 102 (List.map (fun z => SV.d (keS0 z)) c152), .dead, .dead, .dead, .dead, .dead, .fix 95 [], .fix 63 (List.map (fun z => SV.d (keS1 z)) g256.2), .frame fr191 [(11, .sl 15 1 0 (((v187 * a2)).toNat) (((v187 * a2)).toNat))], .dead, .dead, .dead, .dead]) (e' := [(1, .ifc 95 (.ag [])), (2, .sl 15 1 0 (((v187 * a2)).toNat) (((v187 * a2)).toNat)), (7, .d (eS0 (List.replicate (((8 : Int) * ((((v187 * a2)).toNat : Nat) : Int))).toNat (0 : Int)))), (25, .d (di .i64 ((((v187 * a2)).toNat : Nat) : Int))), (26, .d (di .i64 g256.1)), (29, .sl 15 1 0 (((v187 * a2)).toNat) (((v187 * a2)).toNat)), (30, .d (di .i64 g256.1))]) (r := .d (dfl ((y263).toNat))) rfl rfl rfl ?_
      change AO _ _ _ _ _
      obtain ⟨q266, h1⟩ := need_elim h1
      refine AO.op rfl (AOp.indexSl rfl rfl (ltb rfl) rfl rfl el24 q266.1 q266.2 ?_)
      obtain ⟨q267, h1⟩ := need_elim h1
      refine AO.op rfl (AOp.storeL (f := fun z => SV.d (keS1 z)) (l := g256.2) (i := (g256.1).toNat) (v := (y263).toNat) rfl rfl rfl rfl size63 rfl rfl rfl q267 ?_)
      refine AO.objs (obs' := [.fix 24 [.d (.v (.slice none 0 0))], .fix 3 [.d (di .i64 (0 : Int))], .fix 4 [.d (dbool false)], .dead, .fix 71 [.d (eS0 a0), .d (di .i64 ((m150 : Nat) : Int)), .d (di .i8 g155)], .dead, .frame fr137 [(6, .ptr 0 0), (7, .ptr 1 0), (8, .ptr 2 0), (9, .ptr 4 0)], .dead, .fix 102 (List.map (fun z => SV.d (keS0 z)) c152), .dead, .dead, .dead, .dead, .dead, .fix 95 [], .fix 63 (List.map (fun z => SV.d (keS1 z)) (g256.2.set (g256.1).toNat ((y263).toNat))), .frame fr191 [(11, .sl 15 1 0 (((v187 * a2)).toNat) (((v187 * a2)).toNat))], .dead, .dead, .dead, .dead]) rfl ?_
      refine AO.nil ?_
      change AC _ _ _ _
      refine AC.region ?_
      obtain ⟨q268, h1⟩ := need_elim h1
      refine AO.op rfl (AOp.iadd rfl rfl (ltb rfl) rfl rfl rfl q268.1 q268.2 ?_)
      refine AO.op rfl (AOp.move rfl rfl (ltb rfl) rfl ?_)
      refine AO.nil ?_
      exact ⟨((g256.1 + (1 : Int)), (g256.2.set (g256.1).toNat ((y263).toNat))), _, rfl, (LeL.refl _), rfl, (okU_mk rfl (okU_cons rfl (okU_cons rfl (okU_cons rfl (okU_cons rfl (okU_cons rfl (okU_cons rfl (okU_cons rfl (okU_cons rfl (okU_cons (okU_fixl (fun _ => rfl)) (okU_cons rfl (okU_cons rfl (okU_cons rfl (okU_cons rfl (okU_cons rfl (okU_cons rfl (okU_cons (okU_fixl (fun _ => rfl)) (okU_cons rfl (okU_cons rfl (okU_cons rfl (okU_cons rfl okU_nil))))))))))))))))))))), h1⟩
    replace h1 := cF h1 q259
    refine AC.exit ?_
    obtain rfl := Option.some.inj h1
    exact ⟨g256.2, _, rfl, (LeL.refl _), rfl, (okU_mk rfl (okU_cons rfl (okU_cons rfl (okU_cons rfl (okU_cons rfl (okU_cons rfl (okU_cons rfl (okU_cons rfl (okU_cons rfl (okU_cons (okU_fixl (fun _ => rfl)) (okU_cons rfl (okU_cons rfl (okU_cons rfl (okU_cons rfl (okU_cons rfl (okU_cons rfl (okU_cons (okU_fixl (fun _ => rfl)) (okU_cons rfl (okU_cons rfl (okU_cons rfl (okU_cons rfl okU_nil))))))))))))))))))))), aftL h0⟩
  intro g252 h0
  unfold p_ReadFlat1_k11 at h0
  change AC _ _ _ _
  refine AC.seq ?_
  refine AC.region ?_
  refine AO.op rfl (AOp.assign rfl rfl (ltb rfl) rfl ?_)
  refine AO.nil ?_
  change AC _ _ _ _
  refine AC.ret ?_
  refine inlret (ob' := [.fix 24 [.d (.v (.slice none 0 0))], .fix 3 [.d (di .i64 (0 : Int))], .fix 4 [.d (dbool false)], .dead, .fix 71 [.d (eS0 a0), .d (di .i64 ((m150 : Nat) : Int)), .d (di .i8 g155)], .dead, .frame fr137 [(6, .ptr 0 0), (7, .ptr 1 0), (8, .ptr 2 0), (9, .ptr 4 0)], .dead, .fix 102 (List.map (fun z => SV.d (keS0 z)) c152), .dead, .dead, .dead, .dead, .dead, .fix 95 [], .fix 63 (List.map (fun z => SV.d (keS1 z)) g252), .dead, .dead, .dead, .dead]) (e' := [(11, .sl 15 1 0 (((v187 * a2)).toNat) (((v187 * a2)).toNat))]) (r := .d (.v (.nilIface))) rfl rfl rfl ?_
  change AO _ _ _ _ _
  refine AO.op rfl (AOp.assign rfl rfl (ltb rfl) rfl ?_)
  refine AO.objs (obs' := [.fix 24 [.d (.v (.slice none 0 0))], .fix 3 [.d (di .i64 (0 : Int))], .fix 4 [.d (dbool false)], .dead, .fix 71 [.d (eS0 a0), .d (di .i64 ((m150 : Nat) : Int)), .d (di .i8 g155)], .dead, .frame fr137 [(6, .ptr 0 0), (7, .ptr 1 0), (8, .ptr 2 0), (9, .ptr 4 0)], .dead, .fix 102 (List.map (fun z => SV.d (keS0 z)) c152), .dead, .dead, .dead, .dead, .dead, .fix 95 [], .fix 63 (List.map (fun z => SV.d (keS1 z)) g252), .dead, .dead, .dead, .dead]) rfl ?_
  refine AO.nil ?_
  change AC _ _ _ _
  refine AC.seq ?_
  refine AC.region ?_
  refine AO.op rfl (AOp.move rfl rfl (ltb rfl) rfl ?_)
  refine AO.op rfl (AOp.nilNeq rfl rfl (ltb rfl) rfl imeth57 ?_)
  refine AO.nil ?_
  change AC _ _ _ _
  refine AC.condF rfl rfl ?_
  refine AC.skip ?_
  change AC _ _ _ _
  refine AC.seq ?_
  refine AC.region ?_
  refine AO.op rfl (AOp.move rfl rfl (ltb rfl) rfl ?_)
  refine AO.op rfl (AOp.assign rfl rfl (ltb rfl) rfl ?_)
  refine AO.op rfl (AOp.assign rfl rfl (ltb rfl) rfl ?_)
  refine AO.nil ?_
  change AC _ _ _ _
  refine AC.ret ?_
  refine inlret (ob' := [.fix 24 [.d (.v (.slice none 0 0))], .fix 3 [.d (di .i64 (0 : Int))], .fix 4 [.d (dbool false)], .dead, .fix 71 [.d (eS0 a0), .d (di .i64 ((m150 : Nat) : Int)), .d (di .i8 g155)], .dead, .dead, .dead, .fix 102 (List.map (fun z => SV.d (keS0 z)) c152), .dead, .dead, .dead, .dead, .dead, .fix 95 [], .fix 63 (List.map (fun z => SV.d (keS1 z)) g252), .dead, .dead, .dead, .dead]) (e' := [(6, .ptr 0 0), (7, .ptr 1 0), (8, .ptr 2 0), (9, .ptr 4 0)]) (r := .tu [.sl 15 1 0 (((v187 * a2)).toNat) (((v187 * a2)).toNat), .d (.v (.nilIface))]) rfl rfl rfl ?_
  change AO _ _ _ _ _
  refine AO.op rfl (AOp.move rfl rfl (ltb rfl) rfl ?_)
  first | refine AO.op rfl (AOp.extractD rfl rfl (ltb rfl) rfl rfl ?_) | refine AO.op rfl (AOp.extract rfl rfl (ltb rfl) rfl rfl ?_)
  first | refine AO.op rfl (AOp.extractD rfl rfl (ltb rfl) rfl rfl ?_) | refine AO.op rfl (AOp.extract rfl rfl (ltb rfl) rfl rfl ?_)
  obtain ⟨q253, h0⟩ := need_elim h0
  refine AO.freezeF (ds := (List.map keS1 g252)) 21 15 rfl rfl rfl (by rw [List.map_map]; rfl) (lenq q253 (len1 _ _)) (Nat.le_refl _) ?_
  refine AO.op rfl (AOp.store rfl rfl rfl rfl size24 rfl rfl rfl (leb rfl) ?_)
  refine AO.op rfl (AOp.assign rfl rfl (ltb rfl) rfl ?_)
  refine AO.objs (obs' := [.fix 24 [.d (eS1 g252)], .fix 3 [.d (di .i64 (0 : Int))], .fix 4 [.d (dbool false)], .dead, .fix 71 [.d (eS0 a0), .d (di .i64 ((m150 : Nat) : Int)), .d (di .i8 g155)], .dead, .dead, .dead, .fix 102 (List.map (fun z => SV.d (keS0 z)) c152), .dead, .dead, .dead, .dead, .dead, .fix 95 [], .dead, .dead, .dead, .dead, .dead]) rfl ?_
  refine AO.nil ?_
  change AC _ _ _ _
  refine AC.seq ?_
  refine AC.freezeP (ds := c_TBytes_Buffer (TBytes_Buffer.mk a0 ((m150 : Nat) : Int) g155)) 9 4 rfl rfl rfl rfl (Nat.zero_le _) ?_
  obtain ⟨y254, q255, h0⟩ := bind_elim h0
  refine AC.drawS [0, 1, 2, 3, 4, 5, 6] [5, 6] [7] (fun L => [.fix 24 [.d (eS1 g252)], .fix 3 [(bif L 6 then .d (di .i64 y254) else .d (di .i64 (0 : Int)))], .fix 4 [.d (dbool false)], .dead, .dead, .dead, .dead, .dead, .fix 102 (List.map (fun z => SV.d (keS0 z)) c152), .dead, .dead, .dead, .dead, .dead, .fix 95 [], .dead, .dead, .dead, .dead, .dead]) [(5, (fun _ => true)), (6, (fun _ => true))] mixed (by kernel_rfl) (fun L L' h => by simp only [h 5 (by decide), h 6 (by decide)]) rfl ?_
  refine AS.op [6] [] [5, 6] [] rfl rfl rfl (by kernel_rfl) (by kernel_rfl) rfl rfl (fun _ _ _ h => AOp.load1 rfl rfl (ltb rfl) rfl agg24 rfl rfl h) (by kernel_rfl) ?_
  refine AS.op [9] [] [5, 6] [] rfl rfl rfl (by kernel_rfl) (by kernel_rfl) rfl rfl (fun _ _ _ h => AOp.move rfl rfl (ltb rfl) rfl h) (by kernel_rfl) ?_
  refine AS.op [24] [] [5, 6] [] rfl rfl rfl (by kernel_rfl) (by kernel_rfl) rfl rfl (fun _ _ _ h => AOp.callD rfl rfl (ltb rfl) rfl rfl (w_Buffer_Len (TBytes_Buffer.mk a0 ((m150 : Nat) : Int) g155) y254 q255) (by rintro _ rfl; exact h)) (by kernel_rfl) ?_
  refine AS.op [10] [] [] [5, 6] rfl rfl rfl (by kernel_rfl) (by kernel_rfl) rfl rfl (fun _ _ _ h => AOp.move rfl rfl (ltb rfl) rfl h) (by kernel_rfl) ?_
  refine AS.op [26] [] [] [5, 6] rfl rfl rfl (by kernel_rfl) (by kernel_rfl) rfl rfl (fun _ _ _ h => AOp.nilEq rfl rfl (ltb rfl) rfl imeth57 h) (by kernel_rfl) ?_
  refine AS.mid0 [6, 23] [] [6, 5] [] rfl rfl rfl rfl (by kernel_rfl) (by kernel_rfl) rfl rfl (fun _ _ _ h => AOp.store rfl rfl rfl rfl size24 rfl rfl rfl (leb rfl) (AO.dropT h)) (by kernel_rfl) rfl ?_
  refine AS.mid0 [7, 25] [5] [6] [] rfl rfl rfl rfl (by kernel_rfl) (by kernel_rfl) rfl rfl (fun _ _ _ h => AOp.store rfl rfl rfl rfl size3 rfl rfl rfl (leb rfl) (AO.dropT h)) (by kernel_rfl) rfl ?_
  refine AS.done ?_
  refine AO.objs (obs' := [.fix 24 [.d (eS1 g252)], .fix 3 [.d (di .i64 y254)], .fix 4 [.d (dbool false)], .dead, .dead, .dead, .dead, .dead, .fix 102 (List.map (fun z => SV.d (keS0 z)) c152), .dead, .dead, .dead, .dead, .dead, .fix 95 [], .dead, .dead, .dead, .dead, .dead]) rfl ?_
  refine AO.op rfl (AOp.store rfl rfl rfl rfl size4 rfl rfl rfl (leb rfl) ?_)
  refine AO.nil ?_
  change AC _ _ _ _
  refine AC.ret ?_
  change RetQ _ _ _ .ret _
  obtain rfl := Option.some.inj h0
  refine retq rfl rfl

set_option maxRecDepth 100000 in
set_option maxHeartbeats 4000000 in
/-- pub-orthodrome/impl.ReadFlat1 -/
theorem w_ReadFlat1 (F : Nat) (a0 : (List Int)) (a1 : Bool) (a2 : Int) (r0 : ((List Nat) × Int × Bool)) (h0 : p_ReadFlat1 F a0 a1 a2 = some r0) : FnD Tryd.prog 7 [eS0 a0, dbool a1, di .i64 a2] (fun r => r = .tu [eS1 r0.1, di .i64 r0.2.1, dbool r0.2.2]) := by
  rcases Bool.eq_false_or_eq_true a1 with hp0 | hp0
  · exact w_ReadFlat1_c0 F a0 a1 a2 r0 h0 hp0
  rcases Bool.eq_false_or_eq_true (decide (((a0.length : Nat) : Int) ≤ (0 : Int))) with hp1 | hp1
  · exact w_ReadFlat1_c1 F a0 a1 a2 r0 h0 hp0 hp1
  exact w_ReadFlat1_c2 F a0 a1 a2 r0 h0 hp0 hp1

theorem callBits (x : Nat) (w : World) : (callFunc 24 #[.float .f64 x]).run Tryd.prog w = .ok (.value (.int .u64 x)) w := by
  rw [run_callFunc_extern Tryd.func24 (by kernel_rfl) (by kernel_rfl) (by kernel_rfl) (e := Extern.MathFloatBits.float64bits) (by kernel_rfl), run_f64bits Tryd.prog x]
  rfl

set_option maxRecDepth 100000 in
set_option maxHeartbeats 4000000 in
/-- pub-orthodrome/spec.SameFloats -/
theorem w_SameFloats (F : Nat) (a0 : (List Nat)) (a1 : (List Nat)) (r0 : Bool) (h0 : p_SameFloats F a0 a1 = some r0) : FnD Tryd.prog 8 [eS1 a0, eS1 a1] (fun r => r = dbool r0) := by
  refine FnD.of (by kernel_rfl) Tryd.func8 rfl Tryd.ntmps8 rfl (leb rfl) fun W ok => ?_
  unfold p_SameFloats at h0
  refine AC.seq ?_
  refine AC.region ?_
  refine AO.op rfl (AOp.assign rfl rfl (ltb rfl) rfl ?_)
  refine AO.nil ?_
  change AC _ _ _ _
  refine AC.seq ?_
  refine AC.seq ?_
  refine AC.region ?_
  refine AO.op rfl (AOp.move rfl rfl (ltb rfl) rfl ?_)
  refine AO.op rfl (AOp.lenDs (n := a0.length) (cells := (List.map keS1 a0)) rfl rfl (ltb rfl) rfl el24 (by decide) (len1 _ _) ?_)
  refine AO.op rfl (AOp.move rfl rfl (ltb rfl) rfl ?_)
  refine AO.op rfl (AOp.lenDs (n := a1.length) (cells := (List.map keS1 a1)) rfl rfl (ltb rfl) rfl el24 (by decide) (len1 _ _) ?_)
  refine AO.op rfl (AOp.ineq rfl rfl (ltb rfl) rfl rfl ?_)
  refine AO.nil ?_
  change AC _ _ _ _
  refine AC.cond rfl (fun q1 => ?_) (fun q1 => ?_)
  · replace h0 := cT h0 q1
    refine AC.seq ?_
    refine AC.region ?_
    refine AO.op rfl (AOp.assign rfl rfl (ltb rfl) rfl ?_)
    refine AO.nil ?_
    change AC _ _ _ _
    refine AC.ret ?_
    change RetQ _ _ _ .ret _
    obtain rfl := Option.some.inj h0
    refine retq rfl rfl
  replace h0 := cF h0 q1
  refine AC.skip ?_
  change AC _ _ _ _
  refine AC.seq ?_
  refine AC.seq ?_
  refine AC.region ?_
  refine AO.op rfl (AOp.move rfl rfl (ltb rfl) rfl ?_)
  refine AO.op rfl (AOp.lenDs (n := a0.length) (cells := (List.map keS1 a0)) rfl rfl (ltb rfl) rfl el24 (by decide) (len1 _ _) ?_)
  refine AO.op rfl (AOp.move rfl rfl (ltb rfl) rfl ?_)
  refine AO.nil ?_
  change AC _ _ _ _
  obtain ⟨o2, l3, h0⟩ := bind_elim h0
  refine AC.joinE (V := Unit) [] [] 0 (fun g4 => []) (fun g4 => []) (fun g4 => p_SameFloats_k1 g4 = some r0) rfl ?_ ?_
  · refine AC.block ?_
    refine AC.loopP (V := Int) (p_SameFloats_l2 a0 a1) o2 [1, 12, 13] [14] 0 (fun g5 => [(14, .d (di .i64 g5))]) (fun g5 => []) F (0 : Int) l3 rfl rfl (LeL.refl _) rfl rfl ?_
    intro n7 g5 h1
    unfold p_SameFloats_l2 at h1
    refine AC.seq ?_
    refine AC.region ?_
    refine AO.op rfl (AOp.ilss rfl rfl (ltb rfl) rfl rfl ?_)
    refine AO.nil ?_
    change AC _ _ _ _
    refine AC.seq ?_
    refine AC.cond rfl (fun q8 => ?_) (fun q8 => ?_)
    · replace h1 := cT h1 q8
      refine AC.skip ?_
      change AC _ _ _ _
      refine AC.seq ?_
      refine AC.block ?_
      refine AC.seq ?_
      refine AC.region ?_
      refine AO.op rfl (AOp.move rfl rfl (ltb rfl) rfl ?_)
      obtain ⟨x9, q10, h1⟩ := idx_elim h1
      refine AO.op rfl (AOp.indexDs (cells := (List.map keS1 a0)) rfl rfl (ltb rfl) rfl rfl el24 (by decide) q10.1 (lt1 q10.2) ?_)
      refine AO.op rfl (AOp.loadEp rfl rfl (ltb rfl) rfl agg63 (at1 q10.2) ?_)
      refine AO.op rfl (AOp.assign rfl rfl (ltb rfl) rfl ?_)
      refine AO.op rfl (AOp.assign rfl rfl (ltb rfl) rfl ?_)
      refine AO.nil ?_
      change AC _ _ _ _
      refine AC.seq ?_
      refine AC.draw 8 mixed (by kernel_rfl) ?_
      refine AD.op [6] rfl (by kernel_rfl) rfl rfl (fun _ _ h => AOp.move rfl rfl (ltb rfl) rfl h) ?_
      refine AD.op [19] rfl (by kernel_rfl) rfl rfl (fun _ _ h => AOp.callX [.float .f64 x9] rfl rfl (ltb rfl) rfl (callBits x9) h) ?_
      refine AD.op [1] rfl (by kernel_rfl) rfl rfl (fun _ _ h => AOp.move rfl rfl (ltb rfl) rfl h) ?_
      refine AD.op [5] rfl (by kernel_rfl) rfl rfl (fun _ _ h => AOp.move rfl rfl (ltb rfl) rfl h) ?_
      obtain ⟨x11, q12, h1⟩ := idx_elim h1
      refine AD.op [21, 22] rfl (by kernel_rfl) rfl rfl (fun _ _ h => AOp.indexDs (cells := (List.map keS1 a1)) rfl rfl (ltb rfl) rfl rfl el24 (by decide) q12.1 (lt1 q12.2) h) ?_
      refine AD.op [23] rfl (by kernel_rfl) rfl rfl (fun _ _ h => AOp.loadEp rfl rfl (ltb rfl) rfl agg63 (at1 q12.2) h) ?_
      refine AD.op [24] rfl (by kernel_rfl) rfl rfl (fun _ _ h => AOp.callX [.float .f64 x11] rfl rfl (ltb rfl) rfl (callBits x11) h) ?_
      refine AD.op [20, 25] rfl (by kernel_rfl) rfl rfl (fun _ _ h => AOp.ineq rfl rfl (ltb rfl) rfl rfl h) ?_
      refine AD.done ?_
      refine AO.nil ?_
      change AC _ _ _ _
      refine AC.cond rfl (fun q13 => ?_) (fun q13 => ?_)
      · replace h1 := cT h1 q13
        refine AC.seq ?_
        refine AC.region ?_
        refine AO.op rfl (AOp.assign rfl rfl (ltb rfl) rfl ?_)
        refine AO.nil ?_
        change AC _ _ _ _
        refine AC.ret ?_
        change RetQ _ _ _ .ret _
        obtain rfl := Option.some.inj h1
        replace h0 := aftR h0
        obtain rfl := Option.some.inj h0
        refine retq rfl rfl
      replace h1 := cF h1 q13
      refine AC.skip ?_
      change AC _ _ _ _
      refine AC.region ?_
      obtain ⟨q14, h1⟩ := need_elim h1
      refine AO.op rfl (AOp.iadd rfl rfl (ltb rfl) rfl rfl rfl q14.1 q14.2 ?_)
      refine AO.op rfl (AOp.move rfl rfl (ltb rfl) rfl ?_)
      refine AO.nil ?_
      exact ⟨(g5 + (1 : Int)), _, rfl, (LeL.refl _), rfl, rfl, h1⟩
    replace h1 := cF h1 q8
    refine AC.exit ?_
    obtain rfl := Option.some.inj h1
    exact ⟨(), _, rfl, (LeL.refl _), rfl, rfl, aftL h0⟩
  intro g4 h0
  unfold p_SameFloats_k1 at h0
  change AC _ _ _ _
  refine AC.seq ?_
  refine AC.region ?_
  refine AO.op rfl (AOp.assign rfl rfl (ltb rfl) rfl ?_)
  refine AO.nil ?_
  change AC _ _ _ _
  refine AC.ret ?_
  change RetQ _ _ _ .ret _
  obtain rfl := Option.some.inj h0
  refine retq rfl rfl

set_option maxRecDepth 100000 in
set_option maxHeartbeats 4000000 in
/-- pub-orthodrome/laws.FnReadFlat1 -/
theorem w_FnReadFlat1 (F : Nat) (a0 : (List Int)) (a1 : Bool) (a2 : Int) (r0 : Bool) (h0 : p_FnReadFlat1 F a0 a1 a2 = some r0) : FnD Tryd.prog 3 [eS0 a0, dbool a1, di .i64 a2] (fun r => r = dbool r0) := by
  refine FnD.of (by kernel_rfl) Tryd.func3 rfl Tryd.ntmps3 rfl (leb rfl) fun W ok => ?_
  unfold p_FnReadFlat1 at h0
  refine AC.seq ?_
  refine AC.region ?_
  refine AO.op rfl (AOp.assign rfl rfl (ltb rfl) rfl ?_)
  refine AO.nil ?_
  change AC _ _ _ _
  refine AC.seq ?_
  refine AC.seq ?_
  refine AC.region ?_
  refine AO.op rfl (AOp.move rfl rfl (ltb rfl) rfl ?_)
  refine AO.op rfl (AOp.lenDs (n := a0.length) (cells := (List.map keS0 a0)) rfl rfl (ltb rfl) rfl el22 (by decide) (len1 _ _) ?_)
  refine AO.op rfl (AOp.igtr rfl rfl (ltb rfl) rfl rfl ?_)
  refine AO.nil ?_
  change AC _ _ _ _
  refine AC.cond rfl (fun q1 => ?_) (fun q1 => ?_)
  · replace h0 := cT h0 q1
    refine AC.seq ?_
    refine AC.region ?_
    refine AO.op rfl (AOp.assign rfl rfl (ltb rfl) rfl ?_)
    refine AO.nil ?_
    change AC _ _ _ _
    refine AC.ret ?_
    change RetQ _ _ _ .ret _
    obtain rfl := Option.some.inj h0
    refine retq rfl rfl
  replace h0 := cF h0 q1
  refine AC.skip ?_
  change AC _ _ _ _
  refine AC.seq ?_
  refine AC.joinP (V := Bool) [0, 1, 2] [27] 0 (fun g2 => [(27, .d (dbool g2))]) (fun g2 => []) (fun g2 => (p_FnReadFlat1_k1 a0 a1 a2 F) g2 = some r0) rfl ?_ ?_
  · refine AC.region ?_
    refine AO.op rfl (AOp.move rfl rfl (ltb rfl) rfl ?_)
    refine AO.op rfl (AOp.lenDs (n := a0.length) (cells := (List.map keS0 a0)) rfl rfl (ltb rfl) rfl el22 (by decide) (len1 _ _) ?_)
    refine AO.op rfl (AOp.igtr rfl rfl (ltb rfl) rfl rfl ?_)
    refine AO.op rfl (AOp.move rfl rfl (ltb rfl) rfl ?_)
    refine AO.dec (decide ((2000 : Int) < ((a0.length : Nat) : Int))) (fun q19 => ?_) (fun q19 => ?_)
    · replace h0 := cT h0 q19
      refine AO.guardN rfl rfl rfl (ltb rfl) rfl q19 ?_
      refine AO.guardN rfl rfl rfl (ltb rfl) rfl q19 ?_
      refine AO.guardN rfl rfl rfl (ltb rfl) rfl q19 ?_
      refine AO.op rfl (AOp.pick rfl rfl (ltb rfl) rfl q19 rfl ?_)
      refine AO.nil ?_
      exact ⟨true, _, rfl, (LeL.refl _), rfl, rfl, h0⟩
    replace h0 := cF h0 q19
    refine AO.guardY rfl rfl rfl q19 (AOp.move rfl rfl (ltb rfl) rfl ?_)
    obtain ⟨y20, q21, h0⟩ := bind_elim h0
    refine AO.guardY rfl rfl rfl q19 (AOp.callD rfl rfl (ltb rfl) rfl rfl (w_fStride a2 y20 q21) ?_)
    rintro _ rfl
    refine AO.guardY rfl rfl rfl q19 (AOp.bnot rfl rfl (ltb rfl) rfl ?_)
    refine AO.op rfl (AOp.pickN rfl rfl (ltb rfl) rfl q19 rfl ?_)
    refine AO.nil ?_
    exact ⟨(!y20), _, rfl, (LeL.refl _), rfl, rfl, h0⟩
  intro g2 h0
  unfold p_FnReadFlat1_k1 at h0
  refine AC.cond rfl (fun q3 => ?_) (fun q3 => ?_)
  · replace h0 := cT h0 q3
    refine AC.seq ?_
    refine AC.region ?_
    refine AO.op rfl (AOp.assign rfl rfl (ltb rfl) rfl ?_)
    refine AO.nil ?_
    change AC _ _ _ _
    refine AC.ret ?_
    change RetQ _ _ _ .ret _
    obtain rfl := Option.some.inj h0
    refine retq rfl rfl
  replace h0 := cF h0 q3
  refine AC.skip ?_
  change AC _ _ _ _
  refine AC.seq ?_
  refine AC.region ?_
  refine AO.op rfl (AOp.move rfl rfl (ltb rfl) rfl ?_)
  refine AO.op rfl (AOp.move rfl rfl (ltb rfl) rfl ?_)
  refine AO.op rfl (AOp.move rfl rfl (ltb rfl) rfl ?_)
  obtain ⟨y4, q5, h0⟩ := bind_elim h0
  refine AO.op rfl (AOp.callD rfl rfl (ltb rfl) rfl rfl (w_TakeRow F a0 a1 a2 y4 q5) ?_)
  rintro _ rfl
  refine AO.op rfl (AOp.move rfl rfl (ltb rfl) rfl ?_)
  first | refine AO.op rfl (AOp.extractD rfl rfl (ltb rfl) rfl rfl ?_) | refine AO.op rfl (AOp.extract rfl rfl (ltb rfl) rfl rfl ?_)
  first | refine AO.op rfl (AOp.extractD rfl rfl (ltb rfl) rfl rfl ?_) | refine AO.op rfl (AOp.extract rfl rfl (ltb rfl) rfl rfl ?_)
  first | refine AO.op rfl (AOp.extractD rfl rfl (ltb rfl) rfl rfl ?_) | refine AO.op rfl (AOp.extract rfl rfl (ltb rfl) rfl rfl ?_)
  first | refine AO.op rfl (AOp.extractD rfl rfl (ltb rfl) rfl rfl ?_) | refine AO.op rfl (AOp.extract rfl rfl (ltb rfl) rfl rfl ?_)
  refine AO.op rfl (AOp.assign rfl rfl (ltb rfl) rfl ?_)
  refine AO.op rfl (AOp.assign rfl rfl (ltb rfl) rfl ?_)
  refine AO.op rfl (AOp.assign rfl rfl (ltb rfl) rfl ?_)
  refine AO.op rfl (AOp.assign rfl rfl (ltb rfl) rfl ?_)
  refine AO.nil ?_
  change AC _ _ _ _
  refine AC.seq ?_
  refine AC.seq ?_
  refine AC.region ?_
  refine AO.op rfl (AOp.move rfl rfl (ltb rfl) rfl ?_)
  refine AO.nil ?_
  change AC _ _ _ _
  refine AC.cond rfl (fun q6 => ?_) (fun q6 => ?_)
  · replace h0 := cT h0 q6
    refine AC.seq ?_
    refine AC.region ?_
    refine AO.op rfl (AOp.assign rfl rfl (ltb rfl) rfl ?_)
    refine AO.nil ?_
    change AC _ _ _ _
    refine AC.ret ?_
    change RetQ _ _ _ .ret _
    obtain rfl := Option.some.inj h0
    refine retq rfl rfl
  replace h0 := cF h0 q6
  refine AC.skip ?_
  change AC _ _ _ _
  refine AC.seq ?_
  refine AC.region ?_
  refine AO.op rfl (AOp.move rfl rfl (ltb rfl) rfl ?_)
  refine AO.op rfl (AOp.move rfl rfl (ltb rfl) rfl ?_)
  refine AO.op rfl (AOp.move rfl rfl (ltb rfl) rfl ?_)
  obtain ⟨y7, q8, h0⟩ := bind_elim h0
  refine AO.op rfl (AOp.callD rfl rfl (ltb rfl) rfl rfl (w_ReadFlat1 F a0 a1 a2 y7 q8) ?_)
  rintro _ rfl
  refine AO.op rfl (AOp.move rfl rfl (ltb rfl) rfl ?_)
  first | refine AO.op rfl (AOp.extractD rfl rfl (ltb rfl) rfl rfl ?_) | refine AO.op rfl (AOp.extract rfl rfl (ltb rfl) rfl rfl ?_)
  first | refine AO.op rfl (AOp.extractD rfl rfl (ltb rfl) rfl rfl ?_) | refine AO.op rfl (AOp.extract rfl rfl (ltb rfl) rfl rfl ?_)
  first | refine AO.op rfl (AOp.extractD rfl rfl (ltb rfl) rfl rfl ?_) | refine AO.op rfl (AOp.extract rfl rfl (ltb rfl) rfl rfl ?_)
  refine AO.op rfl (AOp.assign rfl rfl (ltb rfl) rfl ?_)
  refine AO.op rfl (AOp.assign rfl rfl (ltb rfl) rfl ?_)
  refine AO.op rfl (AOp.assign rfl rfl (ltb rfl) rfl ?_)
  refine AO.nil ?_
  change AC _ _ _ _
  refine AC.seq ?_
  refine AC.region ?_
  obtain ⟨q9, h0⟩ := need_elim h0
  refine AO.op rfl (AOp.makeL (f := fun z => SV.d (keS0 z)) (z0 := (0 : Int)) rfl rfl (ltb rfl) rfl rfl el22 info5 rfl rfl (by decide) q9.1 q9.2 rfl ?_)
  refine AO.op rfl (AOp.move rfl rfl (ltb rfl) rfl ?_)
  obtain ⟨q10, h0⟩ := need_elim h0
  refine AO.freezeF (ds := (List.map keS0 (List.replicate ((4 : Int)).toNat (0 : Int)))) 47 0 rfl rfl rfl (by rw [List.map_map]; rfl) (lenq q10 (len1 _ _)) (Nat.le_refl _) ?_
  obtain ⟨y11, q12, h0⟩ := bind_elim h0
  refine AO.op rfl (AOp.callD rfl rfl (ltb rfl) rfl rfl (w_ReadFlat1 F (List.replicate ((4 : Int)).toNat (0 : Int)) a1 (2 : Int) y11 q12) ?_)
  rintro _ rfl
  refine AO.op rfl (AOp.move rfl rfl (ltb rfl) rfl ?_)
  first | refine AO.op rfl (AOp.extractD rfl rfl (ltb rfl) rfl rfl ?_) | refine AO.op rfl (AOp.extract rfl rfl (ltb rfl) rfl rfl ?_)
  first | refine AO.op rfl (AOp.extractD rfl rfl (ltb rfl) rfl rfl ?_) | refine AO.op rfl (AOp.extract rfl rfl (ltb rfl) rfl rfl ?_)
  first | refine AO.op rfl (AOp.extractD rfl rfl (ltb rfl) rfl rfl ?_) | refine AO.op rfl (AOp.extract rfl rfl (ltb rfl) rfl rfl ?_)
  refine AO.op rfl (AOp.assign rfl rfl (ltb rfl) rfl ?_)
  refine AO.op rfl (AOp.assign rfl rfl (ltb rfl) rfl ?_)
  refine AO.op rfl (AOp.assign rfl rfl (ltb rfl) rfl ?_)
  refine AO.nil ?_
  change AC _ _ _ _
  refine AC.seq ?_
  refine AC.region ?_
  refine AO.op rfl (AOp.move rfl rfl (ltb rfl) rfl ?_)
  refine AO.op rfl (AOp.move rfl rfl (ltb rfl) rfl ?_)
  refine AO.dec y11.2.2 (fun q13 => ?_) (fun q13 => ?_)
  · replace h0 := cT h0 q13
    refine AO.guardY rfl rfl rfl q13 (AOp.move rfl rfl (ltb rfl) rfl ?_)
    refine AO.guardY rfl rfl rfl q13 (AOp.move rfl rfl (ltb rfl) rfl ?_)
    refine AO.guardY rfl rfl rfl q13 (AOp.beql Tryd.underlying4 rfl rfl (ltb rfl) rfl rfl ?_)
    refine AO.op rfl (AOp.pick rfl rfl (ltb rfl) rfl q13 rfl ?_)
    refine AO.op rfl (AOp.move rfl rfl (ltb rfl) rfl ?_)
    refine AO.dec (y7.2.2 == y4.2.2.1) (fun q14 => ?_) (fun q14 => ?_)
    · replace h0 := cT h0 q14
      refine AO.guardY rfl rfl rfl q14 (AOp.move rfl rfl (ltb rfl) rfl ?_)
      refine AO.guardY rfl rfl rfl q14 (AOp.bnot rfl rfl (ltb rfl) rfl ?_)
      refine AO.guardY rfl rfl rfl q14 (AOp.move rfl rfl (ltb rfl) rfl ?_)
      refine AO.dec (!y7.2.2) (fun q15 => ?_) (fun q15 => ?_)
      · replace h0 := cT h0 q15
        refine AO.guardN rfl rfl rfl (ltb rfl) rfl q15 ?_
        refine AO.guardN rfl rfl rfl (ltb rfl) rfl q15 ?_
        refine AO.guardN rfl rfl rfl (ltb rfl) rfl q15 ?_
        refine AO.guardN rfl rfl rfl (ltb rfl) rfl q15 ?_
        refine AO.guardU rfl rfl rfl (ltb rfl) rfl ?_
        refine AO.guardU rfl rfl rfl (ltb rfl) rfl ?_
        refine AO.guardU rfl rfl rfl (ltb rfl) rfl ?_
        refine AO.guardN rfl rfl rfl (ltb rfl) rfl q15 ?_
        refine AO.guardY rfl rfl rfl q14 (AOp.pick rfl rfl (ltb rfl) rfl q15 rfl ?_)
        refine AO.op rfl (AOp.pick rfl rfl (ltb rfl) rfl q14 rfl ?_)
        refine AO.op rfl (AOp.assign rfl rfl (ltb rfl) rfl ?_)
        refine AO.nil ?_
        change AC _ _ _ _
        refine AC.ret ?_
        change RetQ _ _ _ .ret _
        obtain rfl := Option.some.inj h0
        refine retq rfl rfl
      replace h0 := cF h0 q15
      refine AO.guardY rfl rfl rfl q15 (AOp.move rfl rfl (ltb rfl) rfl ?_)
      refine AO.guardY rfl rfl rfl q15 (AOp.move rfl rfl (ltb rfl) rfl ?_)
      obtain ⟨y16, q17, h0⟩ := bind_elim h0
      refine AO.guardY rfl rfl rfl q15 (AOp.callD rfl rfl (ltb rfl) rfl rfl (w_SameFloats F y7.1 y4.1 y16 q17) ?_)
      rintro _ rfl
      refine AO.guardY rfl rfl rfl q15 (AOp.move rfl rfl (ltb rfl) rfl ?_)
      refine AO.dec y16 (fun q18 => ?_) (fun q18 => ?_)
      · replace h0 := cT h0 q18
        refine AO.guardY rfl rfl rfl q18 (AOp.move rfl rfl (ltb rfl) rfl ?_)
        refine AO.guardY rfl rfl rfl q18 (AOp.move rfl rfl (ltb rfl) rfl ?_)
        refine AO.guardY rfl rfl rfl q18 (AOp.ieql rfl rfl (ltb rfl) rfl rfl ?_)
        refine AO.guardY rfl rfl rfl q15 (AOp.pick rfl rfl (ltb rfl) rfl q18 rfl ?_)
        refine AO.guardY rfl rfl rfl q14 (AOp.pickN rfl rfl (ltb rfl) rfl q15 rfl ?_)
        refine AO.op rfl (AOp.pick rfl rfl (ltb rfl) rfl q14 rfl ?_)
        refine AO.op rfl (AOp.assign rfl rfl (ltb rfl) rfl ?_)
        refine AO.nil ?_
        change AC _ _ _ _
        refine AC.ret ?_
        change RetQ _ _ _ .ret _
        obtain rfl := Option.some.inj h0
        refine retq rfl rfl
      replace h0 := cF h0 q18
      refine AO.guardN rfl rfl rfl (ltb rfl) rfl q18 ?_
      refine AO.guardN rfl rfl rfl (ltb rfl) rfl q18 ?_
      refine AO.guardN rfl rfl rfl (ltb rfl) rfl q18 ?_
      refine AO.guardY rfl rfl rfl q15 (AOp.pickN rfl rfl (ltb rfl) rfl q18 rfl ?_)
      refine AO.guardY rfl rfl rfl q14 (AOp.pickN rfl rfl (ltb rfl) rfl q15 rfl ?_)
      refine AO.op rfl (AOp.pick rfl rfl (ltb rfl) rfl q14 rfl ?_)
      refine AO.op rfl (AOp.assign rfl rfl (ltb rfl) rfl ?_)
      refine AO.nil ?_
      change AC _ _ _ _
      refine AC.ret ?_
      change RetQ _ _ _ .ret _
      obtain rfl := Option.some.inj h0
      refine retq rfl rfl
    replace h0 := cF h0 q14
    refine AO.guardN rfl rfl rfl (ltb rfl) rfl q14 ?_
    refine AO.guardN rfl rfl rfl (ltb rfl) rfl q14 ?_
    refine AO.guardN rfl rfl rfl (ltb rfl) rfl q14 ?_
    refine AO.guardU rfl rfl rfl (ltb rfl) rfl ?_
    refine AO.guardU rfl rfl rfl (ltb rfl) rfl ?_
    refine AO.guardU rfl rfl rfl (ltb rfl) rfl ?_
    refine AO.guardU rfl rfl rfl (ltb rfl) rfl ?_
    refine AO.guardU rfl rfl rfl (ltb rfl) rfl ?_
    refine AO.guardU rfl rfl rfl (ltb rfl) rfl ?_
    refine AO.guardU rfl rfl rfl (ltb rfl) rfl ?_
    refine AO.guardU rfl rfl rfl (ltb rfl) rfl ?_
    refine AO.guardN rfl rfl rfl (ltb rfl) rfl q14 ?_
    refine AO.op rfl (AOp.pickN rfl rfl (ltb rfl) rfl q14 rfl ?_)
    refine AO.op rfl (AOp.assign rfl rfl (ltb rfl) rfl ?_)
    refine AO.nil ?_
    change AC _ _ _ _
    refine AC.ret ?_
    change RetQ _ _ _ .ret _
    obtain rfl := Option.some.inj h0
    refine retq rfl rfl
  replace h0 := cF h0 q13
  refine AO.guardN rfl rfl rfl (ltb rfl) rfl q13 ?_
  refine AO.guardN rfl rfl rfl (ltb rfl) rfl q13 ?_
  refine AO.guardN rfl rfl rfl (ltb rfl) rfl q13 ?_
  refine AO.op rfl (AOp.pickN rfl rfl (ltb rfl) rfl q13 rfl ?_)
  refine AO.op rfl (AOp.move rfl rfl (ltb rfl) rfl ?_)
  refine AO.guardN rfl rfl rfl (ltb rfl) rfl rfl ?_
  refine AO.guardN rfl rfl rfl (ltb rfl) rfl rfl ?_
  refine AO.guardN rfl rfl rfl (ltb rfl) rfl rfl ?_
  refine AO.guardU rfl rfl rfl (ltb rfl) rfl ?_
  refine AO.guardU rfl rfl rfl (ltb rfl) rfl ?_
  refine AO.guardU rfl rfl rfl (ltb rfl) rfl ?_
  refine AO.guardU rfl rfl rfl (ltb rfl) rfl ?_
  refine AO.guardU rfl rfl rfl (ltb rfl) rfl ?_
  refine AO.guardU rfl rfl rfl (ltb rfl) rfl ?_
  refine AO.guardU rfl rfl rfl (ltb rfl) rfl ?_
  refine AO.guardU rfl rfl rfl (ltb rfl) rfl ?_
  refine AO.guardN rfl rfl rfl (ltb rfl) rfl rfl ?_
  refine AO.op rfl (AOp.pickN rfl rfl (ltb rfl) rfl rfl rfl ?_)
  refine AO.op rfl (AOp.assign rfl rfl (ltb rfl) rfl ?_)
  refine AO.nil ?_
  change AC _ _ _ _
  refine AC.ret ?_
  change RetQ _ _ _ .ret _
  obtain rfl := Option.some.inj h0
  refine retq rfl rfl

end Go.Proofs.YtjhdpnjlphpboaaDoor.Wk
