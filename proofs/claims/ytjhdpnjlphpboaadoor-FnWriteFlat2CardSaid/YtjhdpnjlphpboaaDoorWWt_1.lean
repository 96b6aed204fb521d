/- Proved: more of it. -/
import Derived.Test.YtjhdpnjlphpboaaDoorWWt_0
namespace Go.Proofs.YtjhdpnjlphpboaaDoor.Wk
open Go.Vm
set_option linter.unusedVariables false
set_option linter.unusedSimpArgs false
set_option maxRecDepth 100000 in
set_option maxHeartbeats 4000000 in
/-- pub-orthodrome/pub/gogeom/encoding/wkbcommon.ReadUInt32 -/
theorem wh_ReadUInt32_bigEndian (a0 : TBinary_bigEndian) (b0 : (List Int)) (b1 : Int) (b2 : Int) (r0 : (Sum (Int × (List Int) × Int × Int) (Int × (List Int) × Int × Int))) (h0 : p_ReadUInt32_bigEndian a0 b0 b1 b2 = some r0) : FnH Tryd.prog 38 [.ifc 54 (.ptr 0 0), .ifc 94 (.d (e_TBinary_bigEndian TBinary_bigEndian.mk))] [.fix 71 [.d (eS4 b0), .d (di .i64 b1), .d (di .i8 b2)]] [0] (RH_ReadUInt32_bigEndian r0) := by
 refine FnH.of (by kernel_rfl) Tryd.func38 rfl Tryd.ntmps38 rfl (leb rfl) fun W ok may pv => ?_
 unfold p_ReadUInt32_bigEndian at h0
 refine AC.seq ?_
 refine AC.region ?_
 refine AO.op rfl (AOp.assign rfl rfl (ltb rfl) rfl ?_)
 refine AO.op rfl (AOp.assign rfl rfl (ltb rfl) rfl ?_)
 refine AO.nil ?_
 change AC _ _ _ _
 refine AC.seq ?_
 refine AC.region ?_
 refine AO.op rfl (AOp.alloc rfl rfl (ltb rfl) zero102 rfl ?_)
 refine AO.nil ?_
 change AC _ _ _ _
 refine AC.seq ?_
 refine AC.seq ?_
 refine AC.region ?_
 refine AO.op rfl (AOp.move rfl rfl (ltb rfl) rfl ?_)
 refine AO.op rfl (AOp.sliceArr rfl rfl (ltb rfl) rfl ar102 ⟨_, _, rfl⟩ ?_)
 obtain ⟨y1, q2, h0⟩ := bind_elim h0
 rcases y1 with y3 | y4
 ·replace h0 := selL h0
  refine AO.op rfl (AOp.callH (ys := [.ifc 54 (.ptr 0 0), .sl 1 1 0 4 4]) (hs := [0, 2]) (pins := [0, 1]) (unp := []) (pre := [.fix 71 [.d (eS4 b0), .d (di .i64 b1), .d (di .i8 b2)], .fix 102 (List.map (fun z => SV.d (keS4 z)) [(0 : Int), (0 : Int), (0 : Int), (0 : Int)])]) (EntersS.call (by kernel_rfl) rfl rfl) (wh_ReadFull_arr 4 b0 b1 b2 [(0 : Int), (0 : Int), (0 : Int), (0 : Int)] _ q2) (ltb rfl) (.cons (SVLe.refl _) (.cons (SVLe.refl _) .nil)) rfl rfl rfl (.cons rfl (.cons (ren_fixl fun _ => rfl) .nil)) (.cons ⟨rfl, rfl⟩ (.cons (unders_fixl fun _ => rfl) .nil)) rfl (noOs_nil _ _ _) rfl ?_)
  rintro _ _ ⟨t5_0, rfl, rfl⟩
  refine ⟨.tu [.d (di .i64 y3.1), .ifc t5_0 (.any)], [.fix 71 [.d (eS4 y3.2.1), .d (di .i64 y3.2.2.1), .d (di .i8 y3.2.2.2.1)], .fix 102 (List.map (fun z => SV.d (keS4 z)) y3.2.2.2.2)], rfl, (.cons rfl (.cons (ren_fixl fun _ => rfl) .nil)), ?_⟩
  refine AO.objs (obs' := [.fix 71 [.d (eS4 y3.2.1), .d (di .i64 y3.2.2.1), .d (di .i8 y3.2.2.2.1)], .frame pv [(0, .ptr 0 0)], .fix 102 (List.map (fun z => SV.d (keS4 z)) y3.2.2.2.2)]) rfl ?_
  refine AO.op rfl (AOp.move rfl rfl (ltb rfl) rfl ?_)
  first | refine AO.op rfl (AOp.extractD rfl rfl (ltb rfl) rfl rfl ?_) | refine AO.op rfl (AOp.extract rfl rfl (ltb rfl) rfl rfl ?_)
  first | refine AO.op rfl (AOp.extractD rfl rfl (ltb rfl) rfl rfl ?_) | refine AO.op rfl (AOp.extract rfl rfl (ltb rfl) rfl rfl ?_)
  refine AO.op rfl (AOp.assign rfl rfl (ltb rfl) rfl ?_)
  refine AO.op rfl (AOp.assign rfl rfl (ltb rfl) rfl ?_)
  refine AO.nil ?_
  change AC _ _ _ _
  refine AC.seq ?_
  refine AC.region ?_
  refine AO.op rfl (AOp.move rfl rfl (ltb rfl) rfl ?_)
  refine AO.op rfl (AOp.ifcNeq rfl rfl (ltb rfl) rfl rfl imeth57 ?_)
  refine AO.nil ?_
  change AC _ _ _ _
  refine AC.condT rfl rfl ?_
  refine AC.seq ?_
  refine AC.region ?_
  refine AO.op rfl (AOp.move rfl rfl (ltb rfl) rfl ?_)
  refine AO.op rfl (AOp.assign rfl rfl (ltb rfl) rfl ?_)
  refine AO.op rfl (AOp.assign rfl rfl (ltb rfl) rfl ?_)
  refine AO.nil ?_
  change AC _ _ _ _
  obtain rfl := Option.some.inj h0
  refine AC.ret ?_
  change RetH _ _ _ _ _ _ .ret _
  refine reth (post := [.fix 71 [.d (eS4 y3.2.1), .d (di .i64 y3.2.2.1), .d (di .i8 y3.2.2.2.1)]]) rfl rfl rfl rfl rfl ?_
  exact ⟨_, rfl, rfl⟩
 replace h0 := selR h0
 refine AO.op rfl (AOp.callH (ys := [.ifc 54 (.ptr 0 0), .sl 1 1 0 4 4]) (hs := [0, 2]) (pins := [0, 1]) (unp := []) (pre := [.fix 71 [.d (eS4 b0), .d (di .i64 b1), .d (di .i8 b2)], .fix 102 (List.map (fun z => SV.d (keS4 z)) [(0 : Int), (0 : Int), (0 : Int), (0 : Int)])]) (EntersS.call (by kernel_rfl) rfl rfl) (wh_ReadFull_arr 4 b0 b1 b2 [(0 : Int), (0 : Int), (0 : Int), (0 : Int)] _ q2) (ltb rfl) (.cons (SVLe.refl _) (.cons (SVLe.refl _) .nil)) rfl rfl rfl (.cons rfl (.cons (ren_fixl fun _ => rfl) .nil)) (.cons ⟨rfl, rfl⟩ (.cons (unders_fixl fun _ => rfl) .nil)) rfl (noOs_nil _ _ _) rfl ?_)
 rintro _ _ ⟨rfl, rfl⟩
 refine ⟨.tu [.d (di .i64 y4.1), .d (.v (.nilIface))], [.fix 71 [.d (eS4 y4.2.1), .d (di .i64 y4.2.2.1), .d (di .i8 y4.2.2.2.1)], .fix 102 (List.map (fun z => SV.d (keS4 z)) y4.2.2.2.2)], rfl, (.cons rfl (.cons (ren_fixl fun _ => rfl) .nil)), ?_⟩
 refine AO.objs (obs' := [.fix 71 [.d (eS4 y4.2.1), .d (di .i64 y4.2.2.1), .d (di .i8 y4.2.2.2.1)], .frame pv [(0, .ptr 0 0)], .fix 102 (List.map (fun z => SV.d (keS4 z)) y4.2.2.2.2)]) rfl ?_
 refine AO.op rfl (AOp.move rfl rfl (ltb rfl) rfl ?_)
 first | refine AO.op rfl (AOp.extractD rfl rfl (ltb rfl) rfl rfl ?_) | refine AO.op rfl (AOp.extract rfl rfl (ltb rfl) rfl rfl ?_)
 first | refine AO.op rfl (AOp.extractD rfl rfl (ltb rfl) rfl rfl ?_) | refine AO.op rfl (AOp.extract rfl rfl (ltb rfl) rfl rfl ?_)
 refine AO.op rfl (AOp.assign rfl rfl (ltb rfl) rfl ?_)
 refine AO.op rfl (AOp.assign rfl rfl (ltb rfl) rfl ?_)
 refine AO.nil ?_
 change AC _ _ _ _
 refine AC.seq ?_
 refine AC.region ?_
 refine AO.op rfl (AOp.move rfl rfl (ltb rfl) rfl ?_)
 refine AO.op rfl (AOp.nilNeq rfl rfl (ltb rfl) rfl imeth57 ?_)
 refine AO.nil ?_
 change AC _ _ _ _
 refine AC.condF rfl rfl ?_
 refine AC.skip ?_
 change AC _ _ _ _
 refine AC.seq ?_
 refine AC.draw 5 mixed (by kernel_rfl) ?_
 refine AD.op [1] rfl (by kernel_rfl) rfl rfl (fun _ _ h => AOp.move rfl rfl (ltb rfl) rfl h) ?_
 refine AD.op [6] rfl (by kernel_rfl) rfl rfl (fun _ _ h => AOp.sliceArr rfl rfl (ltb rfl) rfl ar102 ⟨_, _, rfl⟩ h) ?_
 refine AD.op [18] rfl (by kernel_rfl) rfl rfl (fun _ _ h => AOp.makeMeth rfl rfl (ltb rfl) rfl h) ?_
 refine AD.op [20] rfl (by kernel_rfl) rfl rfl (fun _ _ h => AOp.nilMeth rfl rfl (ltb rfl) rfl rfl nilm94_Uint32 h) ?_
 refine AD.op [18] rfl (by kernel_rfl) rfl rfl (fun _ _ h => AOp.move rfl rfl (ltb rfl) rfl h) ?_
 refine AD.done ?_
 refine AO.op rfl (AOp.inlE [4, 5] (EntersS.meth (by kernel_rfl) rfl rfl rfl meth94_Uint32 rfl rfl) Tryd.func87 rfl Tryd.ntmps87 rfl (ltb rfl) (leb rfl) rfl ?_)
 intro fr7
 refine AC.seq ?_
 refine AC.region ?_
 refine AO.op rfl (AOp.box rfl rfl (ltb rfl) rfl rfl ?_)
 refine AO.op rfl (AOp.assign rfl rfl (ltb rfl) rfl ?_)
 refine AO.nil ?_
 change AC _ _ _ _
 refine AC.seq ?_
 refine AC.region ?_
 refine AO.op rfl (AOp.move rfl rfl (ltb rfl) rfl ?_)
 obtain ⟨q8, h0⟩ := need_elim h0
 refine AO.op rfl (AOp.indexSl rfl rfl (ltb rfl) rfl rfl el22 q8.1 q8.2 ?_)
 obtain ⟨x9, q10, h0⟩ := idx_elim h0
 refine AO.op rfl (AOp.load1 rfl rfl (ltb rfl) rfl agg5 rfl (atO (f := fun z => SV.d (keS4 z)) q10.2) ?_)
 refine AO.nil ?_
 change AC _ _ _ _
 refine AC.seq ?_
 refine AC.draw 23 mixed (by kernel_rfl) ?_
 refine AD.op [1] rfl (by kernel_rfl) rfl rfl (fun _ _ h => AOp.move rfl rfl (ltb rfl) rfl h) ?_
 obtain ⟨q11, h0⟩ := need_elim h0
 refine AD.op [8] rfl (by kernel_rfl) rfl rfl (fun _ _ h => AOp.indexSl rfl rfl (ltb rfl) rfl rfl el22 q11.1 q11.2 h) ?_
 obtain ⟨x12, q13, h0⟩ := idx_elim h0
 refine AD.op [9] rfl (by kernel_rfl) rfl rfl (fun _ _ h => AOp.load1 rfl rfl (ltb rfl) rfl agg5 rfl (atO (f := fun z => SV.d (keS4 z)) q13.2) h) ?_
 refine AD.op [10] rfl (by kernel_rfl) rfl rfl (fun _ _ h => AOp.i2i rfl rfl (ltb rfl) rfl Tryd.underlying5 Tryd.underlying43 rfl h) ?_
 refine AD.op [1] rfl (by kernel_rfl) rfl rfl (fun _ _ h => AOp.move rfl rfl (ltb rfl) rfl h) ?_
 obtain ⟨q14, h0⟩ := need_elim h0
 refine AD.op [12] rfl (by kernel_rfl) rfl rfl (fun _ _ h => AOp.indexSl rfl rfl (ltb rfl) rfl rfl el22 q14.1 q14.2 h) ?_
 obtain ⟨x15, q16, h0⟩ := idx_elim h0
 refine AD.op [13] rfl (by kernel_rfl) rfl rfl (fun _ _ h => AOp.load1 rfl rfl (ltb rfl) rfl agg5 rfl (atO (f := fun z => SV.d (keS4 z)) q16.2) h) ?_
 refine AD.op [14] rfl (by kernel_rfl) rfl rfl (fun _ _ h => AOp.i2i rfl rfl (ltb rfl) rfl Tryd.underlying5 Tryd.underlying43 rfl h) ?_
 refine AD.op [15] rfl (by kernel_rfl) rfl rfl (fun _ _ h => AOp.ishl (n := 8) rfl rfl (ltb rfl) rfl rfl (by decide) rfl h) ?_
 refine AD.op [11, 16] rfl (by kernel_rfl) rfl rfl (fun _ _ h => AOp.ibits (by simp) rfl rfl (ltb rfl) rfl rfl rfl h) ?_
 refine AD.op [1] rfl (by kernel_rfl) rfl rfl (fun _ _ h => AOp.move rfl rfl (ltb rfl) rfl h) ?_
 obtain ⟨q17, h0⟩ := need_elim h0
 refine AD.op [18] rfl (by kernel_rfl) rfl rfl (fun _ _ h => AOp.indexSl rfl rfl (ltb rfl) rfl rfl el22 q17.1 q17.2 h) ?_
 obtain ⟨x18, q19, h0⟩ := idx_elim h0
 refine AD.op [19] rfl (by kernel_rfl) rfl rfl (fun _ _ h => AOp.load1 rfl rfl (ltb rfl) rfl agg5 rfl (atO (f := fun z => SV.d (keS4 z)) q19.2) h) ?_
 refine AD.op [20] rfl (by kernel_rfl) rfl rfl (fun _ _ h => AOp.i2i rfl rfl (ltb rfl) rfl Tryd.underlying5 Tryd.underlying43 rfl h) ?_
 refine AD.op [21] rfl (by kernel_rfl) rfl rfl (fun _ _ h => AOp.ishl (n := 16) rfl rfl (ltb rfl) rfl rfl (by decide) rfl h) ?_
 refine AD.op [17, 22] rfl (by kernel_rfl) rfl rfl (fun _ _ h => AOp.ibits (by simp) rfl rfl (ltb rfl) rfl rfl rfl h) ?_
 refine AD.op [1] rfl (by kernel_rfl) rfl rfl (fun _ _ h => AOp.move rfl rfl (ltb rfl) rfl h) ?_
 obtain ⟨q20, h0⟩ := need_elim h0
 refine AD.op [24] rfl (by kernel_rfl) rfl rfl (fun _ _ h => AOp.indexSl rfl rfl (ltb rfl) rfl rfl el22 q20.1 q20.2 h) ?_
 obtain ⟨x21, q22, h0⟩ := idx_elim h0
 refine AD.op [25] rfl (by kernel_rfl) rfl rfl (fun _ _ h => AOp.load1 rfl rfl (ltb rfl) rfl agg5 rfl (atO (f := fun z => SV.d (keS4 z)) q22.2) h) ?_
 refine AD.op [26] rfl (by kernel_rfl) rfl rfl (fun _ _ h => AOp.i2i rfl rfl (ltb rfl) rfl Tryd.underlying5 Tryd.underlying43 rfl h) ?_
 refine AD.op [27] rfl (by kernel_rfl) rfl rfl (fun _ _ h => AOp.ishl (n := 24) rfl rfl (ltb rfl) rfl rfl (by decide) rfl h) ?_
 refine AD.op [23, 28] rfl (by kernel_rfl) rfl rfl (fun _ _ h => AOp.ibits (by simp) rfl rfl (ltb rfl) rfl rfl rfl h) ?_
 refine AD.op [29] rfl (by kernel_rfl) rfl rfl (fun _ _ h => AOp.assign rfl rfl (ltb rfl) rfl h) ?_
 refine AD.done ?_
 refine AO.nil ?_
 change AC _ _ _ _
 refine AC.ret ?_
 refine inlret (ob' := [.fix 71 [.d (eS4 y4.2.1), .d (di .i64 y4.2.2.1), .d (di .i8 y4.2.2.2.1)], .frame pv [(0, .ptr 0 0)], .fix 102 (List.map (fun z => SV.d (keS4 z)) y4.2.2.2.2), .dead, .fix 94 []]) (e' := [(4, .d (di .u32 (0 : Int))), (5, .d (.v (.nilIface)))]) (r := .d (di .u32 (bits .or .u32 (bits .or .u32 (bits .or .u32 (IntKind.u32.wrap x12) (IntKind.u32.wrap ((IntKind.u32.wrap x15) * 2 ^ 8))) (IntKind.u32.wrap ((IntKind.u32.wrap x18) * 2 ^ 16))) (IntKind.u32.wrap ((IntKind.u32.wrap x21) * 2 ^ 24))))) rfl rfl rfl ?_
 change AO _ _ _ _ _
 refine AO.op rfl (AOp.assign rfl rfl (ltb rfl) rfl ?_)
 refine AO.op rfl (AOp.assign rfl rfl (ltb rfl) rfl ?_)
 refine AO.nil ?_
 change AC _ _ _ _
 obtain rfl := Option.some.inj h0
 refine AC.ret ?_
 change RetH _ _ _ _ _ _ .ret _
 refine reth (post := [.fix 71 [.d (eS4 y4.2.1), .d (di .i64 y4.2.2.1), .d (di .i8 y4.2.2.2.1)]]) rfl rfl rfl rfl rfl ?_
 exact ⟨rfl, rfl⟩

def RH_ReadFull : (Sum (Int × (List Int) × Int × Int × (List Int)) (Int × (List Int) × Int × Int × (List Int))) → SV → List Ob → Prop
 | .inl z => fun r post => ∃ t0 : Nat, r = .tu [.d (di .i64 z.1), .ifc t0 (.any)] ∧ post = [.fix 71 [.d (eS4 z.2.1), .d (di .i64 z.2.2.1), .d (di .i8 z.2.2.2.1)], .fix 5 (List.map (fun z => SV.d (keS4 z)) z.2.2.2.2)]
 | .inr z => fun r post => r = .tu [.d (di .i64 z.1), .d (.v (.nilIface))] ∧ post = [.fix 71 [.d (eS4 z.2.1), .d (di .i64 z.2.2.1), .d (di .i8 z.2.2.2.1)], .fix 5 (List.map (fun z => SV.d (keS4 z)) z.2.2.2.2)]
set_option maxRecDepth 100000 in
set_option maxHeartbeats 4000000 in
/-- io.ReadFull -/
theorem wh_ReadFull (a0 : Nat) (b0 : (List Int)) (b1 : Int) (b2 : Int) (b3 : (List Int)) (r0 : (Sum (Int × (List Int) × Int × Int × (List Int)) (Int × (List Int) × Int × Int × (List Int)))) (h0 : p_ReadFull a0 b0 b1 b2 b3 = some r0) : FnH Tryd.prog 45 [.ifc 54 (.ptr 0 0), .sl 1 1 0 a0 a0] [.fix 71 [.d (eS4 b0), .d (di .i64 b1), .d (di .i8 b2)], .fix 5 (List.map (fun z => SV.d (keS4 z)) b3)] [0, 1] (RH_ReadFull r0) := by
 refine FnH.of (by kernel_rfl) Tryd.func45 rfl Tryd.ntmps45 rfl (leb rfl) fun W ok may pv => ?_
 unfold p_ReadFull at h0
 refine AC.seq ?_
 refine AC.region ?_
 refine AO.op rfl (AOp.assign rfl rfl (ltb rfl) rfl ?_)
 refine AO.op rfl (AOp.assign rfl rfl (ltb rfl) rfl ?_)
 refine AO.nil ?_
 change AC _ _ _ _
 refine AC.seq ?_
 refine AC.region ?_
 refine AO.op rfl (AOp.move rfl rfl (ltb rfl) rfl ?_)
 refine AO.op rfl (AOp.move rfl rfl (ltb rfl) rfl ?_)
 refine AO.op rfl (AOp.move rfl rfl (ltb rfl) rfl ?_)
 refine AO.op rfl (AOp.lenSl rfl rfl (ltb rfl) rfl el22 ?_)
 refine AO.op rfl (AOp.inl [4, 5] (by kernel_rfl) Tryd.func53 rfl Tryd.ntmps53 rfl rfl (ltb rfl) rfl (leb rfl) rfl ?_)
 intro fr1
 refine AC.seq ?_
 refine AC.region ?_
 refine AO.op rfl (AOp.assign rfl rfl (ltb rfl) rfl ?_)
 refine AO.op rfl (AOp.assign rfl rfl (ltb rfl) rfl ?_)
 refine AO.nil ?_
 change AC _ _ _ _
 refine AC.seq ?_
 refine AC.seq ?_
 refine AC.region ?_
 refine AO.op rfl (AOp.move rfl rfl (ltb rfl) rfl ?_)
 refine AO.op rfl (AOp.lenSl rfl rfl (ltb rfl) rfl el22 ?_)
 refine AO.op rfl (AOp.move rfl rfl (ltb rfl) rfl ?_)
 refine AO.op rfl (AOp.ilss rfl rfl (ltb rfl) rfl rfl ?_)
 refine AO.nil ?_
 change AC _ _ _ _
 refine AC.condF rfl (dlt_self _) ?_
 refine AC.skip ?_
 change AC _ _ _ _
 refine AC.seq ?_
 refine AC.block ?_
 refine AC.loopU ?_
 refine ACL.round ?_
 refine AC.seq ?_
 refine AC.seq ?_
 refine AC.region ?_
 refine AO.op rfl (AOp.move rfl rfl (ltb rfl) rfl ?_)
 refine AO.op rfl (AOp.move rfl rfl (ltb rfl) rfl ?_)
 refine AO.op rfl (AOp.ilss rfl rfl (ltb rfl) rfl rfl ?_)
 refine AO.op rfl (AOp.move rfl rfl (ltb rfl) rfl ?_)
 refine AO.dec (decide ((0 : Int) < ((a0 : Nat) : Int))) (fun q2 => ?_) (fun q2 => ?_)
 ·replace h0 := cT h0 q2
  refine AO.guardY rfl rfl rfl q2 (AOp.move rfl rfl (ltb rfl) rfl ?_)
  refine AO.guardY rfl rfl rfl q2 (AOp.nilEq rfl rfl (ltb rfl) rfl imeth57 ?_)
  refine AO.op rfl (AOp.pick rfl rfl (ltb rfl) rfl q2 rfl ?_)
  refine AO.nil ?_
  change AC _ _ _ _
  refine AC.condT rfl rfl ?_
  refine AC.skip ?_
  change AC _ _ _ _
  refine AC.block ?_
  refine AC.seq ?_
  refine AC.region ?_
  refine AO.op rfl (AOp.assign rfl rfl (ltb rfl) rfl ?_)
  refine AO.nil ?_
  change AC _ _ _ _
  refine AC.seq ?_
  refine AC.drawC 7 mixed (by kernel_rfl) rfl ?_
  refine AD.op [0] rfl (by kernel_rfl) rfl rfl (fun _ _ h => AOp.move rfl rfl (ltb rfl) rfl h) ?_
  refine AD.op [1] rfl (by kernel_rfl) rfl rfl (fun _ _ h => AOp.move rfl rfl (ltb rfl) rfl h) ?_
  refine AD.op [6] rfl (by kernel_rfl) rfl rfl (fun _ _ h => AOp.move rfl rfl (ltb rfl) rfl h) ?_
  refine AD.op [23, 24] rfl (by kernel_rfl) rfl rfl (fun _ _ h => AOp.sliceSl0 rfl rfl (ltb rfl) rfl rfl el22 h) ?_
  refine AD.op [22] rfl (by kernel_rfl) rfl rfl (fun _ _ h => AOp.makeMeth rfl rfl (ltb rfl) rfl h) ?_
  refine AD.op [26] rfl (by kernel_rfl) rfl rfl (fun _ _ h => AOp.nilMeth rfl rfl (ltb rfl) rfl rfl nilm54_Read h) ?_
  refine AD.op [22] rfl (by kernel_rfl) rfl rfl (fun _ _ h => AOp.move rfl rfl (ltb rfl) rfl h) ?_
  refine AD.done ?_
  refine AO.op rfl (AOp.inlE [0, 1, 2, 6, 7, 8] (EntersS.meth (by kernel_rfl) rfl rfl rfl meth54_Read rfl rfl) Tryd.func71 rfl Tryd.ntmps71 rfl (ltb rfl) (leb rfl) rfl ?_)
  intro fr3
  refine AC.seq ?_
  refine AC.region ?_
  refine AO.op rfl (AOp.assign rfl rfl (ltb rfl) rfl ?_)
  refine AO.op rfl (AOp.assign rfl rfl (ltb rfl) rfl ?_)
  refine AO.nil ?_
  change AC _ _ _ _
  refine AC.seq ?_
  refine AC.region ?_
  refine AO.op rfl (AOp.move rfl rfl (ltb rfl) rfl ?_)
  refine AO.op rfl (AOp.nilCheck rfl rfl (ltb rfl) rfl rfl ?_)
  refine AO.op rfl (AOp.fieldAddr rfl rfl (ltb rfl) rfl fo71_2 ?_)
  refine AO.op rfl (AOp.store rfl rfl rfl rfl size69 rfl rfl rfl (leb rfl) ?_)
  refine AO.nil ?_
  change AC _ _ _ _
  refine AC.seq ?_
  refine AC.seq ?_
  refine AC.region ?_
  refine AO.op rfl (AOp.move rfl rfl (ltb rfl) rfl ?_)
  refine AO.op rfl (AOp.inl [0, 1] (by kernel_rfl) Tryd.func75 rfl Tryd.ntmps75 rfl rfl (ltb rfl) rfl (leb rfl) rfl ?_)
  intro fr4
  refine AC.seq ?_
  refine AC.region ?_
  refine AO.op rfl (AOp.assign rfl rfl (ltb rfl) rfl ?_)
  refine AO.objs (obs' := [.fix 71 [.d (eS4 b0), .d (di .i64 b1), .d (di .i8 (0 : Int))], .fix 5 (List.map (fun z => SV.d (keS4 z)) b3), .frame pv [(0, .ptr 0 0), (1, .ptr 1 0)], .frame fr1 [(4, .d (di .i64 (0 : Int))), (5, .d (.v (.nilIface)))], .frame fr3 [(0, .ifc 54 (.ptr 0 0)), (1, .sl 1 1 0 a0 a0), (2, .d (di .i64 ((a0 : Nat) : Int))), (6, .d (di .i64 (0 : Int))), (7, .d (.v (.nilIface))), (8, .d (di .i64 (0 : Int)))], .frame fr4 [(0, .ptr 0 0), (1, .sl 1 1 0 a0 a0)]]) rfl ?_
  refine AO.nil ?_
  change AC _ _ _ _
  refine AC.seq ?_
  refine AC.draw 11 mixed (by kernel_rfl) ?_
  refine AD.op [0] rfl (by kernel_rfl) rfl rfl (fun _ _ h => AOp.move rfl rfl (ltb rfl) rfl h) ?_
  refine AD.op [3] rfl (by kernel_rfl) rfl rfl (fun _ _ h => AOp.nilCheck rfl rfl (ltb rfl) rfl rfl h) ?_
  refine AD.op [4] rfl (by kernel_rfl) rfl rfl (fun _ _ h => AOp.fieldAddr rfl rfl (ltb rfl) rfl fo71_0 h) ?_
  refine AD.op [5] rfl (by kernel_rfl) rfl rfl (fun _ _ h => AOp.load1 rfl rfl (ltb rfl) rfl agg22 rfl rfl h) ?_
  refine AD.op [6] rfl (by kernel_rfl) rfl rfl (fun _ _ h => AOp.lenDs (n := b0.length) (cells := (List.map keS4 b0)) rfl rfl (ltb rfl) rfl el22 (by decide) (len1 _ _) h) ?_
  refine AD.op [0] rfl (by kernel_rfl) rfl rfl (fun _ _ h => AOp.move rfl rfl (ltb rfl) rfl h) ?_
  refine AD.op [8] rfl (by kernel_rfl) rfl rfl (fun _ _ h => AOp.nilCheck rfl rfl (ltb rfl) rfl rfl h) ?_
  refine AD.op [9] rfl (by kernel_rfl) rfl rfl (fun _ _ h => AOp.fieldAddr rfl rfl (ltb rfl) rfl fo71_1 h) ?_
  refine AD.op [10] rfl (by kernel_rfl) rfl rfl (fun _ _ h => AOp.load1 rfl rfl (ltb rfl) rfl agg3 rfl rfl h) ?_
  refine AD.op [7, 11] rfl (by kernel_rfl) rfl rfl (fun _ _ h => AOp.ileq rfl rfl (ltb rfl) rfl rfl h) ?_
  refine AD.op [12] rfl (by kernel_rfl) rfl rfl (fun _ _ h => AOp.assign rfl rfl (ltb rfl) rfl h) ?_
  refine AD.done ?_
  refine AO.nil ?_
  change AC _ _ _ _
  refine AC.ret ?_
  refine inlret (ob' := [.fix 71 [.d (eS4 b0), .d (di .i64 b1), .d (di .i8 (0 : Int))], .fix 5 (List.map (fun z => SV.d (keS4 z)) b3), .frame pv [(0, .ptr 0 0), (1, .ptr 1 0)], .frame fr1 [(4, .d (di .i64 (0 : Int))), (5, .d (.v (.nilIface)))], .frame fr3 [(0, .ifc 54 (.ptr 0 0)), (1, .sl 1 1 0 a0 a0), (2, .d (di .i64 ((a0 : Nat) : Int))), (6, .d (di .i64 (0 : Int))), (7, .d (.v (.nilIface))), (8, .d (di .i64 (0 : Int)))], .dead]) (e' := [(0, .ptr 0 0), (1, .sl 1 1 0 a0 a0)]) (r := .d (dbool (decide (((b0.length : Nat) : Int) ≤ b1)))) rfl rfl rfl ?_
  change AO _ _ _ _ _
  refine AO.objs (obs' := [.fix 71 [.d (eS4 b0), .d (di .i64 b1), .d (di .i8 (0 : Int))], .fix 5 (List.map (fun z => SV.d (keS4 z)) b3), .frame pv [(0, .ptr 0 0), (1, .ptr 1 0)], .frame fr1 [(4, .d (di .i64 (0 : Int))), (5, .d (.v (.nilIface)))], .frame fr3 [(0, .ifc 54 (.ptr 0 0)), (1, .sl 1 1 0 a0 a0), (2, .d (di .i64 ((a0 : Nat) : Int))), (6, .d (di .i64 (0 : Int))), (7, .d (.v (.nilIface))), (8, .d (di .i64 (0 : Int)))], .dead]) rfl ?_
  refine AO.nil ?_
  change AC _ _ _ _
  refine AC.cond rfl (fun q5 => ?_) (fun q5 => ?_)
  ·replace h0 := cT h0 q5
   refine AC.seq ?_
   refine AC.region ?_
   refine AO.op rfl (AOp.move rfl rfl (ltb rfl) rfl ?_)
   refine AO.op rfl (AOp.inl [1] (by kernel_rfl) Tryd.func72 rfl Tryd.ntmps72 rfl rfl (ltb rfl) rfl (leb rfl) rfl ?_)
   intro fr6
   refine AC.seq ?_
   refine AC.region ?_
   refine AO.op rfl (AOp.move rfl rfl (ltb rfl) rfl ?_)
   refine AO.op rfl (AOp.move rfl rfl (ltb rfl) rfl ?_)
   refine AO.op rfl (AOp.nilCheck rfl rfl (ltb rfl) rfl rfl ?_)
   refine AO.op rfl (AOp.fieldAddr rfl rfl (ltb rfl) rfl fo71_0 ?_)
   refine AO.op rfl (AOp.load1 rfl rfl (ltb rfl) rfl agg22 rfl rfl ?_)
   obtain ⟨q7, h0⟩ := need_elim h0
   refine AO.op rfl (AOp.sliceD (cells := (List.map keS4 b0)) (n := b0.length) (l := 0) (hh := ((0 : Int)).toNat) rfl rfl (ltb rfl) rfl (.inl ⟨rfl, rfl⟩) (.inr ⟨_, _, _, rfl, rfl, q7.1.2, rfl⟩) el22 (by decide) (len1 _ _) q7.2.1 q7.2.2 (sub1 _ _ _ _) ?_)
   refine AO.op rfl (AOp.nilCheck rfl rfl (ltb rfl) rfl rfl ?_)
   refine AO.op rfl (AOp.fieldAddr rfl rfl (ltb rfl) rfl fo71_0 ?_)
   refine AO.op rfl (AOp.store rfl rfl rfl rfl size22 rfl rfl rfl (leb rfl) ?_)
   refine AO.objs (obs' := [.fix 71 [.d (eS4 ((b0.drop 0).take (((0 : Int)).toNat - 0))), .d (di .i64 b1), .d (di .i8 (0 : Int))], .fix 5 (List.map (fun z => SV.d (keS4 z)) b3), .frame pv [(0, .ptr 0 0), (1, .ptr 1 0)], .frame fr1 [(4, .d (di .i64 (0 : Int))), (5, .d (.v (.nilIface)))], .frame fr3 [(0, .ifc 54 (.ptr 0 0)), (1, .sl 1 1 0 a0 a0), (2, .d (di .i64 ((a0 : Nat) : Int))), (6, .d (di .i64 (0 : Int))), (7, .d (.v (.nilIface))), (8, .d (di .i64 (0 : Int)))], .dead, .frame fr6 [(1, .sl 1 1 0 a0 a0)]]) rfl ?_
   refine AO.nil ?_
   change AC _ _ _ _
   refine AC.seq ?_
   refine AC.region ?_
   refine AO.op rfl (AOp.move rfl rfl (ltb rfl) rfl ?_)
   refine AO.op rfl (AOp.nilCheck rfl rfl (ltb rfl) rfl rfl ?_)
   refine AO.op rfl (AOp.fieldAddr rfl rfl (ltb rfl) rfl fo71_1 ?_)
   refine AO.op rfl (AOp.store rfl rfl rfl rfl size3 rfl rfl rfl (leb rfl) ?_)
   refine AO.nil ?_
   change AC _ _ _ _
   refine AC.region ?_
   refine AO.op rfl (AOp.move rfl rfl (ltb rfl) rfl ?_)
   refine AO.op rfl (AOp.nilCheck rfl rfl (ltb rfl) rfl rfl ?_)
   refine AO.op rfl (AOp.fieldAddr rfl rfl (ltb rfl) rfl fo71_2 ?_)
   refine AO.op rfl (AOp.store rfl rfl rfl rfl size69 rfl rfl rfl (leb rfl) ?_)
   refine AO.nil ?_
   refine inlend (ob' := [.fix 71 [.d (eS4 ((b0.drop 0).take (((0 : Int)).toNat - 0))), .d (di .i64 (0 : Int)), .d (di .i8 (0 : Int))], .fix 5 (List.map (fun z => SV.d (keS4 z)) b3), .frame pv [(0, .ptr 0 0), (1, .ptr 1 0)], .frame fr1 [(4, .d (di .i64 (0 : Int))), (5, .d (.v (.nilIface)))], .frame fr3 [(0, .ifc 54 (.ptr 0 0)), (1, .sl 1 1 0 a0 a0), (2, .d (di .i64 ((a0 : Nat) : Int))), (6, .d (di .i64 (0 : Int))), (7, .d (.v (.nilIface))), (8, .d (di .i64 (0 : Int)))], .dead, .dead]) (e' := [(1, .sl 1 1 0 a0 a0)]) (r := .tu []) rfl rfl rfl ?_
   change AO _ _ _ _ _
   refine AO.objs (obs' := [.fix 71 [.d (eS4 ((b0.drop 0).take (((0 : Int)).toNat - 0))), .d (di .i64 (0 : Int)), .d (di .i8 (0 : Int))], .fix 5 (List.map (fun z => SV.d (keS4 z)) b3), .frame pv [(0, .ptr 0 0), (1, .ptr 1 0)], .frame fr1 [(4, .d (di .i64 (0 : Int))), (5, .d (.v (.nilIface)))], .frame fr3 [(0, .ifc 54 (.ptr 0 0)), (1, .sl 1 1 0 a0 a0), (2, .d (di .i64 ((a0 : Nat) : Int))), (6, .d (di .i64 (0 : Int))), (7, .d (.v (.nilIface))), (8, .d (di .i64 (0 : Int)))], .dead, .dead]) rfl ?_
   refine AO.nil ?_
   change AC _ _ _ _
   refine AC.seq ?_
   refine AC.seq ?_
   refine AC.region ?_
   refine AO.op rfl (AOp.move rfl rfl (ltb rfl) rfl ?_)
   refine AO.op rfl (AOp.lenSl rfl rfl (ltb rfl) rfl el22 ?_)
   refine AO.op rfl (AOp.ieql rfl rfl (ltb rfl) rfl rfl ?_)
   refine AO.nil ?_
   change AC _ _ _ _
   refine AC.cond rfl (fun q8 => ?_) (fun q8 => ?_)
   ·replace h0 := cT h0 q8
    cases h0
   replace h0 := cF h0 q8
   refine AC.skip ?_
   change AC _ _ _ _
   refine AC.seq ?_
   refine AC.draw 3 mixed (by kernel_rfl) ?_
   refine AD.op [] rfl (by kernel_rfl) rfl rfl (fun _ _ h => AOp.loadEV rfl rfl (ltb rfl) rfl agg57 (by simp [GlobsP]) h) ?_
   refine AD.op [] rfl (by kernel_rfl) rfl rfl (fun _ _ h => AOp.assign rfl rfl (ltb rfl) rfl h) ?_
   refine AD.op [16] rfl (by kernel_rfl) rfl rfl (fun _ _ h => AOp.assign rfl rfl (ltb rfl) rfl h) ?_
   refine AD.done ?_
   refine AO.nil ?_
   change AC _ _ _ _
   refine AC.ret ?_
   refine inlret (ob' := [.fix 71 [.d (eS4 ((b0.drop 0).take (((0 : Int)).toNat - 0))), .d (di .i64 (0 : Int)), .d (di .i8 (0 : Int))], .fix 5 (List.map (fun z => SV.d (keS4 z)) b3), .frame pv [(0, .ptr 0 0), (1, .ptr 1 0)], .frame fr1 [(4, .d (di .i64 (0 : Int))), (5, .d (.v (.nilIface)))], .dead, .dead, .dead]) (e' := [(0, .ifc 54 (.ptr 0 0)), (1, .sl 1 1 0 a0 a0), (2, .d (di .i64 ((a0 : Nat) : Int))), (6, .d (di .i64 (0 : Int))), (7, .d (.v (.nilIface))), (8, .d (di .i64 (0 : Int)))]) (r := .tu [.d (di .i64 (0 : Int)), .d (.v (errV W 5))]) rfl rfl rfl ?_
   change AO _ _ _ _ _
   refine AO.objs (obs' := [.fix 71 [.d (eS4 ((b0.drop 0).take (((0 : Int)).toNat - 0))), .d (di .i64 (0 : Int)), .d (di .i8 (0 : Int))], .fix 5 (List.map (fun z => SV.d (keS4 z)) b3), .frame pv [(0, .ptr 0 0), (1, .ptr 1 0)], .frame fr1 [(4, .d (di .i64 (0 : Int))), (5, .d (.v (.nilIface)))], .dead, .dead, .dead]) rfl ?_
   refine AO.nil ?_
   change AD _ _ _ _ _
   refine AD.op [29] rfl (by kernel_rfl) rfl rfl (fun _ _ h => AOp.move rfl rfl (ltb rfl) rfl h) ?_
   first | refine AD.op [21] rfl (by kernel_rfl) rfl rfl (fun _ _ h => AOp.extractD rfl rfl (ltb rfl) rfl rfl h) ?_ | refine AD.op [21] rfl (by kernel_rfl) rfl rfl (fun _ _ h => AOp.extract rfl rfl (ltb rfl) rfl rfl h) ?_
   first | refine AD.op [21] rfl (by kernel_rfl) rfl rfl (fun _ _ h => AOp.extractD rfl rfl (ltb rfl) rfl rfl h) ?_ | refine AD.op [21] rfl (by kernel_rfl) rfl rfl (fun _ _ h => AOp.extract rfl rfl (ltb rfl) rfl rfl h) ?_
   refine AD.op [30] rfl (by kernel_rfl) rfl rfl (fun _ _ h => AOp.assign rfl rfl (ltb rfl) rfl h) ?_
   refine AD.op [31] rfl (by kernel_rfl) rfl rfl (fun _ _ h => AOp.assign rfl rfl (ltb rfl) rfl h) ?_
   refine AD.done ?_
   refine AO.nil ?_
   change AC _ _ _ _
   refine AC.region ?_
   refine AO.op rfl (AOp.move rfl rfl (ltb rfl) rfl ?_)
   refine AO.op rfl (AOp.move rfl rfl (ltb rfl) rfl ?_)
   refine AO.op rfl (AOp.iadd rfl rfl (ltb rfl) rfl rfl (show (0 : Int) + (0 : Int) = (0 : Int) by decide) (by decide) (by decide) ?_)
   refine AO.op rfl (AOp.assign rfl rfl (ltb rfl) rfl ?_)
   refine AO.nil ?_
   change ACL _ _ _ _
   refine ACL.round ?_
   refine AC.seq ?_
   refine AC.seq ?_
   refine AC.region ?_
   refine AO.op rfl (AOp.move rfl rfl (ltb rfl) rfl ?_)
   refine AO.op rfl (AOp.move rfl rfl (ltb rfl) rfl ?_)
   refine AO.op rfl (AOp.ilss rfl rfl (ltb rfl) rfl rfl ?_)
   refine AO.op rfl (AOp.move rfl rfl (ltb rfl) rfl ?_)
   refine AO.guardY rfl rfl rfl q2 (AOp.move rfl rfl (ltb rfl) rfl ?_)
   refine AO.guardY rfl rfl rfl q2 (AOp.errEql rfl rfl (ltb rfl) rfl (by simp [GlobsP]) imeth57 ?_)
   refine AO.op rfl (AOp.pick rfl rfl (ltb rfl) rfl q2 rfl ?_)
   refine AO.nil ?_
   change AC _ _ _ _
   refine AC.condF rfl rfl ?_
   refine AC.exit ?_
   change AC _ _ _ _
   refine AC.seq ?_
   refine AC.seq ?_
   refine AC.region ?_
   refine AO.op rfl (AOp.move rfl rfl (ltb rfl) rfl ?_)
   refine AO.op rfl (AOp.move rfl rfl (ltb rfl) rfl ?_)
   refine AO.op rfl (AOp.igeq rfl rfl (ltb rfl) rfl rfl ?_)
   refine AO.nil ?_
   change AC _ _ _ _
   refine AC.condF rfl (dlt_ge q2) ?_
   refine AC.seq ?_
   refine AC.region ?_
   refine AO.op rfl (AOp.move rfl rfl (ltb rfl) rfl ?_)
   refine AO.op rfl (AOp.igtr rfl rfl (ltb rfl) rfl rfl ?_)
   refine AO.op rfl (AOp.move rfl rfl (ltb rfl) rfl ?_)
   refine AO.guardN rfl rfl rfl (ltb rfl) rfl rfl ?_
   refine AO.guardN rfl rfl rfl (ltb rfl) rfl rfl ?_
   refine AO.guardN rfl rfl rfl (ltb rfl) rfl rfl ?_
   refine AO.op rfl (AOp.pickN rfl rfl (ltb rfl) rfl rfl rfl ?_)
   refine AO.nil ?_
   change AC _ _ _ _
   refine AC.condF rfl rfl ?_
   refine AC.skip ?_
   change AC _ _ _ _
   refine AC.ret ?_
   refine inlret (ob' := [.fix 71 [.d (eS4 ((b0.drop 0).take (((0 : Int)).toNat - 0))), .d (di .i64 (0 : Int)), .d (di .i8 (0 : Int))], .fix 5 (List.map (fun z => SV.d (keS4 z)) b3), .frame pv [(0, .ptr 0 0), (1, .ptr 1 0)], .dead, .dead, .dead, .dead]) (e' := [(4, .d (di .i64 (0 : Int))), (5, .d (.v (.nilIface)))]) (r := .tu [.d (di .i64 (0 : Int)), .d (.v (errV W 5))]) rfl rfl rfl ?_
   change AO _ _ _ _ _
   first | refine AO.op rfl (AOp.extractD rfl rfl (ltb rfl) rfl rfl ?_) | refine AO.op rfl (AOp.extract rfl rfl (ltb rfl) rfl rfl ?_)
   first | refine AO.op rfl (AOp.extractD rfl rfl (ltb rfl) rfl rfl ?_) | refine AO.op rfl (AOp.extract rfl rfl (ltb rfl) rfl rfl ?_)
   refine AO.op rfl (AOp.assign rfl rfl (ltb rfl) rfl ?_)
   refine AO.op rfl (AOp.assign rfl rfl (ltb rfl) rfl ?_)
   refine AO.objs (obs' := [.fix 71 [.d (eS4 ((b0.drop 0).take (((0 : Int)).toNat - 0))), .d (di .i64 (0 : Int)), .d (di .i8 (0 : Int))], .fix 5 (List.map (fun z => SV.d (keS4 z)) b3), .frame pv [(0, .ptr 0 0), (1, .ptr 1 0)], .dead, .dead, .dead, .dead]) rfl ?_
   refine AO.nil ?_
   change AC _ _ _ _
   refine AC.errAny 5 rfl (by simp [GlobsP]) fun u9 => ?_
   obtain rfl := Option.some.inj h0
   refine AC.ret ?_
   change RetH _ _ _ _ _ _ .ret _
   refine reth (post := [.fix 71 [.d (eS4 ((b0.drop 0).take (((0 : Int)).toNat - 0))), .d (di .i64 (0 : Int)), .d (di .i8 (0 : Int))], .fix 5 (List.map (fun z => SV.d (keS4 z)) b3)]) rfl rfl rfl rfl (under_all (.cons ⟨rfl, rfl⟩ (.cons (unders_fixl fun _ => rfl) .nil))) ?_
   exact ⟨_, rfl, rfl⟩
  replace h0 := cF h0 q5
  refine AC.skip ?_
  change AC _ _ _ _
  refine AC.seq ?_
  refine AC.draw 10 mixed (by kernel_rfl) ?_
  refine AD.op [1] rfl (by kernel_rfl) rfl rfl (fun _ _ h => AOp.move rfl rfl (ltb rfl) rfl h) ?_
  refine AD.op [0] rfl (by kernel_rfl) rfl rfl (fun _ _ h => AOp.move rfl rfl (ltb rfl) rfl h) ?_
  refine AD.op [18] rfl (by kernel_rfl) rfl rfl (fun _ _ h => AOp.nilCheck rfl rfl (ltb rfl) rfl rfl h) ?_
  refine AD.op [19] rfl (by kernel_rfl) rfl rfl (fun _ _ h => AOp.fieldAddr rfl rfl (ltb rfl) rfl fo71_0 h) ?_
  refine AD.op [20] rfl (by kernel_rfl) rfl rfl (fun _ _ h => AOp.load1 rfl rfl (ltb rfl) rfl agg22 rfl rfl h) ?_
  refine AD.op [0] rfl (by kernel_rfl) rfl rfl (fun _ _ h => AOp.move rfl rfl (ltb rfl) rfl h) ?_
  refine AD.op [22] rfl (by kernel_rfl) rfl rfl (fun _ _ h => AOp.nilCheck rfl rfl (ltb rfl) rfl rfl h) ?_
  refine AD.op [23] rfl (by kernel_rfl) rfl rfl (fun _ _ h => AOp.fieldAddr rfl rfl (ltb rfl) rfl fo71_1 h) ?_
  refine AD.op [24] rfl (by kernel_rfl) rfl rfl (fun _ _ h => AOp.load1 rfl rfl (ltb rfl) rfl agg3 rfl rfl h) ?_
  obtain ⟨q10, h0⟩ := need_elim h0
  refine AD.op [21, 25] rfl (by kernel_rfl) rfl rfl (fun _ _ h => AOp.sliceD (cells := (List.map keS4 b0)) (n := b0.length) (l := (b1).toNat) (hh := b0.length) rfl rfl (ltb rfl) rfl (.inr ⟨_, _, _, rfl, rfl, q10.1.1, rfl⟩) (.inl ⟨rfl, rfl⟩) el22 (by decide) (len1 _ _) q10.2.1 q10.2.2 (sub1 _ _ _ _) h) ?_
  refine AD.done ?_
  obtain ⟨q11, h0⟩ := need_elim h0
  obtain ⟨m12, q13, h0⟩ := bind_elim h0
  obtain ⟨c14, q15, h0⟩ := bind_elim h0
  refine AO.op rfl (AOp.copyL2 (k := keS4) (l := b3) (l2 := ((b0.drop (b1).toNat).take (b0.length - (b1).toNat))) (m := m12) rfl rfl (ltb rfl) rfl rfl el22 rfl q11 (fun _ => rfl) ((Option.some.inj q13).symm) (Option.some.inj q15) ?_)
  refine AO.op rfl (AOp.assign rfl rfl (ltb rfl) rfl ?_)
  refine AO.nil ?_
  change AC _ _ _ _
  refine AC.seq ?_
  refine AC.region ?_
  refine AO.op rfl (AOp.move rfl rfl (ltb rfl) rfl ?_)
  refine AO.op rfl (AOp.nilCheck rfl rfl (ltb rfl) rfl rfl ?_)
  refine AO.op rfl (AOp.fieldAddr rfl rfl (ltb rfl) rfl fo71_1 ?_)
  refine AO.op rfl (AOp.load1 rfl rfl (ltb rfl) rfl agg3 rfl rfl ?_)
  refine AO.op rfl (AOp.move rfl rfl (ltb rfl) rfl ?_)
  obtain ⟨q16, h0⟩ := need_elim h0
  refine AO.op rfl (AOp.iadd rfl rfl (ltb rfl) rfl rfl rfl q16.1 q16.2 ?_)
  refine AO.op rfl (AOp.nilCheck rfl rfl (ltb rfl) rfl rfl ?_)
  refine AO.op rfl (AOp.fieldAddr rfl rfl (ltb rfl) rfl fo71_1 ?_)
  refine AO.op rfl (AOp.store rfl rfl rfl rfl size3 rfl rfl rfl (leb rfl) ?_)
  refine AO.nil ?_
  change AC _ _ _ _
  refine AC.joinP (V := Int) [4] [] 6 (fun g17 => []) (fun g17 => [.fix 71 [.d (eS4 b0), .d (di .i64 (b1 + ((m12 : Nat) : Int))), .d (di .i8 g17)], .fix 5 (List.map (fun z => SV.d (keS4 z)) c14), .frame pv [(0, .ptr 0 0), (1, .ptr 1 0)], .frame fr1 [(4, .d (di .i64 (0 : Int))), (5, .d (.v (.nilIface)))], .frame fr3 [(0, .ifc 54 (.ptr 0 0)), (1, .sl 1 1 0 a0 a0), (2, .d (di .i64 ((a0 : Nat) : Int))), (6, .d (di .i64 (0 : Int))), (7, .d (.v (.nilIface))), (8, .d (di .i64 (0 : Int)))], .dead]) (fun g17 => (p_ReadFull_k1 a0 b0 b1 m12 c14) g17 = some r0) rfl ?_ ?_
  ·refine AC.seq ?_
   refine AC.region ?_
   refine AO.op rfl (AOp.move rfl rfl (ltb rfl) rfl ?_)
   refine AO.op rfl (AOp.igtr rfl rfl (ltb rfl) rfl rfl ?_)
   refine AO.nil ?_
   change AC _ _ _ _
   refine AC.cond rfl (fun q31 => ?_) (fun q31 => ?_)
   ·replace h0 := cT h0 q31
    refine AC.region ?_
    refine AO.op rfl (AOp.move rfl rfl (ltb rfl) rfl ?_)
    refine AO.op rfl (AOp.nilCheck rfl rfl (ltb rfl) rfl rfl ?_)
    refine AO.op rfl (AOp.fieldAddr rfl rfl (ltb rfl) rfl fo71_2 ?_)
    refine AO.op rfl (AOp.store rfl rfl rfl rfl size69 rfl rfl rfl (leb rfl) ?_)
    refine AO.nil ?_
    exact ⟨(-1 : Int), _, rfl, (LeL.refl _), rfl, (okU_mk rfl (okU_cons rfl (okU_cons (okU_fixl (fun _ => rfl)) (okU_cons rfl (okU_cons rfl (okU_cons rfl (okU_cons rfl okU_nil))))))), h0⟩
   replace h0 := cF h0 q31
   refine AC.skip ?_
   exact ⟨(0 : Int), _, rfl, (LeL.refl _), rfl, (okU_mk rfl (okU_cons rfl (okU_cons (okU_fixl (fun _ => rfl)) (okU_cons rfl (okU_cons rfl (okU_cons rfl (okU_cons rfl okU_nil))))))), h0⟩
  intro g17 h0
  unfold p_ReadFull_k1 at h0
  refine AC.seq ?_
  refine AC.region ?_
  refine AO.op rfl (AOp.move rfl rfl (ltb rfl) rfl ?_)
  refine AO.op rfl (AOp.assign rfl rfl (ltb rfl) rfl ?_)
  refine AO.op rfl (AOp.assign rfl rfl (ltb rfl) rfl ?_)
  refine AO.nil ?_
  change AC _ _ _ _
  refine AC.ret ?_
  refine inlret (ob' := [.fix 71 [.d (eS4 b0), .d (di .i64 (b1 + ((m12 : Nat) : Int))), .d (di .i8 g17)], .fix 5 (List.map (fun z => SV.d (keS4 z)) c14), .frame pv [(0, .ptr 0 0), (1, .ptr 1 0)], .frame fr1 [(4, .d (di .i64 (0 : Int))), (5, .d (.v (.nilIface)))], .dead, .dead]) (e' := [(0, .ifc 54 (.ptr 0 0)), (1, .sl 1 1 0 a0 a0), (2, .d (di .i64 ((a0 : Nat) : Int))), (6, .d (di .i64 (0 : Int))), (7, .d (.v (.nilIface))), (8, .d (di .i64 (0 : Int)))]) (r := .tu [.d (di .i64 ((m12 : Nat) : Int)), .d (.v (.nilIface))]) rfl rfl rfl ?_
  change AO _ _ _ _ _
  refine AO.objs (obs' := [.fix 71 [.d (eS4 b0), .d (di .i64 (b1 + ((m12 : Nat) : Int))), .d (di .i8 g17)], .fix 5 (List.map (fun z => SV.d (keS4 z)) c14), .frame pv [(0, .ptr 0 0), (1, .ptr 1 0)], .frame fr1 [(4, .d (di .i64 (0 : Int))), (5, .d (.v (.nilIface)))], .dead, .dead]) rfl ?_
  refine AO.nil ?_
  change AD _ _ _ _ _
  refine AD.op [29] rfl (by kernel_rfl) rfl rfl (fun _ _ h => AOp.move rfl rfl (ltb rfl) rfl h) ?_
  first | refine AD.op [21] rfl (by kernel_rfl) rfl rfl (fun _ _ h => AOp.extractD rfl rfl (ltb rfl) rfl rfl h) ?_ | refine AD.op [21] rfl (by kernel_rfl) rfl rfl (fun _ _ h => AOp.extract rfl rfl (ltb rfl) rfl rfl h) ?_
  first | refine AD.op [21] rfl (by kernel_rfl) rfl rfl (fun _ _ h => AOp.extractD rfl rfl (ltb rfl) rfl rfl h) ?_ | refine AD.op [21] rfl (by kernel_rfl) rfl rfl (fun _ _ h => AOp.extract rfl rfl (ltb rfl) rfl rfl h) ?_
  refine AD.op [30] rfl (by kernel_rfl) rfl rfl (fun _ _ h => AOp.assign rfl rfl (ltb rfl) rfl h) ?_
  refine AD.op [31] rfl (by kernel_rfl) rfl rfl (fun _ _ h => AOp.assign rfl rfl (ltb rfl) rfl h) ?_
  refine AD.done ?_
  refine AO.nil ?_
  change AC _ _ _ _
  refine AC.region ?_
  refine AO.op rfl (AOp.move rfl rfl (ltb rfl) rfl ?_)
  refine AO.op rfl (AOp.move rfl rfl (ltb rfl) rfl ?_)
  obtain ⟨q18, h0⟩ := need_elim h0
  refine AO.op rfl (AOp.iadd rfl rfl (ltb rfl) rfl rfl (Int.zero_add _) q18.1 q18.2 ?_)
  refine AO.op rfl (AOp.assign rfl rfl (ltb rfl) rfl ?_)
  refine AO.nil ?_
  change ACL _ _ _ _
  refine ACL.round ?_
  refine AC.seq ?_
  refine AC.seq ?_
  refine AC.region ?_
  refine AO.op rfl (AOp.move rfl rfl (ltb rfl) rfl ?_)
  refine AO.op rfl (AOp.move rfl rfl (ltb rfl) rfl ?_)
  refine AO.op rfl (AOp.ilss rfl rfl (ltb rfl) rfl rfl ?_)
  refine AO.op rfl (AOp.move rfl rfl (ltb rfl) rfl ?_)
  refine AO.dec (decide (((m12 : Nat) : Int) < ((a0 : Nat) : Int))) (fun q19 => ?_) (fun q19 => ?_)
  ·replace h0 := cT h0 q19
   refine AO.guardY rfl rfl rfl q19 (AOp.move rfl rfl (ltb rfl) rfl ?_)
   refine AO.guardY rfl rfl rfl q19 (AOp.nilEq rfl rfl (ltb rfl) rfl imeth57 ?_)
   refine AO.op rfl (AOp.pick rfl rfl (ltb rfl) rfl q19 rfl ?_)
   refine AO.nil ?_
   change AC _ _ _ _
   refine AC.condT rfl rfl ?_
   refine AC.skip ?_
   change AC _ _ _ _
   refine AC.block ?_
   refine AC.seq ?_
   refine AC.region ?_
   refine AO.op rfl (AOp.assign rfl rfl (ltb rfl) rfl ?_)
   refine AO.nil ?_
   change AC _ _ _ _
   refine AC.seq ?_
   refine AC.drawC 7 mixed (by kernel_rfl) rfl ?_
   refine AD.op [0] rfl (by kernel_rfl) rfl rfl (fun _ _ h => AOp.move rfl rfl (ltb rfl) rfl h) ?_
   refine AD.op [1] rfl (by kernel_rfl) rfl rfl (fun _ _ h => AOp.move rfl rfl (ltb rfl) rfl h) ?_
   refine AD.op [6] rfl (by kernel_rfl) rfl rfl (fun _ _ h => AOp.move rfl rfl (ltb rfl) rfl h) ?_
   obtain ⟨q20, h0⟩ := need_elim h0
   refine AD.op [23, 24] rfl (by kernel_rfl) rfl rfl (fun _ _ h => AOp.sliceSl (cap := a0) rfl rfl (ltb rfl) rfl rfl el22 q20.1 q20.2 h) ?_
   refine AD.op [22] rfl (by kernel_rfl) rfl rfl (fun _ _ h => AOp.makeMeth rfl rfl (ltb rfl) rfl h) ?_
   refine AD.op [26] rfl (by kernel_rfl) rfl rfl (fun _ _ h => AOp.nilMeth rfl rfl (ltb rfl) rfl rfl nilm54_Read h) ?_
   refine AD.op [22] rfl (by kernel_rfl) rfl rfl (fun _ _ h => AOp.move rfl rfl (ltb rfl) rfl h) ?_
   refine AD.done ?_
   refine AO.op rfl (AOp.inlE [0, 1, 2, 6, 7, 8, 21, 29, 30, 31] (EntersS.meth (by kernel_rfl) rfl rfl rfl meth54_Read rfl rfl) Tryd.func71 rfl Tryd.ntmps71 rfl (ltb rfl) (leb rfl) rfl ?_)
   intro fr21
   refine AC.seq ?_
   refine AC.region ?_
   refine AO.op rfl (AOp.assign rfl rfl (ltb rfl) rfl ?_)
   refine AO.op rfl (AOp.assign rfl rfl (ltb rfl) rfl ?_)
   refine AO.objs (obs' := [.fix 71 [.d (eS4 b0), .d (di .i64 (b1 + ((m12 : Nat) : Int))), .d (di .i8 g17)], .fix 5 (List.map (fun z => SV.d (keS4 z)) c14), .frame pv [(0, .ptr 0 0), (1, .ptr 1 0)], .frame fr1 [(4, .d (di .i64 (0 : Int))), (5, .d (.v (.nilIface)))], .dead, .dead, .frame fr21 [(0, .ifc 54 (.ptr 0 0)), (1, .sl 1 1 0 a0 a0), (2, .d (di .i64 ((a0 : Nat) : Int))), (6, .d (di .i64 ((m12 : Nat) : Int))), (7, .d (.v (.nilIface))), (8, .d (di .i64 (0 : Int))), (21, .tu [.d (di .i64 ((m12 : Nat) : Int)), .d (.v (.nilIface))]), (29, .tu [.d (di .i64 ((m12 : Nat) : Int)), .d (.v (.nilIface))]), (30, .d (di .i64 ((m12 : Nat) : Int))), (31, .d (.v (.nilIface)))]]) rfl ?_
   refine AO.nil ?_
   change AC _ _ _ _
   refine AC.seq ?_
   refine AC.region ?_
   refine AO.op rfl (AOp.move rfl rfl (ltb rfl) rfl ?_)
   refine AO.op rfl (AOp.nilCheck rfl rfl (ltb rfl) rfl rfl ?_)
   refine AO.op rfl (AOp.fieldAddr rfl rfl (ltb rfl) rfl fo71_2 ?_)
   refine AO.op rfl (AOp.store rfl rfl rfl rfl size69 rfl rfl rfl (leb rfl) ?_)
   refine AO.nil ?_
   change AC _ _ _ _
   refine AC.seq ?_
   refine AC.seq ?_
   refine AC.region ?_
   refine AO.op rfl (AOp.move rfl rfl (ltb rfl) rfl ?_)
   refine AO.op rfl (AOp.inl [0, 1] (by kernel_rfl) Tryd.func75 rfl Tryd.ntmps75 rfl rfl (ltb rfl) rfl (leb rfl) rfl ?_)
   intro fr22
   refine AC.seq ?_
   refine AC.region ?_
   refine AO.op rfl (AOp.assign rfl rfl (ltb rfl) rfl ?_)
   refine AO.objs (obs' := [.fix 71 [.d (eS4 b0), .d (di .i64 (b1 + ((m12 : Nat) : Int))), .d (di .i8 (0 : Int))], .fix 5 (List.map (fun z => SV.d (keS4 z)) c14), .frame pv [(0, .ptr 0 0), (1, .ptr 1 0)], .frame fr1 [(4, .d (di .i64 (0 : Int))), (5, .d (.v (.nilIface)))], .dead, .dead, .frame fr21 [(0, .ifc 54 (.ptr 0 0)), (1, .sl 1 1 0 a0 a0), (2, .d (di .i64 ((a0 : Nat) : Int))), (6, .d (di .i64 ((m12 : Nat) : Int))), (7, .d (.v (.nilIface))), (8, .d (di .i64 (0 : Int))), (21, .tu [.d (di .i64 ((m12 : Nat) : Int)), .d (.v (.nilIface))]), (29, .tu [.d (di .i64 ((m12 : Nat) : Int)), .d (.v (.nilIface))]), (30, .d (di .i64 ((m12 : Nat) : Int))), (31, .d (.v (.nilIface)))], .frame fr22 [(0, .ptr 0 0), (1, .sl 1 1 (if a0 = (((m12 : Nat) : Int)).toNat then 0 else 0 + (((m12 : Nat) : Int)).toNat * 1) (a0 - (((m12 : Nat) : Int)).toNat) (a0 - (((m12 : Nat) : Int)).toNat))]]) rfl ?_
   refine AO.nil ?_
   change AC _ _ _ _
   refine AC.seq ?_
   refine AC.draw 11 mixed (by kernel_rfl) ?_
   refine AD.op [0] rfl (by kernel_rfl) rfl rfl (fun _ _ h => AOp.move rfl rfl (ltb rfl) rfl h) ?_
   refine AD.op [3] rfl (by kernel_rfl) rfl rfl (fun _ _ h => AOp.nilCheck rfl rfl (ltb rfl) rfl rfl h) ?_
   refine AD.op [4] rfl (by kernel_rfl) rfl rfl (fun _ _ h => AOp.fieldAddr rfl rfl (ltb rfl) rfl fo71_0 h) ?_
   refine AD.op [5] rfl (by kernel_rfl) rfl rfl (fun _ _ h => AOp.load1 rfl rfl (ltb rfl) rfl agg22 rfl rfl h) ?_
   refine AD.op [6] rfl (by kernel_rfl) rfl rfl (fun _ _ h => AOp.lenDs (n := b0.length) (cells := (List.map keS4 b0)) rfl rfl (ltb rfl) rfl el22 (by decide) (len1 _ _) h) ?_
   refine AD.op [0] rfl (by kernel_rfl) rfl rfl (fun _ _ h => AOp.move rfl rfl (ltb rfl) rfl h) ?_
   refine AD.op [8] rfl (by kernel_rfl) rfl rfl (fun _ _ h => AOp.nilCheck rfl rfl (ltb rfl) rfl rfl h) ?_
   refine AD.op [9] rfl (by kernel_rfl) rfl rfl (fun _ _ h => AOp.fieldAddr rfl rfl (ltb rfl) rfl fo71_1 h) ?_
   refine AD.op [10] rfl (by kernel_rfl) rfl rfl (fun _ _ h => AOp.load1 rfl rfl (ltb rfl) rfl agg3 rfl rfl h) ?_
   refine AD.op [7, 11] rfl (by kernel_rfl) rfl rfl (fun _ _ h => AOp.ileq rfl rfl (ltb rfl) rfl rfl h) ?_
   refine AD.op [12] rfl (by kernel_rfl) rfl rfl (fun _ _ h => AOp.assign rfl rfl (ltb rfl) rfl h) ?_
   refine AD.done ?_
   refine AO.nil ?_
   change AC _ _ _ _
   refine AC.ret ?_
   refine inlret (ob' := [.fix 71 [.d (eS4 b0), .d (di .i64 (b1 + ((m12 : Nat) : Int))), .d (di .i8 (0 : Int))], .fix 5 (List.map (fun z => SV.d (keS4 z)) c14), .frame pv [(0, .ptr 0 0), (1, .ptr 1 0)], .frame fr1 [(4, .d (di .i64 (0 : Int))), (5, .d (.v (.nilIface)))], .dead, .dead, .frame fr21 [(0, .ifc 54 (.ptr 0 0)), (1, .sl 1 1 0 a0 a0), (2, .d (di .i64 ((a0 : Nat) : Int))), (6, .d (di .i64 ((m12 : Nat) : Int))), (7, .d (.v (.nilIface))), (8, .d (di .i64 (0 : Int))), (21, .tu [.d (di .i64 ((m12 : Nat) : Int)), .d (.v (.nilIface))]), (29, .tu [.d (di .i64 ((m12 : Nat) : Int)), .d (.v (.nilIface))]), (30, .d (di .i64 ((m12 : Nat) : Int))), (31, .d (.v (.nilIface)))], .dead]) (e' := [(0, .ptr 0 0), (1, .sl 1 1 (if a0 = (((m12 : Nat) : Int)).toNat then 0 else 0 + (((m12 : Nat) : Int)).toNat * 1) (a0 - (((m12 : Nat) : Int)).toNat) (a0 - (((m12 : Nat) : Int)).toNat))]) (r := .d (dbool (decide (((b0.length : Nat) : Int) ≤ (b1 + ((m12 : Nat) : Int)))))) rfl rfl rfl ?_
   change AO _ _ _ _ _
   refine AO.objs (obs' := [.fix 71 [.d (eS4 b0), .d (di .i64 (b1 + ((m12 : Nat) : Int))), .d (di .i8 (0 : Int))], .fix 5 (List.map (fun z => SV.d (keS4 z)) c14), .frame pv [(0, .ptr 0 0), (1, .ptr 1 0)], .frame fr1 [(4, .d (di .i64 (0 : Int))), (5, .d (.v (.nilIface)))], .dead, .dead, .frame fr21 [(0, .ifc 54 (.ptr 0 0)), (1, .sl 1 1 0 a0 a0), (2, .d (di .i64 ((a0 : Nat) : Int))), (6, .d (di .i64 ((m12 : Nat) : Int))), (7, .d (.v (.nilIface))), (8, .d (di .i64 (0 : Int))), (21, .tu [.d (di .i64 ((m12 : Nat) : Int)), .d (.v (.nilIface))]), (29, .tu [.d (di .i64 ((m12 : Nat) : Int)), .d (.v (.nilIface))]), (30, .d (di .i64 ((m12 : Nat) : Int))), (31, .d (.v (.nilIface)))], .dead]) rfl ?_
   refine AO.nil ?_
   change AC _ _ _ _
   refine AC.cond rfl (fun q23 => ?_) (fun q23 => ?_)
   ·replace h0 := cT h0 q23
    refine AC.seq ?_
    refine AC.region ?_
    refine AO.op rfl (AOp.move rfl rfl (ltb rfl) rfl ?_)
    refine AO.op rfl (AOp.inl [1] (by kernel_rfl) Tryd.func72 rfl Tryd.ntmps72 rfl rfl (ltb rfl) rfl (leb rfl) rfl ?_)
    intro fr24
    refine AC.seq ?_
    refine AC.region ?_
    refine AO.op rfl (AOp.move rfl rfl (ltb rfl) rfl ?_)
    refine AO.op rfl (AOp.move rfl rfl (ltb rfl) rfl ?_)
    refine AO.op rfl (AOp.nilCheck rfl rfl (ltb rfl) rfl rfl ?_)
    refine AO.op rfl (AOp.fieldAddr rfl rfl (ltb rfl) rfl fo71_0 ?_)
    refine AO.op rfl (AOp.load1 rfl rfl (ltb rfl) rfl agg22 rfl rfl ?_)
    obtain ⟨q25, h0⟩ := need_elim h0
    refine AO.op rfl (AOp.sliceD (cells := (List.map keS4 b0)) (n := b0.length) (l := 0) (hh := ((0 : Int)).toNat) rfl rfl (ltb rfl) rfl (.inl ⟨rfl, rfl⟩) (.inr ⟨_, _, _, rfl, rfl, q25.1.2, rfl⟩) el22 (by decide) (len1 _ _) q25.2.1 q25.2.2 (sub1 _ _ _ _) ?_)
    refine AO.op rfl (AOp.nilCheck rfl rfl (ltb rfl) rfl rfl ?_)
    refine AO.op rfl (AOp.fieldAddr rfl rfl (ltb rfl) rfl fo71_0 ?_)
    refine AO.op rfl (AOp.store rfl rfl rfl rfl size22 rfl rfl rfl (leb rfl) ?_)
    refine AO.objs (obs' := [.fix 71 [.d (eS4 ((b0.drop 0).take (((0 : Int)).toNat - 0))), .d (di .i64 (b1 + ((m12 : Nat) : Int))), .d (di .i8 (0 : Int))], .fix 5 (List.map (fun z => SV.d (keS4 z)) c14), .frame pv [(0, .ptr 0 0), (1, .ptr 1 0)], .frame fr1 [(4, .d (di .i64 (0 : Int))), (5, .d (.v (.nilIface)))], .dead, .dead, .frame fr21 [(0, .ifc 54 (.ptr 0 0)), (1, .sl 1 1 0 a0 a0), (2, .d (di .i64 ((a0 : Nat) : Int))), (6, .d (di .i64 ((m12 : Nat) : Int))), (7, .d (.v (.nilIface))), (8, .d (di .i64 (0 : Int))), (21, .tu [.d (di .i64 ((m12 : Nat) : Int)), .d (.v (.nilIface))]), (29, .tu [.d (di .i64 ((m12 : Nat) : Int)), .d (.v (.nilIface))]), (30, .d (di .i64 ((m12 : Nat) : Int))), (31, .d (.v (.nilIface)))], .dead, .frame fr24 [(1, .sl 1 1 (if a0 = (((m12 : Nat) : Int)).toNat then 0 else 0 + (((m12 : Nat) : Int)).toNat * 1) (a0 - (((m12 : Nat) : Int)).toNat) (a0 - (((m12 : Nat) : Int)).toNat))]]) rfl ?_
    refine AO.nil ?_
    change AC _ _ _ _
    refine AC.seq ?_
    refine AC.region ?_
    refine AO.op rfl (AOp.move rfl rfl (ltb rfl) rfl ?_)
    refine AO.op rfl (AOp.nilCheck rfl rfl (ltb rfl) rfl rfl ?_)
    refine AO.op rfl (AOp.fieldAddr rfl rfl (ltb rfl) rfl fo71_1 ?_)
    refine AO.op rfl (AOp.store rfl rfl rfl rfl size3 rfl rfl rfl (leb rfl) ?_)
    refine AO.nil ?_
    change AC _ _ _ _
    refine AC.region ?_
    refine AO.op rfl (AOp.move rfl rfl (ltb rfl) rfl ?_)
    refine AO.op rfl (AOp.nilCheck rfl rfl (ltb rfl) rfl rfl ?_)
    refine AO.op rfl (AOp.fieldAddr rfl rfl (ltb rfl) rfl fo71_2 ?_)
    refine AO.op rfl (AOp.store rfl rfl rfl rfl size69 rfl rfl rfl (leb rfl) ?_)
    refine AO.nil ?_
    refine inlend (ob' := [.fix 71 [.d (eS4 ((b0.drop 0).take (((0 : Int)).toNat - 0))), .d (di .i64 (0 : Int)), .d (di .i8 (0 : Int))], .fix 5 (List.map (fun z => SV.d (keS4 z)) c14), .frame pv [(0, .ptr 0 0), (1, .ptr 1 0)], .frame fr1 [(4, .d (di .i64 (0 : Int))), (5, .d (.v (.nilIface)))], .dead, .dead, .frame fr21 [(0, .ifc 54 (.ptr 0 0)), (1, .sl 1 1 0 a0 a0), (2, .d (di .i64 ((a0 : Nat) : Int))), (6, .d (di .i64 ((m12 : Nat) : Int))), (7, .d (.v (.nilIface))), (8, .d (di .i64 (0 : Int))), (21, .tu [.d (di .i64 ((m12 : Nat) : Int)), .d (.v (.nilIface))]), (29, .tu [.d (di .i64 ((m12 : Nat) : Int)), .d (.v (.nilIface))]), (30, .d (di .i64 ((m12 : Nat) : Int))), (31, .d (.v (.nilIface)))], .dead, .dead]) (e' := [(1, .sl 1 1 (if a0 = (((m12 : Nat) : Int)).toNat then 0 else 0 + (((m12 : Nat) : Int)).toNat * 1) (a0 - (((m12 : Nat) : Int)).toNat) (a0 - (((m12 : Nat) : Int)).toNat))]) (r := .tu []) rfl rfl rfl ?_
    change AO _ _ _ _ _
    refine AO.objs (obs' := [.fix 71 [.d (eS4 ((b0.drop 0).take (((0 : Int)).toNat - 0))), .d (di .i64 (0 : Int)), .d (di .i8 (0 : Int))], .fix 5 (List.map (fun z => SV.d (keS4 z)) c14), .frame pv [(0, .ptr 0 0), (1, .ptr 1 0)], .frame fr1 [(4, .d (di .i64 (0 : Int))), (5, .d (.v (.nilIface)))], .dead, .dead, .frame fr21 [(0, .ifc 54 (.ptr 0 0)), (1, .sl 1 1 0 a0 a0), (2, .d (di .i64 ((a0 : Nat) : Int))), (6, .d (di .i64 ((m12 : Nat) : Int))), (7, .d (.v (.nilIface))), (8, .d (di .i64 (0 : Int))), (21, .tu [.d (di .i64 ((m12 : Nat) : Int)), .d (.v (.nilIface))]), (29, .tu [.d (di .i64 ((m12 : Nat) : Int)), .d (.v (.nilIface))]), (30, .d (di .i64 ((m12 : Nat) : Int))), (31, .d (.v (.nilIface)))], .dead, .dead]) rfl ?_
    refine AO.nil ?_
    change AC _ _ _ _
    refine AC.seq ?_
    refine AC.seq ?_
    refine AC.region ?_
    refine AO.op rfl (AOp.move rfl rfl (ltb rfl) rfl ?_)
    refine AO.op rfl (AOp.lenSl rfl rfl (ltb rfl) rfl el22 ?_)
    refine AO.op rfl (AOp.ieql rfl rfl (ltb rfl) rfl rfl ?_)
    refine AO.nil ?_
    change AC _ _ _ _
    refine AC.cond rfl (fun q26 => ?_) (fun q26 => ?_)
    ·replace h0 := cT h0 q26
     cases h0
    replace h0 := cF h0 q26
    refine AC.skip ?_
    change AC _ _ _ _
    refine AC.seq ?_
    refine AC.draw 3 mixed (by kernel_rfl) ?_
    refine AD.op [] rfl (by kernel_rfl) rfl rfl (fun _ _ h => AOp.loadEV rfl rfl (ltb rfl) rfl agg57 (by simp [GlobsP]) h) ?_
    refine AD.op [] rfl (by kernel_rfl) rfl rfl (fun _ _ h => AOp.assign rfl rfl (ltb rfl) rfl h) ?_
    refine AD.op [16] rfl (by kernel_rfl) rfl rfl (fun _ _ h => AOp.assign rfl rfl (ltb rfl) rfl h) ?_
    refine AD.done ?_
    refine AO.nil ?_
    change AC _ _ _ _
    refine AC.ret ?_
    refine inlret (ob' := [.fix 71 [.d (eS4 ((b0.drop 0).take (((0 : Int)).toNat - 0))), .d (di .i64 (0 : Int)), .d (di .i8 (0 : Int))], .fix 5 (List.map (fun z => SV.d (keS4 z)) c14), .frame pv [(0, .ptr 0 0), (1, .ptr 1 0)], .frame fr1 [(4, .d (di .i64 (0 : Int))), (5, .d (.v (.nilIface)))], .dead, .dead, .dead, .dead, .dead]) (e' := [(0, .ifc 54 (.ptr 0 0)), (1, .sl 1 1 0 a0 a0), (2, .d (di .i64 ((a0 : Nat) : Int))), (6, .d (di .i64 ((m12 : Nat) : Int))), (7, .d (.v (.nilIface))), (8, .d (di .i64 (0 : Int))), (21, .tu [.d (di .i64 ((m12 : Nat) : Int)), .d (.v (.nilIface))]), (29, .tu [.d (di .i64 ((m12 : Nat) : Int)), .d (.v (.nilIface))]), (30, .d (di .i64 ((m12 : Nat) : Int))), (31, .d (.v (.nilIface)))]) (r := .tu [.d (di .i64 (0 : Int)), .d (.v (errV W 5))]) rfl rfl rfl ?_
    change AO _ _ _ _ _
    refine AO.objs (obs' := [.fix 71 [.d (eS4 ((b0.drop 0).take (((0 : Int)).toNat - 0))), .d (di .i64 (0 : Int)), .d (di .i8 (0 : Int))], .fix 5 (List.map (fun z => SV.d (keS4 z)) c14), .frame pv [(0, .ptr 0 0), (1, .ptr 1 0)], .frame fr1 [(4, .d (di .i64 (0 : Int))), (5, .d (.v (.nilIface)))], .dead, .dead, .dead, .dead, .dead]) rfl ?_
    refine AO.nil ?_
    change AD _ _ _ _ _
    refine AD.op [29] rfl (by kernel_rfl) rfl rfl (fun _ _ h => AOp.move rfl rfl (ltb rfl) rfl h) ?_
    first | refine AD.op [21] rfl (by kernel_rfl) rfl rfl (fun _ _ h => AOp.extractD rfl rfl (ltb rfl) rfl rfl h) ?_ | refine AD.op [21] rfl (by kernel_rfl) rfl rfl (fun _ _ h => AOp.extract rfl rfl (ltb rfl) rfl rfl h) ?_
    first | refine AD.op [21] rfl (by kernel_rfl) rfl rfl (fun _ _ h => AOp.extractD rfl rfl (ltb rfl) rfl rfl h) ?_ | refine AD.op [21] rfl (by kernel_rfl) rfl rfl (fun _ _ h => AOp.extract rfl rfl (ltb rfl) rfl rfl h) ?_
    refine AD.op [30] rfl (by kernel_rfl) rfl rfl (fun _ _ h => AOp.assign rfl rfl (ltb rfl) rfl h) ?_
    refine AD.op [31] rfl (by kernel_rfl) rfl rfl (fun _ _ h => AOp.assign rfl rfl (ltb rfl) rfl h) ?_
    refine AD.done ?_
    refine AO.nil ?_
    change AC _ _ _ _
    refine AC.region ?_
    refine AO.op rfl (AOp.move rfl rfl (ltb rfl) rfl ?_)
    refine AO.op rfl (AOp.move rfl rfl (ltb rfl) rfl ?_)
    obtain ⟨q27, h0⟩ := need_elim h0
    refine AO.op rfl (AOp.iadd rfl rfl (ltb rfl) rfl rfl (Int.add_zero _) q27.1 q27.2 ?_)
    refine AO.op rfl (AOp.assign rfl rfl (ltb rfl) rfl ?_)
    refine AO.nil ?_
    change ACL _ _ _ _
    refine ACL.round ?_
    refine AC.seq ?_
    refine AC.seq ?_
    refine AC.region ?_
    refine AO.op rfl (AOp.move rfl rfl (ltb rfl) rfl ?_)
    refine AO.op rfl (AOp.move rfl rfl (ltb rfl) rfl ?_)
    refine AO.op rfl (AOp.ilss rfl rfl (ltb rfl) rfl rfl ?_)
    refine AO.op rfl (AOp.move rfl rfl (ltb rfl) rfl ?_)
    refine AO.guardY rfl rfl rfl q19 (AOp.move rfl rfl (ltb rfl) rfl ?_)
    refine AO.guardY rfl rfl rfl q19 (AOp.errEql rfl rfl (ltb rfl) rfl (by simp [GlobsP]) imeth57 ?_)
    refine AO.op rfl (AOp.pick rfl rfl (ltb rfl) rfl q19 rfl ?_)
    refine AO.nil ?_
    change AC _ _ _ _
    refine AC.condF rfl rfl ?_
    refine AC.exit ?_
    change AC _ _ _ _
    refine AC.seq ?_
    refine AC.seq ?_
    refine AC.region ?_
    refine AO.op rfl (AOp.move rfl rfl (ltb rfl) rfl ?_)
    refine AO.op rfl (AOp.move rfl rfl (ltb rfl) rfl ?_)
    refine AO.op rfl (AOp.igeq rfl rfl (ltb rfl) rfl rfl ?_)
    refine AO.nil ?_
    change AC _ _ _ _
    refine AC.condF rfl (dlt_ge q19) ?_
    refine AC.seq ?_
    refine AC.region ?_
    refine AO.op rfl (AOp.move rfl rfl (ltb rfl) rfl ?_)
    refine AO.op rfl (AOp.igtr rfl rfl (ltb rfl) rfl rfl ?_)
    refine AO.op rfl (AOp.move rfl rfl (ltb rfl) rfl ?_)
    refine AO.dec (decide ((0 : Int) < ((m12 : Nat) : Int))) (fun q28 => ?_) (fun q28 => ?_)
    ·replace h0 := cT h0 q28
     refine AO.guardY rfl rfl rfl q28 (AOp.move rfl rfl (ltb rfl) rfl ?_)
     refine AO.guardY rfl rfl rfl q28 (AOp.loadEV rfl rfl (ltb rfl) rfl agg57 (by simp [GlobsP]) ?_)
     refine AO.guardY rfl rfl rfl q28 (AOp.errSame rfl rfl (ltb rfl) rfl rfl (by simp [GlobsP]) cmpE imeth57 ?_)
     refine AO.op rfl (AOp.pick rfl rfl (ltb rfl) rfl q28 rfl ?_)
     refine AO.nil ?_
     change AC _ _ _ _
     refine AC.condT rfl rfl ?_
     refine AC.region ?_
     refine AO.op rfl (AOp.loadEV rfl rfl (ltb rfl) rfl agg57 (by simp [GlobsP]) ?_)
     refine AO.op rfl (AOp.assign rfl rfl (ltb rfl) rfl ?_)
     refine AO.nil ?_
     change AC _ _ _ _
     refine AC.ret ?_
     refine inlret (ob' := [.fix 71 [.d (eS4 ((b0.drop 0).take (((0 : Int)).toNat - 0))), .d (di .i64 (0 : Int)), .d (di .i8 (0 : Int))], .fix 5 (List.map (fun z => SV.d (keS4 z)) c14), .frame pv [(0, .ptr 0 0), (1, .ptr 1 0)], .dead, .dead, .dead, .dead, .dead, .dead]) (e' := [(4, .d (di .i64 (0 : Int))), (5, .d (.v (.nilIface)))]) (r := .tu [.d (di .i64 ((m12 : Nat) : Int)), .d (.v (errV W 6))]) rfl rfl rfl ?_
     change AO _ _ _ _ _
     first | refine AO.op rfl (AOp.extractD rfl rfl (ltb rfl) rfl rfl ?_) | refine AO.op rfl (AOp.extract rfl rfl (ltb rfl) rfl rfl ?_)
     first | refine AO.op rfl (AOp.extractD rfl rfl (ltb rfl) rfl rfl ?_) | refine AO.op rfl (AOp.extract rfl rfl (ltb rfl) rfl rfl ?_)
     refine AO.op rfl (AOp.assign rfl rfl (ltb rfl) rfl ?_)
     refine AO.op rfl (AOp.assign rfl rfl (ltb rfl) rfl ?_)
     refine AO.objs (obs' := [.fix 71 [.d (eS4 ((b0.drop 0).take (((0 : Int)).toNat - 0))), .d (di .i64 (0 : Int)), .d (di .i8 (0 : Int))], .fix 5 (List.map (fun z => SV.d (keS4 z)) c14), .frame pv [(0, .ptr 0 0), (1, .ptr 1 0)], .dead, .dead, .dead, .dead, .dead, .dead]) rfl ?_
     refine AO.nil ?_
     change AC _ _ _ _
     refine AC.errAny 5 rfl (by simp [GlobsP]) fun u29 => ?_
     obtain rfl := Option.some.inj h0
     refine AC.ret ?_
     change RetH _ _ _ _ _ _ .ret _
     refine reth (post := [.fix 71 [.d (eS4 ((b0.drop 0).take (((0 : Int)).toNat - 0))), .d (di .i64 (0 : Int)), .d (di .i8 (0 : Int))], .fix 5 (List.map (fun z => SV.d (keS4 z)) c14)]) rfl rfl rfl rfl (under_all (.cons ⟨rfl, rfl⟩ (.cons (unders_fixl fun _ => rfl) .nil))) ?_
     exact ⟨_, rfl, rfl⟩
    replace h0 := cF h0 q28
    refine AO.guardN rfl rfl rfl (ltb rfl) rfl q28 ?_
    refine AO.guardN rfl rfl rfl (ltb rfl) rfl q28 ?_
    refine AO.guardN rfl rfl rfl (ltb rfl) rfl q28 ?_
    refine AO.op rfl (AOp.pickN rfl rfl (ltb rfl) rfl q28 rfl ?_)
    refine AO.nil ?_
    change AC _ _ _ _
    refine AC.condF rfl rfl ?_
    refine AC.skip ?_
    change AC _ _ _ _
    refine AC.ret ?_
    refine inlret (ob' := [.fix 71 [.d (eS4 ((b0.drop 0).take (((0 : Int)).toNat - 0))), .d (di .i64 (0 : Int)), .d (di .i8 (0 : Int))], .fix 5 (List.map (fun z => SV.d (keS4 z)) c14), .frame pv [(0, .ptr 0 0), (1, .ptr 1 0)], .dead, .dead, .dead, .dead, .dead, .dead]) (e' := [(4, .d (di .i64 (0 : Int))), (5, .d (.v (.nilIface)))]) (r := .tu [.d (di .i64 ((m12 : Nat) : Int)), .d (.v (errV W 5))]) rfl rfl rfl ?_
    change AO _ _ _ _ _
    first | refine AO.op rfl (AOp.extractD rfl rfl (ltb rfl) rfl rfl ?_) | refine AO.op rfl (AOp.extract rfl rfl (ltb rfl) rfl rfl ?_)
    first | refine AO.op rfl (AOp.extractD rfl rfl (ltb rfl) rfl rfl ?_) | refine AO.op rfl (AOp.extract rfl rfl (ltb rfl) rfl rfl ?_)
    refine AO.op rfl (AOp.assign rfl rfl (ltb rfl) rfl ?_)
    refine AO.op rfl (AOp.assign rfl rfl (ltb rfl) rfl ?_)
    refine AO.objs (obs' := [.fix 71 [.d (eS4 ((b0.drop 0).take (((0 : Int)).toNat - 0))), .d (di .i64 (0 : Int)), .d (di .i8 (0 : Int))], .fix 5 (List.map (fun z => SV.d (keS4 z)) c14), .frame pv [(0, .ptr 0 0), (1, .ptr 1 0)], .dead, .dead, .dead, .dead, .dead, .dead]) rfl ?_
    refine AO.nil ?_
    change AC _ _ _ _
    refine AC.errAny 5 rfl (by simp [GlobsP]) fun u30 => ?_
    obtain rfl := Option.some.inj h0
    refine AC.ret ?_
    change RetH _ _ _ _ _ _ .ret _
    refine reth (post := [.fix 71 [.d (eS4 ((b0.drop 0).take (((0 : Int)).toNat - 0))), .d (di .i64 (0 : Int)), .d (di .i8 (0 : Int))], .fix 5 (List.map (fun z => SV.d (keS4 z)) c14)]) rfl rfl rfl rfl (under_all (.cons ⟨rfl, rfl⟩ (.cons (unders_fixl fun _ => rfl) .nil))) ?_
    exact ⟨_, rfl, rfl⟩
   replace h0 := cF h0 q23
   cases h0
  replace h0 := cF h0 q19
  refine AO.guardN rfl rfl rfl (ltb rfl) rfl q19 ?_
  refine AO.guardN rfl rfl rfl (ltb rfl) rfl q19 ?_
  refine AO.op rfl (AOp.pickN rfl rfl (ltb rfl) rfl q19 rfl ?_)
  refine AO.nil ?_
  change AC _ _ _ _
  refine AC.condF rfl rfl ?_
  refine AC.exit ?_
  change AC _ _ _ _
  refine AC.seq ?_
  refine AC.seq ?_
  refine AC.region ?_
  refine AO.op rfl (AOp.move rfl rfl (ltb rfl) rfl ?_)
  refine AO.op rfl (AOp.move rfl rfl (ltb rfl) rfl ?_)
  refine AO.op rfl (AOp.igeq rfl rfl (ltb rfl) rfl rfl ?_)
  refine AO.nil ?_
  change AC _ _ _ _
  refine AC.condT rfl (dlt_ge q19) ?_
  refine AC.region ?_
  refine AO.op rfl (AOp.assign rfl rfl (ltb rfl) rfl ?_)
  refine AO.nil ?_
  change AC _ _ _ _
  refine AC.ret ?_
  refine inlret (ob' := [.fix 71 [.d (eS4 b0), .d (di .i64 (b1 + ((m12 : Nat) : Int))), .d (di .i8 g17)], .fix 5 (List.map (fun z => SV.d (keS4 z)) c14), .frame pv [(0, .ptr 0 0), (1, .ptr 1 0)], .dead, .dead, .dead]) (e' := [(4, .d (di .i64 (0 : Int))), (5, .d (.v (.nilIface)))]) (r := .tu [.d (di .i64 ((m12 : Nat) : Int)), .d (.v (.nilIface))]) rfl rfl rfl ?_
  change AO _ _ _ _ _
  first | refine AO.op rfl (AOp.extractD rfl rfl (ltb rfl) rfl rfl ?_) | refine AO.op rfl (AOp.extract rfl rfl (ltb rfl) rfl rfl ?_)
  first | refine AO.op rfl (AOp.extractD rfl rfl (ltb rfl) rfl rfl ?_) | refine AO.op rfl (AOp.extract rfl rfl (ltb rfl) rfl rfl ?_)
  refine AO.op rfl (AOp.assign rfl rfl (ltb rfl) rfl ?_)
  refine AO.op rfl (AOp.assign rfl rfl (ltb rfl) rfl ?_)
  refine AO.objs (obs' := [.fix 71 [.d (eS4 b0), .d (di .i64 (b1 + ((m12 : Nat) : Int))), .d (di .i8 g17)], .fix 5 (List.map (fun z => SV.d (keS4 z)) c14), .frame pv [(0, .ptr 0 0), (1, .ptr 1 0)], .dead, .dead, .dead]) rfl ?_
  refine AO.nil ?_
  change AC _ _ _ _
  obtain rfl := Option.some.inj h0
  refine AC.ret ?_
  change RetH _ _ _ _ _ _ .ret _
  refine reth (post := [.fix 71 [.d (eS4 b0), .d (di .i64 (b1 + ((m12 : Nat) : Int))), .d (di .i8 g17)], .fix 5 (List.map (fun z => SV.d (keS4 z)) c14)]) rfl rfl rfl rfl (under_all (.cons ⟨rfl, rfl⟩ (.cons (unders_fixl fun _ => rfl) .nil))) ?_
  exact ⟨rfl, rfl⟩
 replace h0 := cF h0 q2
 refine AO.guardN rfl rfl rfl (ltb rfl) rfl q2 ?_
 refine AO.guardN rfl rfl rfl (ltb rfl) rfl q2 ?_
 refine AO.op rfl (AOp.pickN rfl rfl (ltb rfl) rfl q2 rfl ?_)
 refine AO.nil ?_
 change AC _ _ _ _
 refine AC.condF rfl rfl ?_
 refine AC.exit ?_
 change AC _ _ _ _
 refine AC.seq ?_
 refine AC.seq ?_
 refine AC.region ?_
 refine AO.op rfl (AOp.move rfl rfl (ltb rfl) rfl ?_)
 refine AO.op rfl (AOp.move rfl rfl (ltb rfl) rfl ?_)
 refine AO.op rfl (AOp.igeq rfl rfl (ltb rfl) rfl rfl ?_)
 refine AO.nil ?_
 change AC _ _ _ _
 refine AC.condT rfl (dlt_ge q2) ?_
 refine AC.region ?_
 refine AO.op rfl (AOp.assign rfl rfl (ltb rfl) rfl ?_)
 refine AO.nil ?_
 change AC _ _ _ _
 refine AC.ret ?_
 refine inlret (ob' := [.fix 71 [.d (eS4 b0), .d (di .i64 b1), .d (di .i8 b2)], .fix 5 (List.map (fun z => SV.d (keS4 z)) b3), .frame pv [(0, .ptr 0 0), (1, .ptr 1 0)], .dead]) (e' := [(4, .d (di .i64 (0 : Int))), (5, .d (.v (.nilIface)))]) (r := .tu [.d (di .i64 (0 : Int)), .d (.v (.nilIface))]) rfl rfl rfl ?_
 change AO _ _ _ _ _
 first | refine AO.op rfl (AOp.extractD rfl rfl (ltb rfl) rfl rfl ?_) | refine AO.op rfl (AOp.extract rfl rfl (ltb rfl) rfl rfl ?_)
 first | refine AO.op rfl (AOp.extractD rfl rfl (ltb rfl) rfl rfl ?_) | refine AO.op rfl (AOp.extract rfl rfl (ltb rfl) rfl rfl ?_)
 refine AO.op rfl (AOp.assign rfl rfl (ltb rfl) rfl ?_)
 refine AO.op rfl (AOp.assign rfl rfl (ltb rfl) rfl ?_)
 refine AO.nil ?_
 change AC _ _ _ _
 obtain rfl := Option.some.inj h0
 refine AC.ret ?_
 change RetH _ _ _ _ _ _ .ret _
 refine reth (post := [.fix 71 [.d (eS4 b0), .d (di .i64 b1), .d (di .i8 b2)], .fix 5 (List.map (fun z => SV.d (keS4 z)) b3)]) rfl rfl rfl rfl (under_all (.cons ⟨rfl, rfl⟩ (.cons (unders_fixl fun _ => rfl) .nil))) ?_
 exact ⟨rfl, rfl⟩

set_option maxRecDepth 100000 in
set_option maxHeartbeats 4000000 in
/-- (encoding/binary.bigEndian).Uint64 -/
theorem w_bigEndian_Uint64 (a0 : TBinary_bigEndian) (a1 : (List Int)) (r0 : Int) (h0 : p_bigEndian_Uint64 a0 a1 = some r0) : FnD Tryd.prog 88 [e_TBinary_bigEndian a0, eS4 a1] (fun r => r = di .u64 r0) := by
 refine FnD.of (by kernel_rfl) Tryd.func88 rfl Tryd.ntmps88 rfl (leb rfl) fun W ok => ?_
 unfold p_bigEndian_Uint64 at h0
 refine AC.seq ?_
 refine AC.region ?_
 refine AO.op rfl (AOp.box rfl rfl (ltb rfl) rfl rfl ?_)
 refine AO.op rfl (AOp.assign rfl rfl (ltb rfl) rfl ?_)
 refine AO.nil ?_
 change AC _ _ _ _
 refine AC.seq ?_
 refine AC.region ?_
 refine AO.op rfl (AOp.move rfl rfl (ltb rfl) rfl ?_)
 obtain ⟨x1, q2, h0⟩ := idx_elim h0
 refine AO.op rfl (AOp.indexDs (cells := (List.map keS4 a1)) rfl rfl (ltb rfl) rfl rfl el22 (by decide) q2.1 (lt1 q2.2) ?_)
 refine AO.op rfl (AOp.loadEp rfl rfl (ltb rfl) rfl agg5 (at1 q2.2) ?_)
 refine AO.nil ?_
 change AC _ _ _ _
 refine AC.seq ?_
 refine AC.draw 47 mixed (by kernel_rfl) ?_
 refine AD.op [1] rfl (by kernel_rfl) rfl rfl (fun _ _ h => AOp.move rfl rfl (ltb rfl) rfl h) ?_
 obtain ⟨x3, q4, h0⟩ := idx_elim h0
 refine AD.op [8] rfl (by kernel_rfl) rfl rfl (fun _ _ h => AOp.indexDs (cells := (List.map keS4 a1)) rfl rfl (ltb rfl) rfl rfl el22 (by decide) q4.1 (lt1 q4.2) h) ?_
 refine AD.op [9] rfl (by kernel_rfl) rfl rfl (fun _ _ h => AOp.loadEp rfl rfl (ltb rfl) rfl agg5 (at1 q4.2) h) ?_
 refine AD.op [10] rfl (by kernel_rfl) rfl rfl (fun _ _ h => AOp.i2i rfl rfl (ltb rfl) rfl Tryd.underlying5 Tryd.underlying64 rfl h) ?_
 refine AD.op [1] rfl (by kernel_rfl) rfl rfl (fun _ _ h => AOp.move rfl rfl (ltb rfl) rfl h) ?_
 obtain ⟨x5, q6, h0⟩ := idx_elim h0
 refine AD.op [12] rfl (by kernel_rfl) rfl rfl (fun _ _ h => AOp.indexDs (cells := (List.map keS4 a1)) rfl rfl (ltb rfl) rfl rfl el22 (by decide) q6.1 (lt1 q6.2) h) ?_
 refine AD.op [13] rfl (by kernel_rfl) rfl rfl (fun _ _ h => AOp.loadEp rfl rfl (ltb rfl) rfl agg5 (at1 q6.2) h) ?_
 refine AD.op [14] rfl (by kernel_rfl) rfl rfl (fun _ _ h => AOp.i2i rfl rfl (ltb rfl) rfl Tryd.underlying5 Tryd.underlying64 rfl h) ?_
 refine AD.op [15] rfl (by kernel_rfl) rfl rfl (fun _ _ h => AOp.ishl (n := 8) rfl rfl (ltb rfl) rfl rfl (by decide) rfl h) ?_
 refine AD.op [11, 16] rfl (by kernel_rfl) rfl rfl (fun _ _ h => AOp.ibits (by simp) rfl rfl (ltb rfl) rfl rfl rfl h) ?_
 refine AD.op [1] rfl (by kernel_rfl) rfl rfl (fun _ _ h => AOp.move rfl rfl (ltb rfl) rfl h) ?_
 obtain ⟨x7, q8, h0⟩ := idx_elim h0
 refine AD.op [18] rfl (by kernel_rfl) rfl rfl (fun _ _ h => AOp.indexDs (cells := (List.map keS4 a1)) rfl rfl (ltb rfl) rfl rfl el22 (by decide) q8.1 (lt1 q8.2) h) ?_
 refine AD.op [19] rfl (by kernel_rfl) rfl rfl (fun _ _ h => AOp.loadEp rfl rfl (ltb rfl) rfl agg5 (at1 q8.2) h) ?_
 refine AD.op [20] rfl (by kernel_rfl) rfl rfl (fun _ _ h => AOp.i2i rfl rfl (ltb rfl) rfl Tryd.underlying5 Tryd.underlying64 rfl h) ?_
 refine AD.op [21] rfl (by kernel_rfl) rfl rfl (fun _ _ h => AOp.ishl (n := 16) rfl rfl (ltb rfl) rfl rfl (by decide) rfl h) ?_
 refine AD.op [17, 22] rfl (by kernel_rfl) rfl rfl (fun _ _ h => AOp.ibits (by simp) rfl rfl (ltb rfl) rfl rfl rfl h) ?_
 refine AD.op [1] rfl (by kernel_rfl) rfl rfl (fun _ _ h => AOp.move rfl rfl (ltb rfl) rfl h) ?_
 obtain ⟨x9, q10, h0⟩ := idx_elim h0
 refine AD.op [24] rfl (by kernel_rfl) rfl rfl (fun _ _ h => AOp.indexDs (cells := (List.map keS4 a1)) rfl rfl (ltb rfl) rfl rfl el22 (by decide) q10.1 (lt1 q10.2) h) ?_
 refine AD.op [25] rfl (by kernel_rfl) rfl rfl (fun _ _ h => AOp.loadEp rfl rfl (ltb rfl) rfl agg5 (at1 q10.2) h) ?_
 refine AD.op [26] rfl (by kernel_rfl) rfl rfl (fun _ _ h => AOp.i2i rfl rfl (ltb rfl) rfl Tryd.underlying5 Tryd.underlying64 rfl h) ?_
 refine AD.op [27] rfl (by kernel_rfl) rfl rfl (fun _ _ h => AOp.ishl (n := 24) rfl rfl (ltb rfl) rfl rfl (by decide) rfl h) ?_
 refine AD.op [23, 28] rfl (by kernel_rfl) rfl rfl (fun _ _ h => AOp.ibits (by simp) rfl rfl (ltb rfl) rfl rfl rfl h) ?_
 refine AD.op [1] rfl (by kernel_rfl) rfl rfl (fun _ _ h => AOp.move rfl rfl (ltb rfl) rfl h) ?_
 obtain ⟨x11, q12, h0⟩ := idx_elim h0
 refine AD.op [30] rfl (by kernel_rfl) rfl rfl (fun _ _ h => AOp.indexDs (cells := (List.map keS4 a1)) rfl rfl (ltb rfl) rfl rfl el22 (by decide) q12.1 (lt1 q12.2) h) ?_
 refine AD.op [31] rfl (by kernel_rfl) rfl rfl (fun _ _ h => AOp.loadEp rfl rfl (ltb rfl) rfl agg5 (at1 q12.2) h) ?_
 refine AD.op [32] rfl (by kernel_rfl) rfl rfl (fun _ _ h => AOp.i2i rfl rfl (ltb rfl) rfl Tryd.underlying5 Tryd.underlying64 rfl h) ?_
 refine AD.op [33] rfl (by kernel_rfl) rfl rfl (fun _ _ h => AOp.ishl (n := 32) rfl rfl (ltb rfl) rfl rfl (by decide) rfl h) ?_
 refine AD.op [29, 34] rfl (by kernel_rfl) rfl rfl (fun _ _ h => AOp.ibits (by simp) rfl rfl (ltb rfl) rfl rfl rfl h) ?_
 refine AD.op [1] rfl (by kernel_rfl) rfl rfl (fun _ _ h => AOp.move rfl rfl (ltb rfl) rfl h) ?_
 obtain ⟨x13, q14, h0⟩ := idx_elim h0
 refine AD.op [36] rfl (by kernel_rfl) rfl rfl (fun _ _ h => AOp.indexDs (cells := (List.map keS4 a1)) rfl rfl (ltb rfl) rfl rfl el22 (by decide) q14.1 (lt1 q14.2) h) ?_
 refine AD.op [37] rfl (by kernel_rfl) rfl rfl (fun _ _ h => AOp.loadEp rfl rfl (ltb rfl) rfl agg5 (at1 q14.2) h) ?_
 refine AD.op [38] rfl (by kernel_rfl) rfl rfl (fun _ _ h => AOp.i2i rfl rfl (ltb rfl) rfl Tryd.underlying5 Tryd.underlying64 rfl h) ?_
 refine AD.op [39] rfl (by kernel_rfl) rfl rfl (fun _ _ h => AOp.ishl (n := 40) rfl rfl (ltb rfl) rfl rfl (by decide) rfl h) ?_
 refine AD.op [35, 40] rfl (by kernel_rfl) rfl rfl (fun _ _ h => AOp.ibits (by simp) rfl rfl (ltb rfl) rfl rfl rfl h) ?_
 refine AD.op [1] rfl (by kernel_rfl) rfl rfl (fun _ _ h => AOp.move rfl rfl (ltb rfl) rfl h) ?_
 obtain ⟨x15, q16, h0⟩ := idx_elim h0
 refine AD.op [42] rfl (by kernel_rfl) rfl rfl (fun _ _ h => AOp.indexDs (cells := (List.map keS4 a1)) rfl rfl (ltb rfl) rfl rfl el22 (by decide) q16.1 (lt1 q16.2) h) ?_
 refine AD.op [43] rfl (by kernel_rfl) rfl rfl (fun _ _ h => AOp.loadEp rfl rfl (ltb rfl) rfl agg5 (at1 q16.2) h) ?_
 refine AD.op [44] rfl (by kernel_rfl) rfl rfl (fun _ _ h => AOp.i2i rfl rfl (ltb rfl) rfl Tryd.underlying5 Tryd.underlying64 rfl h) ?_
 refine AD.op [45] rfl (by kernel_rfl) rfl rfl (fun _ _ h => AOp.ishl (n := 48) rfl rfl (ltb rfl) rfl rfl (by decide) rfl h) ?_
 refine AD.op [41, 46] rfl (by kernel_rfl) rfl rfl (fun _ _ h => AOp.ibits (by simp) rfl rfl (ltb rfl) rfl rfl rfl h) ?_
 refine AD.op [1] rfl (by kernel_rfl) rfl rfl (fun _ _ h => AOp.move rfl rfl (ltb rfl) rfl h) ?_
 obtain ⟨x17, q18, h0⟩ := idx_elim h0
 refine AD.op [48] rfl (by kernel_rfl) rfl rfl (fun _ _ h => AOp.indexDs (cells := (List.map keS4 a1)) rfl rfl (ltb rfl) rfl rfl el22 (by decide) q18.1 (lt1 q18.2) h) ?_
 refine AD.op [49] rfl (by kernel_rfl) rfl rfl (fun _ _ h => AOp.loadEp rfl rfl (ltb rfl) rfl agg5 (at1 q18.2) h) ?_
 refine AD.op [50] rfl (by kernel_rfl) rfl rfl (fun _ _ h => AOp.i2i rfl rfl (ltb rfl) rfl Tryd.underlying5 Tryd.underlying64 rfl h) ?_
 refine AD.op [51] rfl (by kernel_rfl) rfl rfl (fun _ _ h => AOp.ishl (n := 56) rfl rfl (ltb rfl) rfl rfl (by decide) rfl h) ?_
 refine AD.op [47, 52] rfl (by kernel_rfl) rfl rfl (fun _ _ h => AOp.ibits (by simp) rfl rfl (ltb rfl) rfl rfl rfl h) ?_
 refine AD.op [53] rfl (by kernel_rfl) rfl rfl (fun _ _ h => AOp.assign rfl rfl (ltb rfl) rfl h) ?_
 refine AD.done ?_
 refine AO.nil ?_
 change AC _ _ _ _
 refine AC.ret ?_
 change RetQ _ _ _ .ret _
 obtain rfl := Option.some.inj h0
 refine retq rfl rfl

theorem callFromBits (x : Nat) (w : World) : (callFunc 36 #[.int .u64 x]).run Tryd.prog w = .ok (.value (.float .f64 x)) w := by
 rw [run_callFunc_extern Tryd.func36 (by kernel_rfl) (by kernel_rfl) (by kernel_rfl) (e := Extern.MathFloatBits.float64frombits) (by kernel_rfl), run_f64frombits Tryd.prog x]
 rfl

def RH_ReadFloatArray_bigEndian : (Sum ((List Int) × Int × Int × (List Nat)) ((List Int) × Int × Int × (List Nat))) → SV → List Ob → Prop
 | .inl z => fun r post => ∃ t0 : Nat, r = .ifc t0 (.any) ∧ post = [.fix 71 [.d (eS4 z.1), .d (di .i64 z.2.1), .d (di .i8 z.2.2.1)], .fix 63 (List.map (fun z => SV.d (keS0 z)) z.2.2.2)]
 | .inr z => fun r post => r = .d (.v (.nilIface)) ∧ post = [.fix 71 [.d (eS4 z.1), .d (di .i64 z.2.1), .d (di .i8 z.2.2.1)], .fix 63 (List.map (fun z => SV.d (keS0 z)) z.2.2.2)]
set_option maxRecDepth 100000 in
set_option maxHeartbeats 4000000 in
/-- pub-orthodrome/pub/gogeom/encoding/wkbcommon.ReadFloatArray -/
theorem wh_ReadFloatArray_bigEndian (F : Nat) (a0 : TBinary_bigEndian) (a1 : Nat) (b0 : (List Int)) (b1 : Int) (b2 : Int) (b3 : (List Nat)) (r0 : (Sum ((List Int) × Int × Int × (List Nat)) ((List Int) × Int × Int × (List Nat)))) (h0 : p_ReadFloatArray_bigEndian F a0 a1 b0 b1 b2 b3 = some r0) : FnH Tryd.prog 39 [.ifc 54 (.ptr 0 0), .ifc 94 (.d (e_TBinary_bigEndian TBinary_bigEndian.mk)), .sl 1 1 0 a1 a1] [.fix 71 [.d (eS4 b0), .d (di .i64 b1), .d (di .i8 b2)], .fix 63 (List.map (fun z => SV.d (keS0 z)) b3)] [0, 1] (RH_ReadFloatArray_bigEndian r0) := by
 refine FnH.of (by kernel_rfl) Tryd.func39 rfl Tryd.ntmps39 rfl (leb rfl) fun W ok may pv => ?_
 unfold p_ReadFloatArray_bigEndian at h0
 refine AC.seq ?_
 refine AC.region ?_
 refine AO.op rfl (AOp.assign rfl rfl (ltb rfl) rfl ?_)
 refine AO.nil ?_
 change AC _ _ _ _
 refine AC.seq ?_
 refine AC.region ?_
 refine AO.op rfl (AOp.move rfl rfl (ltb rfl) rfl ?_)
 refine AO.op rfl (AOp.lenSl rfl rfl (ltb rfl) rfl el24 ?_)
 obtain ⟨q1, h0⟩ := need_elim h0
 refine AO.op rfl (AOp.imul rfl rfl (ltb rfl) rfl rfl rfl q1.1 q1.2 ?_)
 obtain ⟨q2, h0⟩ := need_elim h0
 refine AO.op rfl (AOp.makeL (f := fun z => SV.d (keS4 z)) (z0 := (0 : Int)) rfl rfl (ltb rfl) rfl rfl el22 info5 rfl rfl (by decide) q2.1 q2.2 rfl ?_)
 refine AO.op rfl (AOp.assign rfl rfl (ltb rfl) rfl ?_)
 refine AO.nil ?_
 change AC _ _ _ _
 refine AC.seq ?_
 refine AC.seq ?_
 refine AC.region ?_
 refine AO.op rfl (AOp.move rfl rfl (ltb rfl) rfl ?_)
 refine AO.op rfl (AOp.move rfl rfl (ltb rfl) rfl ?_)
 obtain ⟨y3, q4, h0⟩ := bind_elim h0
 rcases y3 with y5 | y6
 ·replace h0 := selL h0
  refine AO.op rfl (AOp.callH (ys := [.ifc 54 (.ptr 0 0), .sl 1 1 0 ((((8 : Int) * ((a1 : Nat) : Int))).toNat) ((((8 : Int) * ((a1 : Nat) : Int))).toNat)]) (hs := [0, 3]) (pins := [0, 1]) (unp := []) (pre := [.fix 71 [.d (eS4 b0), .d (di .i64 b1), .d (di .i8 b2)], .fix 5 (List.map (fun z => SV.d (keS4 z)) (List.replicate (((8 : Int) * ((a1 : Nat) : Int))).toNat (0 : Int)))]) (EntersS.call (by kernel_rfl) rfl rfl) (wh_ReadFull ((((8 : Int) * ((a1 : Nat) : Int))).toNat) b0 b1 b2 (List.replicate (((8 : Int) * ((a1 : Nat) : Int))).toNat (0 : Int)) _ q4) (ltb rfl) (.cons (SVLe.refl _) (.cons (SVLe.refl _) .nil)) rfl rfl rfl (.cons rfl (.cons (ren_fixl fun _ => rfl) .nil)) (.cons ⟨rfl, rfl⟩ (.cons (unders_fixl fun _ => rfl) .nil)) rfl (noOs_nil _ _ _) rfl ?_)
  rintro _ _ ⟨t7_0, rfl, rfl⟩
  refine ⟨.tu [.d (di .i64 y5.1), .ifc t7_0 (.any)], [.fix 71 [.d (eS4 y5.2.1), .d (di .i64 y5.2.2.1), .d (di .i8 y5.2.2.2.1)], .fix 5 (List.map (fun z => SV.d (keS4 z)) y5.2.2.2.2)], rfl, (.cons rfl (.cons (ren_fixl fun _ => rfl) .nil)), ?_⟩
  refine AO.objs (obs' := [.fix 71 [.d (eS4 y5.2.1), .d (di .i64 y5.2.2.1), .d (di .i8 y5.2.2.2.1)], .fix 63 (List.map (fun z => SV.d (keS0 z)) b3), .frame pv [(0, .ptr 0 0), (1, .ptr 1 0)], .fix 5 (List.map (fun z => SV.d (keS4 z)) y5.2.2.2.2)]) rfl ?_
  refine AO.op rfl (AOp.move rfl rfl (ltb rfl) rfl ?_)
  first | refine AO.op rfl (AOp.extractD rfl rfl (ltb rfl) rfl rfl ?_) | refine AO.op rfl (AOp.extract rfl rfl (ltb rfl) rfl rfl ?_)
  first | refine AO.op rfl (AOp.extractD rfl rfl (ltb rfl) rfl rfl ?_) | refine AO.op rfl (AOp.extract rfl rfl (ltb rfl) rfl rfl ?_)
  refine AO.op rfl (AOp.assign rfl rfl (ltb rfl) rfl ?_)
  refine AO.op rfl (AOp.assign rfl rfl (ltb rfl) rfl ?_)
  refine AO.nil ?_
  change AC _ _ _ _
  refine AC.seq ?_
  refine AC.region ?_
  refine AO.op rfl (AOp.move rfl rfl (ltb rfl) rfl ?_)
  refine AO.op rfl (AOp.ifcNeq rfl rfl (ltb rfl) rfl rfl imeth57 ?_)
  refine AO.nil ?_
  change AC _ _ _ _
  refine AC.condT rfl rfl ?_
  refine AC.seq ?_
  refine AC.region ?_
  refine AO.op rfl (AOp.move rfl rfl (ltb rfl) rfl ?_)
  refine AO.op rfl (AOp.assign rfl rfl (ltb rfl) rfl ?_)
  refine AO.nil ?_
  change AC _ _ _ _
  obtain rfl := Option.some.inj h0
  refine AC.ret ?_
  change RetH _ _ _ _ _ _ .ret _
  refine reth (post := [.fix 71 [.d (eS4 y5.2.1), .d (di .i64 y5.2.2.1), .d (di .i8 y5.2.2.2.1)], .fix 63 (List.map (fun z => SV.d (keS0 z)) b3)]) rfl rfl rfl rfl (under_all (.cons ⟨rfl, rfl⟩ (.cons (unders_fixl fun _ => rfl) .nil))) ?_
  exact ⟨_, rfl, rfl⟩
 replace h0 := selR h0
 refine AO.op rfl (AOp.callH (ys := [.ifc 54 (.ptr 0 0), .sl 1 1 0 ((((8 : Int) * ((a1 : Nat) : Int))).toNat) ((((8 : Int) * ((a1 : Nat) : Int))).toNat)]) (hs := [0, 3]) (pins := [0, 1]) (unp := []) (pre := [.fix 71 [.d (eS4 b0), .d (di .i64 b1), .d (di .i8 b2)], .fix 5 (List.map (fun z => SV.d (keS4 z)) (List.replicate (((8 : Int) * ((a1 : Nat) : Int))).toNat (0 : Int)))]) (EntersS.call (by kernel_rfl) rfl rfl) (wh_ReadFull ((((8 : Int) * ((a1 : Nat) : Int))).toNat) b0 b1 b2 (List.replicate (((8 : Int) * ((a1 : Nat) : Int))).toNat (0 : Int)) _ q4) (ltb rfl) (.cons (SVLe.refl _) (.cons (SVLe.refl _) .nil)) rfl rfl rfl (.cons rfl (.cons (ren_fixl fun _ => rfl) .nil)) (.cons ⟨rfl, rfl⟩ (.cons (unders_fixl fun _ => rfl) .nil)) rfl (noOs_nil _ _ _) rfl ?_)
 rintro _ _ ⟨rfl, rfl⟩
 refine ⟨.tu [.d (di .i64 y6.1), .d (.v (.nilIface))], [.fix 71 [.d (eS4 y6.2.1), .d (di .i64 y6.2.2.1), .d (di .i8 y6.2.2.2.1)], .fix 5 (List.map (fun z => SV.d (keS4 z)) y6.2.2.2.2)], rfl, (.cons rfl (.cons (ren_fixl fun _ => rfl) .nil)), ?_⟩
 refine AO.objs (obs' := [.fix 71 [.d (eS4 y6.2.1), .d (di .i64 y6.2.2.1), .d (di .i8 y6.2.2.2.1)], .fix 63 (List.map (fun z => SV.d (keS0 z)) b3), .frame pv [(0, .ptr 0 0), (1, .ptr 1 0)], .fix 5 (List.map (fun z => SV.d (keS4 z)) y6.2.2.2.2)]) rfl ?_
 refine AO.op rfl (AOp.move rfl rfl (ltb rfl) rfl ?_)
 first | refine AO.op rfl (AOp.extractD rfl rfl (ltb rfl) rfl rfl ?_) | refine AO.op rfl (AOp.extract rfl rfl (ltb rfl) rfl rfl ?_)
 first | refine AO.op rfl (AOp.extractD rfl rfl (ltb rfl) rfl rfl ?_) | refine AO.op rfl (AOp.extract rfl rfl (ltb rfl) rfl rfl ?_)
 refine AO.op rfl (AOp.assign rfl rfl (ltb rfl) rfl ?_)
 refine AO.op rfl (AOp.assign rfl rfl (ltb rfl) rfl ?_)
 refine AO.nil ?_
 change AC _ _ _ _
 refine AC.seq ?_
 refine AC.region ?_
 refine AO.op rfl (AOp.move rfl rfl (ltb rfl) rfl ?_)
 refine AO.op rfl (AOp.nilNeq rfl rfl (ltb rfl) rfl imeth57 ?_)
 refine AO.nil ?_
 change AC _ _ _ _
 refine AC.condF rfl rfl ?_
 refine AC.skip ?_
 change AC _ _ _ _
 refine AC.seq ?_
 refine AC.seq ?_
 refine AC.region ?_
 refine AO.op rfl (AOp.move rfl rfl (ltb rfl) rfl ?_)
 refine AO.op rfl (AOp.lenSl rfl rfl (ltb rfl) rfl el24 ?_)
 refine AO.op rfl (AOp.move rfl rfl (ltb rfl) rfl ?_)
 refine AO.nil ?_
 change AC _ _ _ _
 obtain ⟨q9, h0⟩ := need_elim h0
 refine AC.freezeF (ds := (List.map keS4 y6.2.2.2.2)) 7 3 rfl rfl rfl (by rw [List.map_map]; rfl) (lenq q9 (len1 _ _)) (Nat.le_refl _) ?_
 obtain ⟨o10, l11, h0⟩ := bind_elim h0
 refine AC.joinE (V := (List Nat)) [] [] 4 (fun g12 => []) (fun g12 => [.fix 71 [.d (eS4 y6.2.1), .d (di .i64 y6.2.2.1), .d (di .i8 y6.2.2.2.1)], .fix 63 (List.map (fun z => SV.d (keS0 z)) g12), .frame pv [(0, .ptr 0 0), (1, .ptr 1 0)], .dead]) (fun g12 => (p_ReadFloatArray_bigEndian_k1 y6) g12 = some r0) rfl ?_ ?_
 ·refine AC.block ?_
  refine AC.loopP (V := (Int × (List Nat))) (p_ReadFloatArray_bigEndian_l2 a1 y6) o10 [1, 2, 7, 25] [26] 4 (fun g13 => [(26, .d (di .i64 g13.1))]) (fun g13 => [.fix 71 [.d (eS4 y6.2.1), .d (di .i64 y6.2.2.1), .d (di .i8 y6.2.2.2.1)], .fix 63 (List.map (fun z => SV.d (keS0 z)) g13.2), .frame pv [(0, .ptr 0 0), (1, .ptr 1 0)], .dead]) F ((0 : Int), b3) l11 rfl rfl (LeL.refl _) rfl (okU_mk rfl (okU_cons rfl (okU_cons (okU_fixl (fun _ => rfl)) (okU_cons rfl (okU_cons rfl okU_nil))))) ?_
  intro n15 g13 h1
  unfold p_ReadFloatArray_bigEndian_l2 at h1
  refine AC.seq ?_
  refine AC.region ?_
  refine AO.op rfl (AOp.ilss rfl rfl (ltb rfl) rfl rfl ?_)
  refine AO.nil ?_
  change AC _ _ _ _
  refine AC.seq ?_
  refine AC.cond rfl (fun q16 => ?_) (fun q16 => ?_)
  ·replace h1 := cT h1 q16
   refine AC.skip ?_
   change AC _ _ _ _
   refine AC.seq ?_
   refine AC.block ?_
   refine AC.seq ?_
   refine AC.region ?_
   refine AO.op rfl (AOp.move rfl rfl (ltb rfl) rfl ?_)
   refine AO.op rfl (AOp.assign rfl rfl (ltb rfl) rfl ?_)
   refine AO.nil ?_
   change AC _ _ _ _
   refine AC.region ?_
   refine AO.op rfl (AOp.move rfl rfl (ltb rfl) rfl ?_)
   refine AO.op rfl (AOp.move rfl rfl (ltb rfl) rfl ?_)
   refine AO.op rfl (AOp.move rfl rfl (ltb rfl) rfl ?_)
   refine AO.op rfl (AOp.move rfl rfl (ltb rfl) rfl ?_)
   obtain ⟨q17, h1⟩ := need_elim h1
   refine AO.op rfl (AOp.imul rfl rfl (ltb rfl) rfl rfl rfl q17.1 q17.2 ?_)
   obtain ⟨q18, h1⟩ := need_elim h1
   refine AO.op rfl (AOp.sliceD (cells := (List.map keS4 y6.2.2.2.2)) (n := y6.2.2.2.2.length) (l := (((8 : Int) * g13.1)).toNat) (hh := y6.2.2.2.2.length) rfl rfl (ltb rfl) rfl (.inr ⟨_, _, _, rfl, rfl, q18.1.1, rfl⟩) (.inl ⟨rfl, rfl⟩) el22 (by decide) (len1 _ _) q18.2.1 q18.2.2 (sub1 _ _ _ _) ?_)
   refine AO.op rfl (AOp.move rfl rfl (ltb rfl) rfl ?_)
   refine AO.op rfl (AOp.inl [1, 2, 7, 25, 26, 29, 30] (by kernel_rfl) Tryd.func46 rfl Tryd.ntmps46 rfl rfl (ltb rfl) rfl (leb rfl) rfl ?_)
   intro fr19
   refine AC.seq ?_
   refine AC.region ?_
   refine AO.op rfl (AOp.assign rfl rfl (ltb rfl) rfl ?_)
   refine AO.nil ?_
   change AC _ _ _ _
   refine AC.seq ?_
   refine AC.region ?_
   refine AO.op rfl (AOp.move rfl rfl (ltb rfl) rfl ?_)
   refine AO.op rfl (AOp.move rfl rfl (ltb rfl) rfl ?_)
   obtain ⟨y20, q21, h1⟩ := bind_elim h1
   refine AO.op rfl (AOp.callE (EntersS.meth (by kernel_rfl) rfl rfl rfl meth94_Uint64 rfl rfl) rfl (ltb rfl) rfl rfl (w_bigEndian_Uint64 TBinary_bigEndian.mk ((y6.2.2.2.2.drop (((8 : Int) * g13.1)).toNat).take (y6.2.2.2.2.length - (((8 : Int) * g13.1)).toNat)) y20 q21) ?_)
   rintro _ rfl
   refine AO.op rfl (AOp.assign rfl rfl (ltb rfl) rfl ?_)
   refine AO.nil ?_
   change AC _ _ _ _
   refine AC.seq ?_
   refine AC.region ?_
   refine AO.op rfl (AOp.move rfl rfl (ltb rfl) rfl ?_)
   obtain ⟨q22, h1⟩ := need_elim h1
   refine AO.op rfl (AOp.callX [.int .u64 (((y20).toNat : Nat) : Int)] rfl rfl (ltb rfl) (by rw [q22]; rfl) (callFromBits ((y20).toNat)) ?_)
   refine AO.op rfl (AOp.assign rfl rfl (ltb rfl) rfl ?_)
   refine AO.nil ?_
   change AC _ _ _ _
   refine AC.ret ?_
   refine inlret (ob' := [.fix 71 [.d (eS4 y6.2.1), .d (di .i64 y6.2.2.1), .d (di .i8 y6.2.2.2.1)], .fix 63 (List.map (fun z => SV.d (keS0 z)) g13.2), .frame pv [(0, .ptr 0 0), (1, .ptr 1 0)], .dead, .dead]) (e' := [(1, .ifc 94 (.d (e_TBinary_bigEndian TBinary_bigEndian.mk))), (2, .sl 1 1 0 a1 a1), (7, .d (eS4 y6.2.2.2.2)), (25, .d (di .i64 ((a1 : Nat) : Int))), (26, .d (di .i64 g13.1)), (29, .sl 1 1 0 a1 a1), (30, .d (di .i64 g13.1))]) (r := .d (dfl ((y20).toNat))) rfl rfl rfl ?_
   change AO _ _ _ _ _
   obtain ⟨q23, h1⟩ := need_elim h1
   refine AO.op rfl (AOp.indexSl rfl rfl (ltb rfl) rfl rfl el24 q23.1 q23.2 ?_)
   obtain ⟨q24, h1⟩ := need_elim h1
   refine AO.op rfl (AOp.storeL (f := fun z => SV.d (keS0 z)) (l := g13.2) (i := (g13.1).toNat) (v := (y20).toNat) rfl rfl rfl rfl size63 rfl rfl rfl q24 ?_)
   refine AO.nil ?_
   change AC _ _ _ _
   refine AC.region ?_
   obtain ⟨q25, h1⟩ := need_elim h1
   refine AO.op rfl (AOp.iadd rfl rfl (ltb rfl) rfl rfl rfl q25.1 q25.2 ?_)
   refine AO.op rfl (AOp.move rfl rfl (ltb rfl) rfl ?_)
   refine AO.nil ?_
   exact ⟨((g13.1 + (1 : Int)), (g13.2.set (g13.1).toNat ((y20).toNat))), _, rfl, (LeL.refl _), rfl, (okU_mk rfl (okU_cons rfl (okU_cons (okU_fixl (fun _ => rfl)) (okU_cons rfl (okU_cons rfl okU_nil))))), h1⟩
  replace h1 := cF h1 q16
  refine AC.exit ?_
  obtain rfl := Option.some.inj h1
  exact ⟨g13.2, _, rfl, (LeL.refl _), rfl, (okU_mk rfl (okU_cons rfl (okU_cons (okU_fixl (fun _ => rfl)) (okU_cons rfl (okU_cons rfl okU_nil))))), aftL h0⟩
 intro g12 h0
 unfold p_ReadFloatArray_bigEndian_k1 at h0
 change AC _ _ _ _
 refine AC.seq ?_
 refine AC.region ?_
 refine AO.op rfl (AOp.assign rfl rfl (ltb rfl) rfl ?_)
 refine AO.nil ?_
 change AC _ _ _ _
 obtain rfl := Option.some.inj h0
 refine AC.ret ?_
 change RetH _ _ _ _ _ _ .ret _
 refine reth (post := [.fix 71 [.d (eS4 y6.2.1), .d (di .i64 y6.2.2.1), .d (di .i8 y6.2.2.2.1)], .fix 63 (List.map (fun z => SV.d (keS0 z)) g12)]) rfl rfl rfl rfl (under_all (.cons ⟨rfl, rfl⟩ (.cons (unders_fixl fun _ => rfl) .nil))) ?_
 exact ⟨rfl, rfl⟩

def RH_ReadFlatCoords1_bigEndian : (Sum ((List Nat) × (List Int) × Int × Int) ((List Nat) × (List Int) × Int × Int)) → SV → List Ob → Prop
 | .inl z => fun r post => ∃ t0 : Nat, r = .tu [.d (eS0 z.1), .ifc t0 (.any)] ∧ post = [.fix 71 [.d (eS4 z.2.1), .d (di .i64 z.2.2.1), .d (di .i8 z.2.2.2)]]
 | .inr z => fun r post => r = .tu [.d (eS0 z.1), .d (.v (.nilIface))] ∧ post = [.fix 71 [.d (eS4 z.2.1), .d (di .i64 z.2.2.1), .d (di .i8 z.2.2.2)]]
set_option maxRecDepth 100000 in
set_option maxHeartbeats 4000000 in
/-- pub-orthodrome/pub/gogeom/encoding/wkbcommon.ReadFlatCoords1 -/
theorem wh_ReadFlatCoords1_bigEndian (F : Nat) (a0 : TBinary_bigEndian) (a1 : Int) (b0 : (List Int)) (b1 : Int) (b2 : Int) (r0 : (Sum ((List Nat) × (List Int) × Int × Int) ((List Nat) × (List Int) × Int × Int))) (h0 : p_ReadFlatCoords1_bigEndian F a0 a1 b0 b1 b2 = some r0) : FnH Tryd.prog 21 [.ifc 54 (.ptr 0 0), .ifc 94 (.d (e_TBinary_bigEndian TBinary_bigEndian.mk)), .d (di .i64 a1)] [.fix 71 [.d (eS4 b0), .d (di .i64 b1), .d (di .i8 b2)]] [0] (RH_ReadFlatCoords1_bigEndian r0) := by
 refine FnH.of (by kernel_rfl) Tryd.func21 rfl Tryd.ntmps21 rfl (leb rfl) fun W ok may pv => ?_
 unfold p_ReadFlatCoords1_bigEndian at h0
 refine AC.seq ?_
 refine AC.region ?_
 refine AO.op rfl (AOp.assign rfl rfl (ltb rfl) rfl ?_)
 refine AO.op rfl (AOp.assign rfl rfl (ltb rfl) rfl ?_)
 refine AO.nil ?_
 change AC _ _ _ _
 refine AC.seq ?_
 refine AC.region ?_
 refine AO.op rfl (AOp.move rfl rfl (ltb rfl) rfl ?_)
 refine AO.op rfl (AOp.move rfl rfl (ltb rfl) rfl ?_)
 obtain ⟨y1, q2, h0⟩ := bind_elim h0
 rcases y1 with y3 | y4
 ·replace h0 := selL h0
  refine AO.op rfl (AOp.callH (ys := [.ifc 54 (.ptr 0 0), .ifc 94 (.d (e_TBinary_bigEndian TBinary_bigEndian.mk))]) (hs := [0]) (pins := [0]) (unp := []) (pre := [.fix 71 [.d (eS4 b0), .d (di .i64 b1), .d (di .i8 b2)]]) (EntersS.call (by kernel_rfl) rfl rfl) (wh_ReadUInt32_bigEndian TBinary_bigEndian.mk b0 b1 b2 _ q2) (ltb rfl) (.cons (SVLe.refl _) (.cons (SVLe.refl _) .nil)) rfl rfl rfl (.cons rfl .nil) (.cons ⟨rfl, rfl⟩ .nil) rfl (noOs_nil _ _ _) rfl ?_)
  rintro _ _ ⟨t5_0, rfl, rfl⟩
  refine ⟨.tu [.d (di .u32 y3.1), .ifc t5_0 (.any)], [.fix 71 [.d (eS4 y3.2.1), .d (di .i64 y3.2.2.1), .d (di .i8 y3.2.2.2)]], rfl, (.cons rfl .nil), ?_⟩
  refine AO.objs (obs' := [.fix 71 [.d (eS4 y3.2.1), .d (di .i64 y3.2.2.1), .d (di .i8 y3.2.2.2)], .frame pv [(0, .ptr 0 0)]]) rfl ?_
  refine AO.op rfl (AOp.move rfl rfl (ltb rfl) rfl ?_)
  first | refine AO.op rfl (AOp.extractD rfl rfl (ltb rfl) rfl rfl ?_) | refine AO.op rfl (AOp.extract rfl rfl (ltb rfl) rfl rfl ?_)
  first | refine AO.op rfl (AOp.extractD rfl rfl (ltb rfl) rfl rfl ?_) | refine AO.op rfl (AOp.extract rfl rfl (ltb rfl) rfl rfl ?_)
  refine AO.op rfl (AOp.assign rfl rfl (ltb rfl) rfl ?_)
  refine AO.op rfl (AOp.assign rfl rfl (ltb rfl) rfl ?_)
  refine AO.nil ?_
  change AC _ _ _ _
  refine AC.seq ?_
  refine AC.seq ?_
  refine AC.region ?_
  refine AO.op rfl (AOp.move rfl rfl (ltb rfl) rfl ?_)
  refine AO.op rfl (AOp.ifcNeq rfl rfl (ltb rfl) rfl rfl imeth57 ?_)
  refine AO.nil ?_
  change AC _ _ _ _
  refine AC.condT rfl rfl ?_
  refine AC.seq ?_
  refine AC.region ?_
  refine AO.op rfl (AOp.move rfl rfl (ltb rfl) rfl ?_)
  refine AO.op rfl (AOp.assign rfl rfl (ltb rfl) rfl ?_)
  refine AO.op rfl (AOp.assign rfl rfl (ltb rfl) rfl ?_)
  refine AO.nil ?_
  change AC _ _ _ _
  refine AC.sub 6 rfl (SVLe.nil 1) ?_
  obtain rfl := Option.some.inj h0
  refine AC.ret ?_
  change RetH _ _ _ _ _ _ .ret _
  refine reth (post := [.fix 71 [.d (eS4 y3.2.1), .d (di .i64 y3.2.2.1), .d (di .i8 y3.2.2.2)]]) rfl rfl rfl rfl rfl ?_
  exact ⟨_, rfl, rfl⟩
 replace h0 := selR h0
 refine AO.op rfl (AOp.callH (ys := [.ifc 54 (.ptr 0 0), .ifc 94 (.d (e_TBinary_bigEndian TBinary_bigEndian.mk))]) (hs := [0]) (pins := [0]) (unp := []) (pre := [.fix 71 [.d (eS4 b0), .d (di .i64 b1), .d (di .i8 b2)]]) (EntersS.call (by kernel_rfl) rfl rfl) (wh_ReadUInt32_bigEndian TBinary_bigEndian.mk b0 b1 b2 _ q2) (ltb rfl) (.cons (SVLe.refl _) (.cons (SVLe.refl _) .nil)) rfl rfl rfl (.cons rfl .nil) (.cons ⟨rfl, rfl⟩ .nil) rfl (noOs_nil _ _ _) rfl ?_)
 rintro _ _ ⟨rfl, rfl⟩
 refine ⟨.tu [.d (di .u32 y4.1), .d (.v (.nilIface))], [.fix 71 [.d (eS4 y4.2.1), .d (di .i64 y4.2.2.1), .d (di .i8 y4.2.2.2)]], rfl, (.cons rfl .nil), ?_⟩
 refine AO.objs (obs' := [.fix 71 [.d (eS4 y4.2.1), .d (di .i64 y4.2.2.1), .d (di .i8 y4.2.2.2)], .frame pv [(0, .ptr 0 0)]]) rfl ?_
 refine AO.op rfl (AOp.move rfl rfl (ltb rfl) rfl ?_)
 first | refine AO.op rfl (AOp.extractD rfl rfl (ltb rfl) rfl rfl ?_) | refine AO.op rfl (AOp.extract rfl rfl (ltb rfl) rfl rfl ?_)
 first | refine AO.op rfl (AOp.extractD rfl rfl (ltb rfl) rfl rfl ?_) | refine AO.op rfl (AOp.extract rfl rfl (ltb rfl) rfl rfl ?_)
 refine AO.op rfl (AOp.assign rfl rfl (ltb rfl) rfl ?_)
 refine AO.op rfl (AOp.assign rfl rfl (ltb rfl) rfl ?_)
 refine AO.nil ?_
 change AC _ _ _ _
 refine AC.seq ?_
 refine AC.seq ?_
 refine AC.region ?_
 refine AO.op rfl (AOp.move rfl rfl (ltb rfl) rfl ?_)
 refine AO.op rfl (AOp.nilNeq rfl rfl (ltb rfl) rfl imeth57 ?_)
 refine AO.nil ?_
 change AC _ _ _ _
 refine AC.condF rfl rfl ?_
 refine AC.skip ?_
 change AC _ _ _ _
 refine AC.seq ?_
 refine AC.seq ?_
 refine AC.region ?_
 refine AO.op rfl (AOp.indexG rfl rfl (ltb rfl) rfl ar89 (by decide) (by decide) ?_)
 refine AO.op rfl (AOp.loadGA (g := 0) (k := 1) (v := .int .i64 (-1)) rfl rfl (ltb rfl) rfl rfl agg3 (by simp [Globs]) (by decide) ?_)
 refine AO.op rfl (AOp.assign rfl rfl (ltb rfl) rfl ?_)
 refine AO.nil ?_
 change AC _ _ _ _
 refine AC.seq ?_
 refine AC.region ?_
 refine AO.op rfl (AOp.move rfl rfl (ltb rfl) rfl ?_)
 refine AO.op rfl (AOp.igeq rfl rfl (ltb rfl) rfl rfl ?_)
 refine AO.op rfl (AOp.move rfl rfl (ltb rfl) rfl ?_)
 refine AO.guardN rfl rfl rfl (ltb rfl) rfl rfl ?_
 refine AO.guardN rfl rfl rfl (ltb rfl) rfl rfl ?_
 refine AO.guardN rfl rfl rfl (ltb rfl) rfl rfl ?_
 refine AO.guardN rfl rfl rfl (ltb rfl) rfl rfl ?_
 refine AO.op rfl (AOp.pickN rfl rfl (ltb rfl) rfl rfl rfl ?_)
 refine AO.nil ?_
 change AC _ _ _ _
 refine AC.condF rfl rfl ?_
 refine AC.skip ?_
 change AC _ _ _ _
 refine AC.seq ?_
 refine AC.region ?_
 refine AO.op rfl (AOp.move rfl rfl (ltb rfl) rfl ?_)
 refine AO.op rfl (AOp.i2i rfl rfl (ltb rfl) rfl Tryd.underlying43 Tryd.underlying3 rfl ?_)
 refine AO.op rfl (AOp.move rfl rfl (ltb rfl) rfl ?_)
 obtain ⟨q7, h0⟩ := need_elim h0
 refine AO.op rfl (AOp.imul rfl rfl (ltb rfl) rfl rfl rfl q7.1 q7.2 ?_)
 obtain ⟨q8, h0⟩ := need_elim h0
 refine AO.op rfl (AOp.makeL (f := fun z => SV.d (keS0 z)) (z0 := (0 : Nat)) rfl rfl (ltb rfl) rfl rfl el24 info63 rfl rfl (by decide) q8.1 q8.2 rfl ?_)
 refine AO.op rfl (AOp.assign rfl rfl (ltb rfl) rfl ?_)
 refine AO.nil ?_
 change AC _ _ _ _
 refine AC.seq ?_
 refine AC.seq ?_
 refine AC.region ?_
 refine AO.op rfl (AOp.move rfl rfl (ltb rfl) rfl ?_)
 refine AO.op rfl (AOp.move rfl rfl (ltb rfl) rfl ?_)
 refine AO.op rfl (AOp.move rfl rfl (ltb rfl) rfl ?_)
 obtain ⟨y9, q10, h0⟩ := bind_elim h0
 rcases y9 with y11 | y12
 ·replace h0 := selL h0
  refine AO.op rfl (AOp.callH (ys := [.ifc 54 (.ptr 0 0), .ifc 94 (.d (e_TBinary_bigEndian TBinary_bigEndian.mk)), .sl 1 1 0 ((((IntKind.i64.wrap y4.1) * a1)).toNat) ((((IntKind.i64.wrap y4.1) * a1)).toNat)]) (hs := [0, 2]) (pins := [0, 1]) (unp := []) (pre := [.fix 71 [.d (eS4 y4.2.1), .d (di .i64 y4.2.2.1), .d (di .i8 y4.2.2.2)], .fix 63 (List.map (fun z => SV.d (keS0 z)) (List.replicate (((IntKind.i64.wrap y4.1) * a1)).toNat (0 : Nat)))]) (EntersS.call (by kernel_rfl) rfl rfl) (wh_ReadFloatArray_bigEndian F TBinary_bigEndian.mk ((((IntKind.i64.wrap y4.1) * a1)).toNat) y4.2.1 y4.2.2.1 y4.2.2.2 (List.replicate (((IntKind.i64.wrap y4.1) * a1)).toNat (0 : Nat)) _ q10) (ltb rfl) (.cons (SVLe.refl _) (.cons (SVLe.refl _) (.cons (SVLe.refl _) .nil))) rfl rfl rfl (.cons rfl (.cons (ren_fixl fun _ => rfl) .nil)) (.cons ⟨rfl, rfl⟩ (.cons (unders_fixl fun _ => rfl) .nil)) rfl (noOs_nil _ _ _) rfl ?_)
  rintro _ _ ⟨t13_0, rfl, rfl⟩
  refine ⟨.ifc t13_0 (.any), [.fix 71 [.d (eS4 y11.1), .d (di .i64 y11.2.1), .d (di .i8 y11.2.2.1)], .fix 63 (List.map (fun z => SV.d (keS0 z)) y11.2.2.2)], rfl, (.cons rfl (.cons (ren_fixl fun _ => rfl) .nil)), ?_⟩
  refine AO.objs (obs' := [.fix 71 [.d (eS4 y11.1), .d (di .i64 y11.2.1), .d (di .i8 y11.2.2.1)], .frame pv [(0, .ptr 0 0)], .fix 63 (List.map (fun z => SV.d (keS0 z)) y11.2.2.2)]) rfl ?_
  refine AO.op rfl (AOp.assign rfl rfl (ltb rfl) rfl ?_)
  refine AO.nil ?_
  change AC _ _ _ _
  refine AC.seq ?_
  refine AC.region ?_
  refine AO.op rfl (AOp.move rfl rfl (ltb rfl) rfl ?_)
  refine AO.op rfl (AOp.ifcNeq rfl rfl (ltb rfl) rfl rfl imeth57 ?_)
  refine AO.nil ?_
  change AC _ _ _ _
  refine AC.condT rfl rfl ?_
  refine AC.seq ?_
  refine AC.region ?_
  refine AO.op rfl (AOp.move rfl rfl (ltb rfl) rfl ?_)
  refine AO.op rfl (AOp.assign rfl rfl (ltb rfl) rfl ?_)
  refine AO.op rfl (AOp.assign rfl rfl (ltb rfl) rfl ?_)
  refine AO.nil ?_
  change AC _ _ _ _
  refine AC.sub 6 rfl (SVLe.nil 1) ?_
  obtain rfl := Option.some.inj h0
  refine AC.ret ?_
  change RetH _ _ _ _ _ _ .ret _
  refine reth (post := [.fix 71 [.d (eS4 y11.1), .d (di .i64 y11.2.1), .d (di .i8 y11.2.2.1)]]) rfl rfl rfl rfl rfl ?_
  exact ⟨_, rfl, rfl⟩
 replace h0 := selR h0
 refine AO.op rfl (AOp.callH (ys := [.ifc 54 (.ptr 0 0), .ifc 94 (.d (e_TBinary_bigEndian TBinary_bigEndian.mk)), .sl 1 1 0 ((((IntKind.i64.wrap y4.1) * a1)).toNat) ((((IntKind.i64.wrap y4.1) * a1)).toNat)]) (hs := [0, 2]) (pins := [0, 1]) (unp := []) (pre := [.fix 71 [.d (eS4 y4.2.1), .d (di .i64 y4.2.2.1), .d (di .i8 y4.2.2.2)], .fix 63 (List.map (fun z => SV.d (keS0 z)) (List.replicate (((IntKind.i64.wrap y4.1) * a1)).toNat (0 : Nat)))]) (EntersS.call (by kernel_rfl) rfl rfl) (wh_ReadFloatArray_bigEndian F TBinary_bigEndian.mk ((((IntKind.i64.wrap y4.1) * a1)).toNat) y4.2.1 y4.2.2.1 y4.2.2.2 (List.replicate (((IntKind.i64.wrap y4.1) * a1)).toNat (0 : Nat)) _ q10) (ltb rfl) (.cons (SVLe.refl _) (.cons (SVLe.refl _) (.cons (SVLe.refl _) .nil))) rfl rfl rfl (.cons rfl (.cons (ren_fixl fun _ => rfl) .nil)) (.cons ⟨rfl, rfl⟩ (.cons (unders_fixl fun _ => rfl) .nil)) rfl (noOs_nil _ _ _) rfl ?_)
 rintro _ _ ⟨rfl, rfl⟩
 refine ⟨.d (.v (.nilIface)), [.fix 71 [.d (eS4 y12.1), .d (di .i64 y12.2.1), .d (di .i8 y12.2.2.1)], .fix 63 (List.map (fun z => SV.d (keS0 z)) y12.2.2.2)], rfl, (.cons rfl (.cons (ren_fixl fun _ => rfl) .nil)), ?_⟩
 refine AO.objs (obs' := [.fix 71 [.d (eS4 y12.1), .d (di .i64 y12.2.1), .d (di .i8 y12.2.2.1)], .frame pv [(0, .ptr 0 0)], .fix 63 (List.map (fun z => SV.d (keS0 z)) y12.2.2.2)]) rfl ?_
 refine AO.op rfl (AOp.assign rfl rfl (ltb rfl) rfl ?_)
 refine AO.nil ?_
 change AC _ _ _ _
 refine AC.seq ?_
 refine AC.region ?_
 refine AO.op rfl (AOp.move rfl rfl (ltb rfl) rfl ?_)
 refine AO.op rfl (AOp.nilNeq rfl rfl (ltb rfl) rfl imeth57 ?_)
 refine AO.nil ?_
 change AC _ _ _ _
 refine AC.condF rfl rfl ?_
 refine AC.skip ?_
 change AC _ _ _ _
 refine AC.seq ?_
 refine AC.region ?_
 refine AO.op rfl (AOp.move rfl rfl (ltb rfl) rfl ?_)
 refine AO.op rfl (AOp.assign rfl rfl (ltb rfl) rfl ?_)
 refine AO.op rfl (AOp.assign rfl rfl (ltb rfl) rfl ?_)
 refine AO.nil ?_
 change AC _ _ _ _
 obtain ⟨q15, h0⟩ := need_elim h0
 refine AC.freezeF (ds := (List.map keS0 y12.2.2.2)) 6 2 rfl rfl rfl (by rw [List.map_map]; rfl) (lenq q15 (len1 _ _)) (Nat.le_refl _) ?_
 obtain rfl := Option.some.inj h0
 refine AC.ret ?_
 change RetH _ _ _ _ _ _ .ret _
 refine reth (post := [.fix 71 [.d (eS4 y12.1), .d (di .i64 y12.2.1), .d (di .i8 y12.2.2.1)]]) rfl rfl rfl rfl rfl ?_
 exact ⟨rfl, rfl⟩

def RH_ReadFlatCoords2_bigEndian : (Sum ((List Nat) × (List Int) × (List Int) × Int × Int) ((List Nat) × (List Int) × (List Int) × Int × Int)) → SV → List Ob → Prop
 | .inl z => fun r post => ∃ t0 : Nat, r = .tu [.d (eS0 z.1), .d (eS1 z.2.1), .ifc t0 (.any)] ∧ post = [.fix 71 [.d (eS4 z.2.2.1), .d (di .i64 z.2.2.2.1), .d (di .i8 z.2.2.2.2)]]
 | .inr z => fun r post => r = .tu [.d (eS0 z.1), .d (eS1 z.2.1), .d (.v (.nilIface))] ∧ post = [.fix 71 [.d (eS4 z.2.2.1), .d (di .i64 z.2.2.2.1), .d (di .i8 z.2.2.2.2)]]
set_option maxRecDepth 100000 in
set_option maxHeartbeats 4000000 in
/-- pub-orthodrome/pub/gogeom/encoding/wkbcommon.ReadFlatCoords2 -/
theorem wh_ReadFlatCoords2_bigEndian (F : Nat) (a0 : TBinary_bigEndian) (a1 : Int) (b0 : (List Int)) (b1 : Int) (b2 : Int) (r0 : (Sum ((List Nat) × (List Int) × (List Int) × Int × Int) ((List Nat) × (List Int) × (List Int) × Int × Int))) (h0 : p_ReadFlatCoords2_bigEndian F a0 a1 b0 b1 b2 = some r0) : FnH Tryd.prog 31 [.ifc 54 (.ptr 0 0), .ifc 94 (.d (e_TBinary_bigEndian TBinary_bigEndian.mk)), .d (di .i64 a1)] [.fix 71 [.d (eS4 b0), .d (di .i64 b1), .d (di .i8 b2)]] [0] (RH_ReadFlatCoords2_bigEndian r0) := by
 refine FnH.of (by kernel_rfl) Tryd.func31 rfl Tryd.ntmps31 rfl (leb rfl) fun W ok may pv => ?_
 unfold p_ReadFlatCoords2_bigEndian at h0
 refine AC.seq ?_
 refine AC.region ?_
 refine AO.op rfl (AOp.assign rfl rfl (ltb rfl) rfl ?_)
 refine AO.op rfl (AOp.assign rfl rfl (ltb rfl) rfl ?_)
 refine AO.op rfl (AOp.assign rfl rfl (ltb rfl) rfl ?_)
 refine AO.nil ?_
 change AC _ _ _ _
 refine AC.seq ?_
 refine AC.region ?_
 refine AO.op rfl (AOp.move rfl rfl (ltb rfl) rfl ?_)
 refine AO.op rfl (AOp.move rfl rfl (ltb rfl) rfl ?_)
 obtain ⟨y1, q2, h0⟩ := bind_elim h0
 rcases y1 with y3 | y4
 ·replace h0 := selL h0
  refine AO.op rfl (AOp.callH (ys := [.ifc 54 (.ptr 0 0), .ifc 94 (.d (e_TBinary_bigEndian TBinary_bigEndian.mk))]) (hs := [0]) (pins := [0]) (unp := []) (pre := [.fix 71 [.d (eS4 b0), .d (di .i64 b1), .d (di .i8 b2)]]) (EntersS.call (by kernel_rfl) rfl rfl) (wh_ReadUInt32_bigEndian TBinary_bigEndian.mk b0 b1 b2 _ q2) (ltb rfl) (.cons (SVLe.refl _) (.cons (SVLe.refl _) .nil)) rfl rfl rfl (.cons rfl .nil) (.cons ⟨rfl, rfl⟩ .nil) rfl (noOs_nil _ _ _) rfl ?_)
  rintro _ _ ⟨t5_0, rfl, rfl⟩
  refine ⟨.tu [.d (di .u32 y3.1), .ifc t5_0 (.any)], [.fix 71 [.d (eS4 y3.2.1), .d (di .i64 y3.2.2.1), .d (di .i8 y3.2.2.2)]], rfl, (.cons rfl .nil), ?_⟩
  refine AO.objs (obs' := [.fix 71 [.d (eS4 y3.2.1), .d (di .i64 y3.2.2.1), .d (di .i8 y3.2.2.2)], .frame pv [(0, .ptr 0 0)]]) rfl ?_
  refine AO.op rfl (AOp.move rfl rfl (ltb rfl) rfl ?_)
  first | refine AO.op rfl (AOp.extractD rfl rfl (ltb rfl) rfl rfl ?_) | refine AO.op rfl (AOp.extract rfl rfl (ltb rfl) rfl rfl ?_)
  first | refine AO.op rfl (AOp.extractD rfl rfl (ltb rfl) rfl rfl ?_) | refine AO.op rfl (AOp.extract rfl rfl (ltb rfl) rfl rfl ?_)
  refine AO.op rfl (AOp.assign rfl rfl (ltb rfl) rfl ?_)
  refine AO.op rfl (AOp.assign rfl rfl (ltb rfl) rfl ?_)
  refine AO.nil ?_
  change AC _ _ _ _
  refine AC.seq ?_
  refine AC.seq ?_
  refine AC.region ?_
  refine AO.op rfl (AOp.move rfl rfl (ltb rfl) rfl ?_)
  refine AO.op rfl (AOp.ifcNeq rfl rfl (ltb rfl) rfl rfl imeth57 ?_)
  refine AO.nil ?_
  change AC _ _ _ _
  refine AC.condT rfl rfl ?_
  refine AC.seq ?_
  refine AC.region ?_
  refine AO.op rfl (AOp.move rfl rfl (ltb rfl) rfl ?_)
  refine AO.op rfl (AOp.assign rfl rfl (ltb rfl) rfl ?_)
  refine AO.op rfl (AOp.assign rfl rfl (ltb rfl) rfl ?_)
  refine AO.op rfl (AOp.assign rfl rfl (ltb rfl) rfl ?_)
  refine AO.nil ?_
  change AC _ _ _ _
  refine AC.sub 6 rfl (SVLe.nil 1) ?_
  refine AC.sub 7 rfl (SVLe.nil 1) ?_
  obtain rfl := Option.some.inj h0
  refine AC.ret ?_
  change RetH _ _ _ _ _ _ .ret _
  refine reth (post := [.fix 71 [.d (eS4 y3.2.1), .d (di .i64 y3.2.2.1), .d (di .i8 y3.2.2.2)]]) rfl rfl rfl rfl rfl ?_
  exact ⟨_, rfl, rfl⟩
 replace h0 := selR h0
 refine AO.op rfl (AOp.callH (ys := [.ifc 54 (.ptr 0 0), .ifc 94 (.d (e_TBinary_bigEndian TBinary_bigEndian.mk))]) (hs := [0]) (pins := [0]) (unp := []) (pre := [.fix 71 [.d (eS4 b0), .d (di .i64 b1), .d (di .i8 b2)]]) (EntersS.call (by kernel_rfl) rfl rfl) (wh_ReadUInt32_bigEndian TBinary_bigEndian.mk b0 b1 b2 _ q2) (ltb rfl) (.cons (SVLe.refl _) (.cons (SVLe.refl _) .nil)) rfl rfl rfl (.cons rfl .nil) (.cons ⟨rfl, rfl⟩ .nil) rfl (noOs_nil _ _ _) rfl ?_)
 rintro _ _ ⟨rfl, rfl⟩
 refine ⟨.tu [.d (di .u32 y4.1), .d (.v (.nilIface))], [.fix 71 [.d (eS4 y4.2.1), .d (di .i64 y4.2.2.1), .d (di .i8 y4.2.2.2)]], rfl, (.cons rfl .nil), ?_⟩
 refine AO.objs (obs' := [.fix 71 [.d (eS4 y4.2.1), .d (di .i64 y4.2.2.1), .d (di .i8 y4.2.2.2)], .frame pv [(0, .ptr 0 0)]]) rfl ?_
 refine AO.op rfl (AOp.move rfl rfl (ltb rfl) rfl ?_)
 first | refine AO.op rfl (AOp.extractD rfl rfl (ltb rfl) rfl rfl ?_) | refine AO.op rfl (AOp.extract rfl rfl (ltb rfl) rfl rfl ?_)
 first | refine AO.op rfl (AOp.extractD rfl rfl (ltb rfl) rfl rfl ?_) | refine AO.op rfl (AOp.extract rfl rfl (ltb rfl) rfl rfl ?_)
 refine AO.op rfl (AOp.assign rfl rfl (ltb rfl) rfl ?_)
 refine AO.op rfl (AOp.assign rfl rfl (ltb rfl) rfl ?_)
 refine AO.nil ?_
 change AC _ _ _ _
 refine AC.seq ?_
 refine AC.seq ?_
 refine AC.region ?_
 refine AO.op rfl (AOp.move rfl rfl (ltb rfl) rfl ?_)
 refine AO.op rfl (AOp.nilNeq rfl rfl (ltb rfl) rfl imeth57 ?_)
 refine AO.nil ?_
 change AC _ _ _ _
 refine AC.condF rfl rfl ?_
 refine AC.skip ?_
 change AC _ _ _ _
 refine AC.seq ?_
 refine AC.seq ?_
 refine AC.region ?_
 refine AO.op rfl (AOp.indexG rfl rfl (ltb rfl) rfl ar89 (by decide) (by decide) ?_)
 refine AO.op rfl (AOp.loadGA (g := 0) (k := 2) (v := .int .i64 (-1)) rfl rfl (ltb rfl) rfl rfl agg3 (by simp [Globs]) (by decide) ?_)
 refine AO.op rfl (AOp.assign rfl rfl (ltb rfl) rfl ?_)
 refine AO.nil ?_
 change AC _ _ _ _
 refine AC.seq ?_
 refine AC.region ?_
 refine AO.op rfl (AOp.move rfl rfl (ltb rfl) rfl ?_)
 refine AO.op rfl (AOp.igeq rfl rfl (ltb rfl) rfl rfl ?_)
 refine AO.op rfl (AOp.move rfl rfl (ltb rfl) rfl ?_)
 refine AO.guardN rfl rfl rfl (ltb rfl) rfl rfl ?_
 refine AO.guardN rfl rfl rfl (ltb rfl) rfl rfl ?_
 refine AO.guardN rfl rfl rfl (ltb rfl) rfl rfl ?_
 refine AO.guardN rfl rfl rfl (ltb rfl) rfl rfl ?_
 refine AO.op rfl (AOp.pickN rfl rfl (ltb rfl) rfl rfl rfl ?_)
 refine AO.nil ?_
 change AC _ _ _ _
 refine AC.condF rfl rfl ?_
 refine AC.skip ?_
 change AC _ _ _ _
 refine AC.seq ?_
 refine AC.region ?_
 refine AO.op rfl (AOp.assign rfl rfl (ltb rfl) rfl ?_)
 refine AO.nil ?_
 change AC _ _ _ _
 refine AC.seq ?_
 refine AC.region ?_
 refine AO.op rfl (AOp.move rfl rfl (ltb rfl) rfl ?_)
 obtain ⟨q7, h0⟩ := need_elim h0
 refine AO.op rfl (AOp.makeL (f := fun z => SV.d (keS1 z)) (z0 := (0 : Int)) rfl rfl (ltb rfl) rfl rfl el31 info3 rfl rfl (by decide) q7.1 q7.2 rfl ?_)
 refine AO.op rfl (AOp.assign rfl rfl (ltb rfl) rfl ?_)
 refine AO.nil ?_
 change AC _ _ _ _
 refine AC.seq ?_
 refine AC.seq ?_
 refine AC.region ?_
 refine AO.op rfl (AOp.move rfl rfl (ltb rfl) rfl ?_)
 refine AO.op rfl (AOp.move rfl rfl (ltb rfl) rfl ?_)
 refine AO.nil ?_
 change AC _ _ _ _
 refine AC.adopt 12 63 1 rfl ?_
 obtain ⟨o8, l9, h0⟩ := bind_elim h0
 refine AC.joinE (V := ((List Int) × Int × Int × (List Int) × (List Nat))) [13] [12] 4 (fun g10 => [(12, .own 3)]) (fun g10 => [.fix 71 [.d (eS4 g10.1), .d (di .i64 g10.2.1), .d (di .i8 g10.2.2.1)], .frame pv [(0, .ptr 0 0)], .fix 3 (List.map (fun z => SV.d (keS1 z)) g10.2.2.2.1), .grow 63 1 (List.map keS0 g10.2.2.2.2)]) (fun g10 => (p_ReadFlatCoords2_bigEndian_k1 y4) g10 = some r0) rfl ?_ ?_
 ·refine AC.block ?_
  refine AC.loopP (V := (Int × (List Int) × Int × Int × (List Int) × (List Nat))) (p_ReadFlatCoords2_bigEndian_l2 a1 F y4) o8 [0, 1, 2, 13, 43] [12, 44] 4 (fun g12 => [(12, .own 3), (44, .d (di .u32 g12.1))]) (fun g12 => [.fix 71 [.d (eS4 g12.2.1), .d (di .i64 g12.2.2.1), .d (di .i8 g12.2.2.2.1)], .frame pv [(0, .ptr 0 0)], .fix 3 (List.map (fun z => SV.d (keS1 z)) g12.2.2.2.2.1), .grow 63 1 (List.map keS0 g12.2.2.2.2.2)]) F ((0 : Int), y4.2.1, y4.2.2.1, y4.2.2.2, (List.replicate (y4.1).toNat (0 : Int)), []) l9 rfl rfl (LeL.refl _) rfl (okU_mk rfl (okU_cons rfl (okU_cons rfl (okU_cons (okU_fixl (fun _ => rfl)) (okU_cons rfl okU_nil))))) ?_
  intro n14 g12 h1
  unfold p_ReadFlatCoords2_bigEndian_l2 at h1
  refine AC.seq ?_
  refine AC.region ?_
  refine AO.op rfl (AOp.ilss rfl rfl (ltb rfl) rfl rfl ?_)
  refine AO.nil ?_
  change AC _ _ _ _
  refine AC.seq ?_
  refine AC.cond rfl (fun q15 => ?_) (fun q15 => ?_)
  ·replace h1 := cT h1 q15
   refine AC.skip ?_
   change AC _ _ _ _
   refine AC.seq ?_
   refine AC.block ?_
   refine AC.seq ?_
   refine AC.region ?_
   refine AO.op rfl (AOp.move rfl rfl (ltb rfl) rfl ?_)
   refine AO.op rfl (AOp.assign rfl rfl (ltb rfl) rfl ?_)
   refine AO.nil ?_
   change AC _ _ _ _
   refine AC.seq ?_
   refine AC.region ?_
   refine AO.op rfl (AOp.move rfl rfl (ltb rfl) rfl ?_)
   refine AO.op rfl (AOp.move rfl rfl (ltb rfl) rfl ?_)
   refine AO.op rfl (AOp.move rfl rfl (ltb rfl) rfl ?_)
   obtain ⟨y16, q17, h1⟩ := bind_elim h1
   rcases y16 with y18 | y19
   ·replace h1 := selL h1
    refine AO.op rfl (AOp.callH (ys := [.ifc 54 (.ptr 0 0), .ifc 94 (.d (e_TBinary_bigEndian TBinary_bigEndian.mk)), .d (di .i64 a1)]) (hs := [0]) (pins := [0]) (unp := []) (pre := [.fix 71 [.d (eS4 g12.2.1), .d (di .i64 g12.2.2.1), .d (di .i8 g12.2.2.2.1)]]) (EntersS.call (by kernel_rfl) rfl rfl) (wh_ReadFlatCoords1_bigEndian F TBinary_bigEndian.mk a1 g12.2.1 g12.2.2.1 g12.2.2.2.1 _ q17) (ltb rfl) (.cons (SVLe.refl _) (.cons (SVLe.refl _) (.cons (SVLe.refl _) .nil))) rfl rfl rfl (.cons rfl .nil) (.cons ⟨rfl, rfl⟩ .nil) rfl (noOs_nil _ _ _) rfl ?_)
    rintro _ _ ⟨t20_0, rfl, rfl⟩
    refine ⟨.tu [.d (eS0 y18.1), .ifc t20_0 (.any)], [.fix 71 [.d (eS4 y18.2.1), .d (di .i64 y18.2.2.1), .d (di .i8 y18.2.2.2)]], rfl, (.cons rfl .nil), ?_⟩
    refine AO.objs (obs' := [.fix 71 [.d (eS4 y18.2.1), .d (di .i64 y18.2.2.1), .d (di .i8 y18.2.2.2)], .frame pv [(0, .ptr 0 0)], .fix 3 (List.map (fun z => SV.d (keS1 z)) g12.2.2.2.2.1), .grow 63 1 (List.map keS0 g12.2.2.2.2.2)]) rfl ?_
    refine AO.op rfl (AOp.move rfl rfl (ltb rfl) rfl ?_)
    first | refine AO.op rfl (AOp.extractD rfl rfl (ltb rfl) rfl rfl ?_) | refine AO.op rfl (AOp.extract rfl rfl (ltb rfl) rfl rfl ?_)
    first | refine AO.op rfl (AOp.extractD rfl rfl (ltb rfl) rfl rfl ?_) | refine AO.op rfl (AOp.extract rfl rfl (ltb rfl) rfl rfl ?_)
    refine AO.op rfl (AOp.assign rfl rfl (ltb rfl) rfl ?_)
    refine AO.op rfl (AOp.assign rfl rfl (ltb rfl) rfl ?_)
    refine AO.nil ?_
    change AC _ _ _ _
    refine AC.seq ?_
    refine AC.seq ?_
    refine AC.region ?_
    refine AO.op rfl (AOp.move rfl rfl (ltb rfl) rfl ?_)
    refine AO.op rfl (AOp.ifcNeq rfl rfl (ltb rfl) rfl rfl imeth57 ?_)
    refine AO.nil ?_
    change AC _ _ _ _
    refine AC.condT rfl rfl ?_
    refine AC.seq ?_
    refine AC.region ?_
    refine AO.op rfl (AOp.move rfl rfl (ltb rfl) rfl ?_)
    refine AO.op rfl (AOp.assign rfl rfl (ltb rfl) rfl ?_)
    refine AO.op rfl (AOp.assign rfl rfl (ltb rfl) rfl ?_)
    refine AO.op rfl (AOp.assign rfl rfl (ltb rfl) rfl ?_)
    refine AO.nil ?_
    change AC _ _ _ _
    refine AC.sub 6 rfl (SVLe.nil 1) ?_
    refine AC.sub 7 rfl (SVLe.nil 1) ?_
    obtain rfl := Option.some.inj h1
    replace h0 := aftR h0
    obtain rfl := Option.some.inj h0
    refine AC.ret ?_
    change RetH _ _ _ _ _ _ .ret _
    refine reth (post := [.fix 71 [.d (eS4 y18.2.1), .d (di .i64 y18.2.2.1), .d (di .i8 y18.2.2.2)]]) rfl rfl rfl rfl rfl ?_
    exact ⟨_, rfl, rfl⟩
   replace h1 := selR h1
   refine AO.op rfl (AOp.callH (ys := [.ifc 54 (.ptr 0 0), .ifc 94 (.d (e_TBinary_bigEndian TBinary_bigEndian.mk)), .d (di .i64 a1)]) (hs := [0]) (pins := [0]) (unp := []) (pre := [.fix 71 [.d (eS4 g12.2.1), .d (di .i64 g12.2.2.1), .d (di .i8 g12.2.2.2.1)]]) (EntersS.call (by kernel_rfl) rfl rfl) (wh_ReadFlatCoords1_bigEndian F TBinary_bigEndian.mk a1 g12.2.1 g12.2.2.1 g12.2.2.2.1 _ q17) (ltb rfl) (.cons (SVLe.refl _) (.cons (SVLe.refl _) (.cons (SVLe.refl _) .nil))) rfl rfl rfl (.cons rfl .nil) (.cons ⟨rfl, rfl⟩ .nil) rfl (noOs_nil _ _ _) rfl ?_)
   rintro _ _ ⟨rfl, rfl⟩
   refine ⟨.tu [.d (eS0 y19.1), .d (.v (.nilIface))], [.fix 71 [.d (eS4 y19.2.1), .d (di .i64 y19.2.2.1), .d (di .i8 y19.2.2.2)]], rfl, (.cons rfl .nil), ?_⟩
   refine AO.objs (obs' := [.fix 71 [.d (eS4 y19.2.1), .d (di .i64 y19.2.2.1), .d (di .i8 y19.2.2.2)], .frame pv [(0, .ptr 0 0)], .fix 3 (List.map (fun z => SV.d (keS1 z)) g12.2.2.2.2.1), .grow 63 1 (List.map keS0 g12.2.2.2.2.2)]) rfl ?_
   refine AO.op rfl (AOp.move rfl rfl (ltb rfl) rfl ?_)
   first | refine AO.op rfl (AOp.extractD rfl rfl (ltb rfl) rfl rfl ?_) | refine AO.op rfl (AOp.extract rfl rfl (ltb rfl) rfl rfl ?_)
   first | refine AO.op rfl (AOp.extractD rfl rfl (ltb rfl) rfl rfl ?_) | refine AO.op rfl (AOp.extract rfl rfl (ltb rfl) rfl rfl ?_)
   refine AO.op rfl (AOp.assign rfl rfl (ltb rfl) rfl ?_)
   refine AO.op rfl (AOp.assign rfl rfl (ltb rfl) rfl ?_)
   refine AO.nil ?_
   change AC _ _ _ _
   refine AC.seq ?_
   refine AC.seq ?_
   refine AC.region ?_
   refine AO.op rfl (AOp.move rfl rfl (ltb rfl) rfl ?_)
   refine AO.op rfl (AOp.nilNeq rfl rfl (ltb rfl) rfl imeth57 ?_)
   refine AO.nil ?_
   change AC _ _ _ _
   refine AC.condF rfl rfl ?_
   refine AC.skip ?_
   change AC _ _ _ _
   refine AC.seq ?_
   refine AC.region ?_
   refine AO.op rfl (AOp.move rfl rfl (ltb rfl) rfl ?_)
   refine AO.op rfl (AOp.move rfl rfl (ltb rfl) rfl ?_)
   obtain ⟨q22, h1⟩ := need_elim h1
   refine AO.op rfl (AOp.appendOwn' (p := 3) (n := g12.2.2.2.2.2.length) (m := y19.1.length) (news := (List.map keS0 y19.1)) rfl rfl (ltb rfl) rfl rfl el24 info63 rfl (by decide) rfl (len1 _ _) (len1 _ _) (one1 _ (fun _ => rfl) _) q22 (by decide) (allNo (.cons rfl (.cons rfl (.cons (noO2_fixl fun _ => rfl) (.cons rfl .nil))))) rfl (cat1 _ _ _) ?_)
   refine AO.op rfl (AOp.assign rfl rfl (ltb rfl) rfl ?_)
   refine AO.nil ?_
   change AC _ _ _ _
   refine AC.region ?_
   refine AO.op rfl (AOp.move rfl rfl (ltb rfl) rfl ?_)
   refine AO.op rfl (AOp.move rfl rfl (ltb rfl) rfl ?_)
   refine AO.op rfl (AOp.move rfl rfl (ltb rfl) rfl ?_)
   refine AO.op rfl (AOp.lenOwn (cells := (List.map keS0 (g12.2.2.2.2.2 ++ y19.1))) (n := (g12.2.2.2.2.2 ++ y19.1).length) rfl rfl (ltb rfl) rfl el24 rfl (by decide) (len1 _ _) ?_)
   obtain ⟨q23, h1⟩ := need_elim h1
   refine AO.op rfl (AOp.indexSl rfl rfl (ltb rfl) rfl rfl el31 q23.1 q23.2 ?_)
   obtain ⟨q24, h1⟩ := need_elim h1
   refine AO.op rfl (AOp.storeL (f := fun z => SV.d (keS1 z)) (l := g12.2.2.2.2.1) (i := (g12.1).toNat) (v := (((g12.2.2.2.2.2 ++ y19.1).length : Nat) : Int)) rfl rfl rfl rfl size3 rfl rfl rfl q24 ?_)
   refine AO.nil ?_
   change AC _ _ _ _
   refine AC.region ?_
   obtain ⟨q25, h1⟩ := need_elim h1
   refine AO.op rfl (AOp.iadd rfl rfl (ltb rfl) rfl rfl rfl q25.1 q25.2 ?_)
   refine AO.op rfl (AOp.move rfl rfl (ltb rfl) rfl ?_)
   refine AO.nil ?_
   exact ⟨((g12.1 + (1 : Int)), y19.2.1, y19.2.2.1, y19.2.2.2, (g12.2.2.2.2.1.set (g12.1).toNat (((g12.2.2.2.2.2 ++ y19.1).length : Nat) : Int)), (g12.2.2.2.2.2 ++ y19.1)), _, rfl, (LeL.refl _), rfl, (okU_mk rfl (okU_cons rfl (okU_cons rfl (okU_cons (okU_fixl (fun _ => rfl)) (okU_cons rfl okU_nil))))), h1⟩
  replace h1 := cF h1 q15
  refine AC.exit ?_
  obtain rfl := Option.some.inj h1
  exact ⟨(g12.2.1, g12.2.2.1, g12.2.2.2.1, g12.2.2.2.2.1, g12.2.2.2.2.2), _, rfl, (LeL.refl _), rfl, (okU_mk rfl (okU_cons rfl (okU_cons rfl (okU_cons (okU_fixl (fun _ => rfl)) (okU_cons rfl okU_nil))))), aftL h0⟩
 intro g10 h0
 unfold p_ReadFlatCoords2_bigEndian_k1 at h0
 change AC _ _ _ _
 refine AC.seq ?_
 refine AC.region ?_
 refine AO.op rfl (AOp.move rfl rfl (ltb rfl) rfl ?_)
 refine AO.op rfl (AOp.move rfl rfl (ltb rfl) rfl ?_)
 refine AO.op rfl (AOp.assign rfl rfl (ltb rfl) rfl ?_)
 refine AO.op rfl (AOp.assign rfl rfl (ltb rfl) rfl ?_)
 refine AO.op rfl (AOp.assign rfl rfl (ltb rfl) rfl ?_)
 refine AO.nil ?_
 change AC _ _ _ _
 obtain ⟨q11, h0⟩ := need_elim h0
 refine AC.freezeF (ds := (List.map keS1 g10.2.2.2.1)) 7 2 rfl rfl rfl (by rw [List.map_map]; rfl) (lenq q11 (len1 _ _)) (Nat.le_refl _) ?_
 obtain rfl := Option.some.inj h0
 refine AC.ret ?_
 change RetH _ _ _ _ _ _ .ret _
 refine reth (post := [.fix 71 [.d (eS4 g10.1), .d (di .i64 g10.2.1), .d (di .i8 g10.2.2.1)]]) rfl rfl rfl rfl rfl ?_
 exact ⟨rfl, rfl⟩

set_option maxRecDepth 100000 in
set_option maxHeartbeats 4000000 in
/-- (*bytes.Buffer).Len -/
theorem w_Buffer_Len (a0 : TBytes_Buffer) (r0 : Int) (h0 : p_Buffer_Len a0 = some r0) : FnD Tryd.prog 23 [.pt (c_TBytes_Buffer a0)] (fun r => r = di .i64 r0) := by
 refine FnD.of (by kernel_rfl) Tryd.func23 rfl Tryd.ntmps23 rfl (leb rfl) fun W ok => ?_
 unfold p_Buffer_Len at h0
 refine AC.seq ?_
 refine AC.region ?_
 refine AO.op rfl (AOp.assign rfl rfl (ltb rfl) rfl ?_)
 refine AO.nil ?_
 change AC _ _ _ _
 refine AC.seq ?_
 refine AC.draw 11 mixed (by kernel_rfl) ?_
 refine AD.op [0] rfl (by kernel_rfl) rfl rfl (fun _ _ h => AOp.move rfl rfl (ltb rfl) rfl h) ?_
 refine AD.op [3] rfl (by kernel_rfl) rfl rfl (fun _ _ h => AOp.nilCheck rfl rfl (ltb rfl) rfl rfl h) ?_
 refine AD.op [4] rfl (by kernel_rfl) rfl rfl (fun _ _ h => AOp.fieldAddrPt rfl rfl (ltb rfl) rfl fo71_0 h) ?_
 refine AD.op [5] rfl (by kernel_rfl) rfl rfl (fun _ _ h => AOp.loadEp rfl rfl (ltb rfl) rfl agg22 rfl h) ?_
 refine AD.op [6] rfl (by kernel_rfl) rfl rfl (fun _ _ h => AOp.lenDs (n := a0.buf.length) (cells := (List.map keS4 a0.buf)) rfl rfl (ltb rfl) rfl el22 (by decide) (len1 _ _) h) ?_
 refine AD.op [0] rfl (by kernel_rfl) rfl rfl (fun _ _ h => AOp.move rfl rfl (ltb rfl) rfl h) ?_
 refine AD.op [8] rfl (by kernel_rfl) rfl rfl (fun _ _ h => AOp.nilCheck rfl rfl (ltb rfl) rfl rfl h) ?_
 refine AD.op [9] rfl (by kernel_rfl) rfl rfl (fun _ _ h => AOp.fieldAddrPt rfl rfl (ltb rfl) rfl fo71_1 h) ?_
 refine AD.op [10] rfl (by kernel_rfl) rfl rfl (fun _ _ h => AOp.loadEp rfl rfl (ltb rfl) rfl agg3 rfl h) ?_
 obtain ⟨q1, h0⟩ := need_elim h0
 refine AD.op [7, 11] rfl (by kernel_rfl) rfl rfl (fun _ _ h => AOp.isub rfl rfl (ltb rfl) rfl rfl rfl q1.1 q1.2 h) ?_
 refine AD.op [12] rfl (by kernel_rfl) rfl rfl (fun _ _ h => AOp.assign rfl rfl (ltb rfl) rfl h) ?_
 refine AD.done ?_
 refine AO.nil ?_
 change AC _ _ _ _
 refine AC.ret ?_
 change RetQ _ _ _ .ret _
 obtain rfl := Option.some.inj h0
 refine retq rfl rfl

def RH_ReadUInt32_littleEndian : (Sum (Int × (List Int) × Int × Int) (Int × (List Int) × Int × Int)) → SV → List Ob → Prop
 | .inl z => fun r post => ∃ t0 : Nat, r = .tu [.d (di .u32 z.1), .ifc t0 (.any)] ∧ post = [.fix 71 [.d (eS4 z.2.1), .d (di .i64 z.2.2.1), .d (di .i8 z.2.2.2)]]
 | .inr z => fun r post => r = .tu [.d (di .u32 z.1), .d (.v (.nilIface))] ∧ post = [.fix 71 [.d (eS4 z.2.1), .d (di .i64 z.2.2.1), .d (di .i8 z.2.2.2)]]
set_option maxRecDepth 100000 in
set_option maxHeartbeats 4000000 in
/-- pub-orthodrome/pub/gogeom/encoding/wkbcommon.ReadUInt32 -/
theorem wh_ReadUInt32_littleEndian (a0 : TBinary_bigEndian) (b0 : (List Int)) (b1 : Int) (b2 : Int) (r0 : (Sum (Int × (List Int) × Int × Int) (Int × (List Int) × Int × Int))) (h0 : p_ReadUInt32_littleEndian a0 b0 b1 b2 = some r0) : FnH Tryd.prog 38 [.ifc 54 (.ptr 0 0), .ifc 95 (.d (e_TBinary_bigEndian TBinary_bigEndian.mk))] [.fix 71 [.d (eS4 b0), .d (di .i64 b1), .d (di .i8 b2)]] [0] (RH_ReadUInt32_littleEndian r0) := by
 refine FnH.of (by kernel_rfl) Tryd.func38 rfl Tryd.ntmps38 rfl (leb rfl) fun W ok may pv => ?_
 unfold p_ReadUInt32_littleEndian at h0
 refine AC.seq ?_
 refine AC.region ?_
 refine AO.op rfl (AOp.assign rfl rfl (ltb rfl) rfl ?_)
 refine AO.op rfl (AOp.assign rfl rfl (ltb rfl) rfl ?_)
 refine AO.nil ?_
 change AC _ _ _ _
 refine AC.seq ?_
 refine AC.region ?_
 refine AO.op rfl (AOp.alloc rfl rfl (ltb rfl) zero102 rfl ?_)
 refine AO.nil ?_
 change AC _ _ _ _
 refine AC.seq ?_
 refine AC.seq ?_
 refine AC.region ?_
 refine AO.op rfl (AOp.move rfl rfl (ltb rfl) rfl ?_)
 refine AO.op rfl (AOp.sliceArr rfl rfl (ltb rfl) rfl ar102 ⟨_, _, rfl⟩ ?_)
 obtain ⟨y1, q2, h0⟩ := bind_elim h0
 rcases y1 with y3 | y4
 ·replace h0 := selL h0
  refine AO.op rfl (AOp.callH (ys := [.ifc 54 (.ptr 0 0), .sl 1 1 0 4 4]) (hs := [0, 2]) (pins := [0, 1]) (unp := []) (pre := [.fix 71 [.d (eS4 b0), .d (di .i64 b1), .d (di .i8 b2)], .fix 102 (List.map (fun z => SV.d (keS4 z)) [(0 : Int), (0 : Int), (0 : Int), (0 : Int)])]) (EntersS.call (by kernel_rfl) rfl rfl) (wh_ReadFull_arr 4 b0 b1 b2 [(0 : Int), (0 : Int), (0 : Int), (0 : Int)] _ q2) (ltb rfl) (.cons (SVLe.refl _) (.cons (SVLe.refl _) .nil)) rfl rfl rfl (.cons rfl (.cons (ren_fixl fun _ => rfl) .nil)) (.cons ⟨rfl, rfl⟩ (.cons (unders_fixl fun _ => rfl) .nil)) rfl (noOs_nil _ _ _) rfl ?_)
  rintro _ _ ⟨t5_0, rfl, rfl⟩
  refine ⟨.tu [.d (di .i64 y3.1), .ifc t5_0 (.any)], [.fix 71 [.d (eS4 y3.2.1), .d (di .i64 y3.2.2.1), .d (di .i8 y3.2.2.2.1)], .fix 102 (List.map (fun z => SV.d (keS4 z)) y3.2.2.2.2)], rfl, (.cons rfl (.cons (ren_fixl fun _ => rfl) .nil)), ?_⟩
  refine AO.objs (obs' := [.fix 71 [.d (eS4 y3.2.1), .d (di .i64 y3.2.2.1), .d (di .i8 y3.2.2.2.1)], .frame pv [(0, .ptr 0 0)], .fix 102 (List.map (fun z => SV.d (keS4 z)) y3.2.2.2.2)]) rfl ?_
  refine AO.op rfl (AOp.move rfl rfl (ltb rfl) rfl ?_)
  first | refine AO.op rfl (AOp.extractD rfl rfl (ltb rfl) rfl rfl ?_) | refine AO.op rfl (AOp.extract rfl rfl (ltb rfl) rfl rfl ?_)
  first | refine AO.op rfl (AOp.extractD rfl rfl (ltb rfl) rfl rfl ?_) | refine AO.op rfl (AOp.extract rfl rfl (ltb rfl) rfl rfl ?_)
  refine AO.op rfl (AOp.assign rfl rfl (ltb rfl) rfl ?_)
  refine AO.op rfl (AOp.assign rfl rfl (ltb rfl) rfl ?_)
  refine AO.nil ?_
  change AC _ _ _ _
  refine AC.seq ?_
  refine AC.region ?_
  refine AO.op rfl (AOp.move rfl rfl (ltb rfl) rfl ?_)
  refine AO.op rfl (AOp.ifcNeq rfl rfl (ltb rfl) rfl rfl imeth57 ?_)
  refine AO.nil ?_
  change AC _ _ _ _
  refine AC.condT rfl rfl ?_
  refine AC.seq ?_
  refine AC.region ?_
  refine AO.op rfl (AOp.move rfl rfl (ltb rfl) rfl ?_)
  refine AO.op rfl (AOp.assign rfl rfl (ltb rfl) rfl ?_)
  refine AO.op rfl (AOp.assign rfl rfl (ltb rfl) rfl ?_)
  refine AO.nil ?_
  change AC _ _ _ _
  obtain rfl := Option.some.inj h0
  refine AC.ret ?_
  change RetH _ _ _ _ _ _ .ret _
  refine reth (post := [.fix 71 [.d (eS4 y3.2.1), .d (di .i64 y3.2.2.1), .d (di .i8 y3.2.2.2.1)]]) rfl rfl rfl rfl rfl ?_
  exact ⟨_, rfl, rfl⟩
 replace h0 := selR h0
 refine AO.op rfl (AOp.callH (ys := [.ifc 54 (.ptr 0 0), .sl 1 1 0 4 4]) (hs := [0, 2]) (pins := [0, 1]) (unp := []) (pre := [.fix 71 [.d (eS4 b0), .d (di .i64 b1), .d (di .i8 b2)], .fix 102 (List.map (fun z => SV.d (keS4 z)) [(0 : Int), (0 : Int), (0 : Int), (0 : Int)])]) (EntersS.call (by kernel_rfl) rfl rfl) (wh_ReadFull_arr 4 b0 b1 b2 [(0 : Int), (0 : Int), (0 : Int), (0 : Int)] _ q2) (ltb rfl) (.cons (SVLe.refl _) (.cons (SVLe.refl _) .nil)) rfl rfl rfl (.cons rfl (.cons (ren_fixl fun _ => rfl) .nil)) (.cons ⟨rfl, rfl⟩ (.cons (unders_fixl fun _ => rfl) .nil)) rfl (noOs_nil _ _ _) rfl ?_)
 rintro _ _ ⟨rfl, rfl⟩
 refine ⟨.tu [.d (di .i64 y4.1), .d (.v (.nilIface))], [.fix 71 [.d (eS4 y4.2.1), .d (di .i64 y4.2.2.1), .d (di .i8 y4.2.2.2.1)], .fix 102 (List.map (fun z => SV.d (keS4 z)) y4.2.2.2.2)], rfl, (.cons rfl (.cons (ren_fixl fun _ => rfl) .nil)), ?_⟩
 refine AO.objs (obs' := [.fix 71 [.d (eS4 y4.2.1), .d (di .i64 y4.2.2.1), .d (di .i8 y4.2.2.2.1)], .frame pv [(0, .ptr 0 0)], .fix 102 (List.map (fun z => SV.d (keS4 z)) y4.2.2.2.2)]) rfl ?_
 refine AO.op rfl (AOp.move rfl rfl (ltb rfl) rfl ?_)
 first | refine AO.op rfl (AOp.extractD rfl rfl (ltb rfl) rfl rfl ?_) | refine AO.op rfl (AOp.extract rfl rfl (ltb rfl) rfl rfl ?_)
 first | refine AO.op rfl (AOp.extractD rfl rfl (ltb rfl) rfl rfl ?_) | refine AO.op rfl (AOp.extract rfl rfl (ltb rfl) rfl rfl ?_)
 refine AO.op rfl (AOp.assign rfl rfl (ltb rfl) rfl ?_)
 refine AO.op rfl (AOp.assign rfl rfl (ltb rfl) rfl ?_)
 refine AO.nil ?_
 change AC _ _ _ _
 refine AC.seq ?_
 refine AC.region ?_
 refine AO.op rfl (AOp.move rfl rfl (ltb rfl) rfl ?_)
 refine AO.op rfl (AOp.nilNeq rfl rfl (ltb rfl) rfl imeth57 ?_)
 refine AO.nil ?_
 change AC _ _ _ _
 refine AC.condF rfl rfl ?_
 refine AC.skip ?_
 change AC _ _ _ _
 refine AC.seq ?_
 refine AC.draw 5 mixed (by kernel_rfl) ?_
 refine AD.op [1] rfl (by kernel_rfl) rfl rfl (fun _ _ h => AOp.move rfl rfl (ltb rfl) rfl h) ?_
 refine AD.op [6] rfl (by kernel_rfl) rfl rfl (fun _ _ h => AOp.sliceArr rfl rfl (ltb rfl) rfl ar102 ⟨_, _, rfl⟩ h) ?_
 refine AD.op [18] rfl (by kernel_rfl) rfl rfl (fun _ _ h => AOp.makeMeth rfl rfl (ltb rfl) rfl h) ?_
 refine AD.op [20] rfl (by kernel_rfl) rfl rfl (fun _ _ h => AOp.nilMeth rfl rfl (ltb rfl) rfl rfl nilm95_Uint32 h) ?_
 refine AD.op [18] rfl (by kernel_rfl) rfl rfl (fun _ _ h => AOp.move rfl rfl (ltb rfl) rfl h) ?_
 refine AD.done ?_
 refine AO.op rfl (AOp.inlE [4, 5] (EntersS.meth (by kernel_rfl) rfl rfl rfl meth95_Uint32 rfl rfl) Tryd.func95 rfl Tryd.ntmps95 rfl (ltb rfl) (leb rfl) rfl ?_)
 intro fr7
 refine AC.seq ?_
 refine AC.region ?_
 refine AO.op rfl (AOp.box rfl rfl (ltb rfl) rfl rfl ?_)
 refine AO.op rfl (AOp.assign rfl rfl (ltb rfl) rfl ?_)
 refine AO.nil ?_
 change AC _ _ _ _
 refine AC.seq ?_
 refine AC.region ?_
 refine AO.op rfl (AOp.move rfl rfl (ltb rfl) rfl ?_)
 obtain ⟨q8, h0⟩ := need_elim h0
 refine AO.op rfl (AOp.indexSl rfl rfl (ltb rfl) rfl rfl el22 q8.1 q8.2 ?_)
 obtain ⟨x9, q10, h0⟩ := idx_elim h0
 refine AO.op rfl (AOp.load1 rfl rfl (ltb rfl) rfl agg5 rfl (atO (f := fun z => SV.d (keS4 z)) q10.2) ?_)
 refine AO.nil ?_
 change AC _ _ _ _
 refine AC.seq ?_
 refine AC.draw 23 mixed (by kernel_rfl) ?_
 refine AD.op [1] rfl (by kernel_rfl) rfl rfl (fun _ _ h => AOp.move rfl rfl (ltb rfl) rfl h) ?_
 obtain ⟨q11, h0⟩ := need_elim h0
 refine AD.op [8] rfl (by kernel_rfl) rfl rfl (fun _ _ h => AOp.indexSl rfl rfl (ltb rfl) rfl rfl el22 q11.1 q11.2 h) ?_
 obtain ⟨x12, q13, h0⟩ := idx_elim h0
 refine AD.op [9] rfl (by kernel_rfl) rfl rfl (fun _ _ h => AOp.load1 rfl rfl (ltb rfl) rfl agg5 rfl (atO (f := fun z => SV.d (keS4 z)) q13.2) h) ?_
 refine AD.op [10] rfl (by kernel_rfl) rfl rfl (fun _ _ h => AOp.i2i rfl rfl (ltb rfl) rfl Tryd.underlying5 Tryd.underlying43 rfl h) ?_
 refine AD.op [1] rfl (by kernel_rfl) rfl rfl (fun _ _ h => AOp.move rfl rfl (ltb rfl) rfl h) ?_
 obtain ⟨q14, h0⟩ := need_elim h0
 refine AD.op [12] rfl (by kernel_rfl) rfl rfl (fun _ _ h => AOp.indexSl rfl rfl (ltb rfl) rfl rfl el22 q14.1 q14.2 h) ?_
 obtain ⟨x15, q16, h0⟩ := idx_elim h0
 refine AD.op [13] rfl (by kernel_rfl) rfl rfl (fun _ _ h => AOp.load1 rfl rfl (ltb rfl) rfl agg5 rfl (atO (f := fun z => SV.d (keS4 z)) q16.2) h) ?_
 refine AD.op [14] rfl (by kernel_rfl) rfl rfl (fun _ _ h => AOp.i2i rfl rfl (ltb rfl) rfl Tryd.underlying5 Tryd.underlying43 rfl h) ?_
 refine AD.op [15] rfl (by kernel_rfl) rfl rfl (fun _ _ h => AOp.ishl (n := 8) rfl rfl (ltb rfl) rfl rfl (by decide) rfl h) ?_
 refine AD.op [11, 16] rfl (by kernel_rfl) rfl rfl (fun _ _ h => AOp.ibits (by simp) rfl rfl (ltb rfl) rfl rfl rfl h) ?_
 refine AD.op [1] rfl (by kernel_rfl) rfl rfl (fun _ _ h => AOp.move rfl rfl (ltb rfl) rfl h) ?_
 obtain ⟨q17, h0⟩ := need_elim h0
 refine AD.op [18] rfl (by kernel_rfl) rfl rfl (fun _ _ h => AOp.indexSl rfl rfl (ltb rfl) rfl rfl el22 q17.1 q17.2 h) ?_
 obtain ⟨x18, q19, h0⟩ := idx_elim h0
 refine AD.op [19] rfl (by kernel_rfl) rfl rfl (fun _ _ h => AOp.load1 rfl rfl (ltb rfl) rfl agg5 rfl (atO (f := fun z => SV.d (keS4 z)) q19.2) h) ?_
 refine AD.op [20] rfl (by kernel_rfl) rfl rfl (fun _ _ h => AOp.i2i rfl rfl (ltb rfl) rfl Tryd.underlying5 Tryd.underlying43 rfl h) ?_
 refine AD.op [21] rfl (by kernel_rfl) rfl rfl (fun _ _ h => AOp.ishl (n := 16) rfl rfl (ltb rfl) rfl rfl (by decide) rfl h) ?_
 refine AD.op [17, 22] rfl (by kernel_rfl) rfl rfl (fun _ _ h => AOp.ibits (by simp) rfl rfl (ltb rfl) rfl rfl rfl h) ?_
 refine AD.op [1] rfl (by kernel_rfl) rfl rfl (fun _ _ h => AOp.move rfl rfl (ltb rfl) rfl h) ?_
 obtain ⟨q20, h0⟩ := need_elim h0
 refine AD.op [24] rfl (by kernel_rfl) rfl rfl (fun _ _ h => AOp.indexSl rfl rfl (ltb rfl) rfl rfl el22 q20.1 q20.2 h) ?_
 obtain ⟨x21, q22, h0⟩ := idx_elim h0
 refine AD.op [25] rfl (by kernel_rfl) rfl rfl (fun _ _ h => AOp.load1 rfl rfl (ltb rfl) rfl agg5 rfl (atO (f := fun z => SV.d (keS4 z)) q22.2) h) ?_
 refine AD.op [26] rfl (by kernel_rfl) rfl rfl (fun _ _ h => AOp.i2i rfl rfl (ltb rfl) rfl Tryd.underlying5 Tryd.underlying43 rfl h) ?_
 refine AD.op [27] rfl (by kernel_rfl) rfl rfl (fun _ _ h => AOp.ishl (n := 24) rfl rfl (ltb rfl) rfl rfl (by decide) rfl h) ?_
 refine AD.op [23, 28] rfl (by kernel_rfl) rfl rfl (fun _ _ h => AOp.ibits (by simp) rfl rfl (ltb rfl) rfl rfl rfl h) ?_
 refine AD.op [29] rfl (by kernel_rfl) rfl rfl (fun _ _ h => AOp.assign rfl rfl (ltb rfl) rfl h) ?_
 refine AD.done ?_
 refine AO.nil ?_
 change AC _ _ _ _
 refine AC.ret ?_
 refine inlret (ob' := [.fix 71 [.d (eS4 y4.2.1), .d (di .i64 y4.2.2.1), .d (di .i8 y4.2.2.2.1)], .frame pv [(0, .ptr 0 0)], .fix 102 (List.map (fun z => SV.d (keS4 z)) y4.2.2.2.2), .dead, .fix 95 []]) (e' := [(4, .d (di .u32 (0 : Int))), (5, .d (.v (.nilIface)))]) (r := .d (di .u32 (bits .or .u32 (bits .or .u32 (bits .or .u32 (IntKind.u32.wrap x12) (IntKind.u32.wrap ((IntKind.u32.wrap x15) * 2 ^ 8))) (IntKind.u32.wrap ((IntKind.u32.wrap x18) * 2 ^ 16))) (IntKind.u32.wrap ((IntKind.u32.wrap x21) * 2 ^ 24))))) rfl rfl rfl ?_
 change AO _ _ _ _ _
 refine AO.op rfl (AOp.assign rfl rfl (ltb rfl) rfl ?_)
 refine AO.op rfl (AOp.assign rfl rfl (ltb rfl) rfl ?_)
 refine AO.nil ?_
 change AC _ _ _ _
 obtain rfl := Option.some.inj h0
 refine AC.ret ?_
 change RetH _ _ _ _ _ _ .ret _
 refine reth (post := [.fix 71 [.d (eS4 y4.2.1), .d (di .i64 y4.2.2.1), .d (di .i8 y4.2.2.2.1)]]) rfl rfl rfl rfl rfl ?_
 exact ⟨rfl, rfl⟩

set_option maxRecDepth 100000 in
set_option maxHeartbeats 4000000 in
/-- (encoding/binary.littleEndian).Uint64 -/
theorem w_littleEndian_Uint64 (a0 : TBinary_bigEndian) (a1 : (List Int)) (r0 : Int) (h0 : p_littleEndian_Uint64 a0 a1 = some r0) : FnD Tryd.prog 96 [e_TBinary_bigEndian a0, eS4 a1] (fun r => r = di .u64 r0) := by
 refine FnD.of (by kernel_rfl) Tryd.func96 rfl Tryd.ntmps96 rfl (leb rfl) fun W ok => ?_
 unfold p_littleEndian_Uint64 at h0
 refine AC.seq ?_
 refine AC.region ?_
 refine AO.op rfl (AOp.box rfl rfl (ltb rfl) rfl rfl ?_)
 refine AO.op rfl (AOp.assign rfl rfl (ltb rfl) rfl ?_)
 refine AO.nil ?_
 change AC _ _ _ _
 refine AC.seq ?_
 refine AC.region ?_
 refine AO.op rfl (AOp.move rfl rfl (ltb rfl) rfl ?_)
 obtain ⟨x1, q2, h0⟩ := idx_elim h0
 refine AO.op rfl (AOp.indexDs (cells := (List.map keS4 a1)) rfl rfl (ltb rfl) rfl rfl el22 (by decide) q2.1 (lt1 q2.2) ?_)
 refine AO.op rfl (AOp.loadEp rfl rfl (ltb rfl) rfl agg5 (at1 q2.2) ?_)
 refine AO.nil ?_
 change AC _ _ _ _
 refine AC.seq ?_
 refine AC.draw 47 mixed (by kernel_rfl) ?_
 refine AD.op [1] rfl (by kernel_rfl) rfl rfl (fun _ _ h => AOp.move rfl rfl (ltb rfl) rfl h) ?_
 obtain ⟨x3, q4, h0⟩ := idx_elim h0
 refine AD.op [8] rfl (by kernel_rfl) rfl rfl (fun _ _ h => AOp.indexDs (cells := (List.map keS4 a1)) rfl rfl (ltb rfl) rfl rfl el22 (by decide) q4.1 (lt1 q4.2) h) ?_
 refine AD.op [9] rfl (by kernel_rfl) rfl rfl (fun _ _ h => AOp.loadEp rfl rfl (ltb rfl) rfl agg5 (at1 q4.2) h) ?_
 refine AD.op [10] rfl (by kernel_rfl) rfl rfl (fun _ _ h => AOp.i2i rfl rfl (ltb rfl) rfl Tryd.underlying5 Tryd.underlying64 rfl h) ?_
 refine AD.op [1] rfl (by kernel_rfl) rfl rfl (fun _ _ h => AOp.move rfl rfl (ltb rfl) rfl h) ?_
 obtain ⟨x5, q6, h0⟩ := idx_elim h0
 refine AD.op [12] rfl (by kernel_rfl) rfl rfl (fun _ _ h => AOp.indexDs (cells := (List.map keS4 a1)) rfl rfl (ltb rfl) rfl rfl el22 (by decide) q6.1 (lt1 q6.2) h) ?_
 refine AD.op [13] rfl (by kernel_rfl) rfl rfl (fun _ _ h => AOp.loadEp rfl rfl (ltb rfl) rfl agg5 (at1 q6.2) h) ?_
 refine AD.op [14] rfl (by kernel_rfl) rfl rfl (fun _ _ h => AOp.i2i rfl rfl (ltb rfl) rfl Tryd.underlying5 Tryd.underlying64 rfl h) ?_
 refine AD.op [15] rfl (by kernel_rfl) rfl rfl (fun _ _ h => AOp.ishl (n := 8) rfl rfl (ltb rfl) rfl rfl (by decide) rfl h) ?_
 refine AD.op [11, 16] rfl (by kernel_rfl) rfl rfl (fun _ _ h => AOp.ibits (by simp) rfl rfl (ltb rfl) rfl rfl rfl h) ?_
 refine AD.op [1] rfl (by kernel_rfl) rfl rfl (fun _ _ h => AOp.move rfl rfl (ltb rfl) rfl h) ?_
 obtain ⟨x7, q8, h0⟩ := idx_elim h0
 refine AD.op [18] rfl (by kernel_rfl) rfl rfl (fun _ _ h => AOp.indexDs (cells := (List.map keS4 a1)) rfl rfl (ltb rfl) rfl rfl el22 (by decide) q8.1 (lt1 q8.2) h) ?_
 refine AD.op [19] rfl (by kernel_rfl) rfl rfl (fun _ _ h => AOp.loadEp rfl rfl (ltb rfl) rfl agg5 (at1 q8.2) h) ?_
 refine AD.op [20] rfl (by kernel_rfl) rfl rfl (fun _ _ h => AOp.i2i rfl rfl (ltb rfl) rfl Tryd.underlying5 Tryd.underlying64 rfl h) ?_
 refine AD.op [21] rfl (by kernel_rfl) rfl rfl (fun _ _ h => AOp.ishl (n := 16) rfl rfl (ltb rfl) rfl rfl (by decide) rfl h) ?_
 refine AD.op [17, 22] rfl (by kernel_rfl) rfl rfl (fun _ _ h => AOp.ibits (by simp) rfl rfl (ltb rfl) rfl rfl rfl h) ?_
 refine AD.op [1] rfl (by kernel_rfl) rfl rfl (fun _ _ h => AOp.move rfl rfl (ltb rfl) rfl h) ?_
 obtain ⟨x9, q10, h0⟩ := idx_elim h0
 refine AD.op [24] rfl (by kernel_rfl) rfl rfl (fun _ _ h => AOp.indexDs (cells := (List.map keS4 a1)) rfl rfl (ltb rfl) rfl rfl el22 (by decide) q10.1 (lt1 q10.2) h) ?_
 refine AD.op [25] rfl (by kernel_rfl) rfl rfl (fun _ _ h => AOp.loadEp rfl rfl (ltb rfl) rfl agg5 (at1 q10.2) h) ?_
 refine AD.op [26] rfl (by kernel_rfl) rfl rfl (fun _ _ h => AOp.i2i rfl rfl (ltb rfl) rfl Tryd.underlying5 Tryd.underlying64 rfl h) ?_
 refine AD.op [27] rfl (by kernel_rfl) rfl rfl (fun _ _ h => AOp.ishl (n := 24) rfl rfl (ltb rfl) rfl rfl (by decide) rfl h) ?_
 refine AD.op [23, 28] rfl (by kernel_rfl) rfl rfl (fun _ _ h => AOp.ibits (by simp) rfl rfl (ltb rfl) rfl rfl rfl h) ?_
 refine AD.op [1] rfl (by kernel_rfl) rfl rfl (fun _ _ h => AOp.move rfl rfl (ltb rfl) rfl h) ?_
 obtain ⟨x11, q12, h0⟩ := idx_elim h0
 refine AD.op [30] rfl (by kernel_rfl) rfl rfl (fun _ _ h => AOp.indexDs (cells := (List.map keS4 a1)) rfl rfl (ltb rfl) rfl rfl el22 (by decide) q12.1 (lt1 q12.2) h) ?_
 refine AD.op [31] rfl (by kernel_rfl) rfl rfl (fun _ _ h => AOp.loadEp rfl rfl (ltb rfl) rfl agg5 (at1 q12.2) h) ?_
 refine AD.op [32] rfl (by kernel_rfl) rfl rfl (fun _ _ h => AOp.i2i rfl rfl (ltb rfl) rfl Tryd.underlying5 Tryd.underlying64 rfl h) ?_
 refine AD.op [33] rfl (by kernel_rfl) rfl rfl (fun _ _ h => AOp.ishl (n := 32) rfl rfl (ltb rfl) rfl rfl (by decide) rfl h) ?_
 refine AD.op [29, 34] rfl (by kernel_rfl) rfl rfl (fun _ _ h => AOp.ibits (by simp) rfl rfl (ltb rfl) rfl rfl rfl h) ?_
 refine AD.op [1] rfl (by kernel_rfl) rfl rfl (fun _ _ h => AOp.move rfl rfl (ltb rfl) rfl h) ?_
 obtain ⟨x13, q14, h0⟩ := idx_elim h0
 refine AD.op [36] rfl (by kernel_rfl) rfl rfl (fun _ _ h => AOp.indexDs (cells := (List.map keS4 a1)) rfl rfl (ltb rfl) rfl rfl el22 (by decide) q14.1 (lt1 q14.2) h) ?_
 refine AD.op [37] rfl (by kernel_rfl) rfl rfl (fun _ _ h => AOp.loadEp rfl rfl (ltb rfl) rfl agg5 (at1 q14.2) h) ?_
 refine AD.op [38] rfl (by kernel_rfl) rfl rfl (fun _ _ h => AOp.i2i rfl rfl (ltb rfl) rfl Tryd.underlying5 Tryd.underlying64 rfl h) ?_
 refine AD.op [39] rfl (by kernel_rfl) rfl rfl (fun _ _ h => AOp.ishl (n := 40) rfl rfl (ltb rfl) rfl rfl (by decide) rfl h) ?_
 refine AD.op [35, 40] rfl (by kernel_rfl) rfl rfl (fun _ _ h => AOp.ibits (by simp) rfl rfl (ltb rfl) rfl rfl rfl h) ?_
 refine AD.op [1] rfl (by kernel_rfl) rfl rfl (fun _ _ h => AOp.move rfl rfl (ltb rfl) rfl h) ?_
 obtain ⟨x15, q16, h0⟩ := idx_elim h0
 refine AD.op [42] rfl (by kernel_rfl) rfl rfl (fun _ _ h => AOp.indexDs (cells := (List.map keS4 a1)) rfl rfl (ltb rfl) rfl rfl el22 (by decide) q16.1 (lt1 q16.2) h) ?_
 refine AD.op [43] rfl (by kernel_rfl) rfl rfl (fun _ _ h => AOp.loadEp rfl rfl (ltb rfl) rfl agg5 (at1 q16.2) h) ?_
 refine AD.op [44] rfl (by kernel_rfl) rfl rfl (fun _ _ h => AOp.i2i rfl rfl (ltb rfl) rfl Tryd.underlying5 Tryd.underlying64 rfl h) ?_
 refine AD.op [45] rfl (by kernel_rfl) rfl rfl (fun _ _ h => AOp.ishl (n := 48) rfl rfl (ltb rfl) rfl rfl (by decide) rfl h) ?_
 refine AD.op [41, 46] rfl (by kernel_rfl) rfl rfl (fun _ _ h => AOp.ibits (by simp) rfl rfl (ltb rfl) rfl rfl rfl h) ?_
 refine AD.op [1] rfl (by kernel_rfl) rfl rfl (fun _ _ h => AOp.move rfl rfl (ltb rfl) rfl h) ?_
 obtain ⟨x17, q18, h0⟩ := idx_elim h0
 refine AD.op [48] rfl (by kernel_rfl) rfl rfl (fun _ _ h => AOp.indexDs (cells := (List.map keS4 a1)) rfl rfl (ltb rfl) rfl rfl el22 (by decide) q18.1 (lt1 q18.2) h) ?_
 refine AD.op [49] rfl (by kernel_rfl) rfl rfl (fun _ _ h => AOp.loadEp rfl rfl (ltb rfl) rfl agg5 (at1 q18.2) h) ?_
 refine AD.op [50] rfl (by kernel_rfl) rfl rfl (fun _ _ h => AOp.i2i rfl rfl (ltb rfl) rfl Tryd.underlying5 Tryd.underlying64 rfl h) ?_
 refine AD.op [51] rfl (by kernel_rfl) rfl rfl (fun _ _ h => AOp.ishl (n := 56) rfl rfl (ltb rfl) rfl rfl (by decide) rfl h) ?_
 refine AD.op [47, 52] rfl (by kernel_rfl) rfl rfl (fun _ _ h => AOp.ibits (by simp) rfl rfl (ltb rfl) rfl rfl rfl h) ?_
 refine AD.op [53] rfl (by kernel_rfl) rfl rfl (fun _ _ h => AOp.assign rfl rfl (ltb rfl) rfl h) ?_
 refine AD.done ?_
 refine AO.nil ?_
 change AC _ _ _ _
 refine AC.ret ?_
 change RetQ _ _ _ .ret _
 obtain rfl := Option.some.inj h0
 refine retq rfl rfl

def RH_ReadFloatArray_littleEndian : (Sum ((List Int) × Int × Int × (List Nat)) ((List Int) × Int × Int × (List Nat))) → SV → List Ob → Prop
 | .inl z => fun r post => ∃ t0 : Nat, r = .ifc t0 (.any) ∧ post = [.fix 71 [.d (eS4 z.1), .d (di .i64 z.2.1), .d (di .i8 z.2.2.1)], .fix 63 (List.map (fun z => SV.d (keS0 z)) z.2.2.2)]
 | .inr z => fun r post => r = .d (.v (.nilIface)) ∧ post = [.fix 71 [.d (eS4 z.1), .d (di .i64 z.2.1), .d (di .i8 z.2.2.1)], .fix 63 (List.map (fun z => SV.d (keS0 z)) z.2.2.2)]
set_option maxRecDepth 100000 in
set_option maxHeartbeats 4000000 in
/-- pub-orthodrome/pub/gogeom/encoding/wkbcommon.ReadFloatArray -/
theorem wh_ReadFloatArray_littleEndian (F : Nat) (a0 : TBinary_bigEndian) (a1 : Nat) (b0 : (List Int)) (b1 : Int) (b2 : Int) (b3 : (List Nat)) (r0 : (Sum ((List Int) × Int × Int × (List Nat)) ((List Int) × Int × Int × (List Nat)))) (h0 : p_ReadFloatArray_littleEndian F a0 a1 b0 b1 b2 b3 = some r0) : FnH Tryd.prog 39 [.ifc 54 (.ptr 0 0), .ifc 95 (.d (e_TBinary_bigEndian TBinary_bigEndian.mk)), .sl 1 1 0 a1 a1] [.fix 71 [.d (eS4 b0), .d (di .i64 b1), .d (di .i8 b2)], .fix 63 (List.map (fun z => SV.d (keS0 z)) b3)] [0, 1] (RH_ReadFloatArray_littleEndian r0) := by
 refine FnH.of (by kernel_rfl) Tryd.func39 rfl Tryd.ntmps39 rfl (leb rfl) fun W ok may pv => ?_
 unfold p_ReadFloatArray_littleEndian at h0
 refine AC.seq ?_
 refine AC.region ?_
 refine AO.op rfl (AOp.assign rfl rfl (ltb rfl) rfl ?_)
 refine AO.nil ?_
 change AC _ _ _ _
 refine AC.seq ?_
 refine AC.region ?_
 refine AO.op rfl (AOp.move rfl rfl (ltb rfl) rfl ?_)
 refine AO.op rfl (AOp.lenSl rfl rfl (ltb rfl) rfl el24 ?_)
 obtain ⟨q1, h0⟩ := need_elim h0
 refine AO.op rfl (AOp.imul rfl rfl (ltb rfl) rfl rfl rfl q1.1 q1.2 ?_)
 obtain ⟨q2, h0⟩ := need_elim h0
 refine AO.op rfl (AOp.makeL (f := fun z => SV.d (keS4 z)) (z0 := (0 : Int)) rfl rfl (ltb rfl) rfl rfl el22 info5 rfl rfl (by decide) q2.1 q2.2 rfl ?_)
 refine AO.op rfl (AOp.assign rfl rfl (ltb rfl) rfl ?_)
 refine AO.nil ?_
 change AC _ _ _ _
 refine AC.seq ?_
 refine AC.seq ?_
 refine AC.region ?_
 refine AO.op rfl (AOp.move rfl rfl (ltb rfl) rfl ?_)
 refine AO.op rfl (AOp.move rfl rfl (ltb rfl) rfl ?_)
 obtain ⟨y3, q4, h0⟩ := bind_elim h0
 rcases y3 with y5 | y6
 ·replace h0 := selL h0
  refine AO.op rfl (AOp.callH (ys := [.ifc 54 (.ptr 0 0), .sl 1 1 0 ((((8 : Int) * ((a1 : Nat) : Int))).toNat) ((((8 : Int) * ((a1 : Nat) : Int))).toNat)]) (hs := [0, 3]) (pins := [0, 1]) (unp := []) (pre := [.fix 71 [.d (eS4 b0), .d (di .i64 b1), .d (di .i8 b2)], .fix 5 (List.map (fun z => SV.d (keS4 z)) (List.replicate (((8 : Int) * ((a1 : Nat) : Int))).toNat (0 : Int)))]) (EntersS.call (by kernel_rfl) rfl rfl) (wh_ReadFull ((((8 : Int) * ((a1 : Nat) : Int))).toNat) b0 b1 b2 (List.replicate (((8 : Int) * ((a1 : Nat) : Int))).toNat (0 : Int)) _ q4) (ltb rfl) (.cons (SVLe.refl _) (.cons (SVLe.refl _) .nil)) rfl rfl rfl (.cons rfl (.cons (ren_fixl fun _ => rfl) .nil)) (.cons ⟨rfl, rfl⟩ (.cons (unders_fixl fun _ => rfl) .nil)) rfl (noOs_nil _ _ _) rfl ?_)
  rintro _ _ ⟨t7_0, rfl, rfl⟩
  refine ⟨.tu [.d (di .i64 y5.1), .ifc t7_0 (.any)], [.fix 71 [.d (eS4 y5.2.1), .d (di .i64 y5.2.2.1), .d (di .i8 y5.2.2.2.1)], .fix 5 (List.map (fun z => SV.d (keS4 z)) y5.2.2.2.2)], rfl, (.cons rfl (.cons (ren_fixl fun _ => rfl) .nil)), ?_⟩
  refine AO.objs (obs' := [.fix 71 [.d (eS4 y5.2.1), .d (di .i64 y5.2.2.1), .d (di .i8 y5.2.2.2.1)], .fix 63 (List.map (fun z => SV.d (keS0 z)) b3), .frame pv [(0, .ptr 0 0), (1, .ptr 1 0)], .fix 5 (List.map (fun z => SV.d (keS4 z)) y5.2.2.2.2)]) rfl ?_
  refine AO.op rfl (AOp.move rfl rfl (ltb rfl) rfl ?_)
  first | refine AO.op rfl (AOp.extractD rfl rfl (ltb rfl) rfl rfl ?_) | refine AO.op rfl (AOp.extract rfl rfl (ltb rfl) rfl rfl ?_)
  first | refine AO.op rfl (AOp.extractD rfl rfl (ltb rfl) rfl rfl ?_) | refine AO.op rfl (AOp.extract rfl rfl (ltb rfl) rfl rfl ?_)
  refine AO.op rfl (AOp.assign rfl rfl (ltb rfl) rfl ?_)
  refine AO.op rfl (AOp.assign rfl rfl (ltb rfl) rfl ?_)
  refine AO.nil ?_
  change AC _ _ _ _
  refine AC.seq ?_
  refine AC.region ?_
  refine AO.op rfl (AOp.move rfl rfl (ltb rfl) rfl ?_)
  refine AO.op rfl (AOp.ifcNeq rfl rfl (ltb rfl) rfl rfl imeth57 ?_)
  refine AO.nil ?_
  change AC _ _ _ _
  refine AC.condT rfl rfl ?_
  refine AC.seq ?_
  refine AC.region ?_
  refine AO.op rfl (AOp.move rfl rfl (ltb rfl) rfl ?_)
  refine AO.op rfl (AOp.assign rfl rfl (ltb rfl) rfl ?_)
  refine AO.nil ?_
  change AC _ _ _ _
  obtain rfl := Option.some.inj h0
  refine AC.ret ?_
  change RetH _ _ _ _ _ _ .ret _
  refine reth (post := [.fix 71 [.d (eS4 y5.2.1), .d (di .i64 y5.2.2.1), .d (di .i8 y5.2.2.2.1)], .fix 63 (List.map (fun z => SV.d (keS0 z)) b3)]) rfl rfl rfl rfl (under_all (.cons ⟨rfl, rfl⟩ (.cons (unders_fixl fun _ => rfl) .nil))) ?_
  exact ⟨_, rfl, rfl⟩
 replace h0 := selR h0
 refine AO.op rfl (AOp.callH (ys := [.ifc 54 (.ptr 0 0), .sl 1 1 0 ((((8 : Int) * ((a1 : Nat) : Int))).toNat) ((((8 : Int) * ((a1 : Nat) : Int))).toNat)]) (hs := [0, 3]) (pins := [0, 1]) (unp := []) (pre := [.fix 71 [.d (eS4 b0), .d (di .i64 b1), .d (di .i8 b2)], .fix 5 (List.map (fun z => SV.d (keS4 z)) (List.replicate (((8 : Int) * ((a1 : Nat) : Int))).toNat (0 : Int)))]) (EntersS.call (by kernel_rfl) rfl rfl) (wh_ReadFull ((((8 : Int) * ((a1 : Nat) : Int))).toNat) b0 b1 b2 (List.replicate (((8 : Int) * ((a1 : Nat) : Int))).toNat (0 : Int)) _ q4) (ltb rfl) (.cons (SVLe.refl _) (.cons (SVLe.refl _) .nil)) rfl rfl rfl (.cons rfl (.cons (ren_fixl fun _ => rfl) .nil)) (.cons ⟨rfl, rfl⟩ (.cons (unders_fixl fun _ => rfl) .nil)) rfl (noOs_nil _ _ _) rfl ?_)
 rintro _ _ ⟨rfl, rfl⟩
 refine ⟨.tu [.d (di .i64 y6.1), .d (.v (.nilIface))], [.fix 71 [.d (eS4 y6.2.1), .d (di .i64 y6.2.2.1), .d (di .i8 y6.2.2.2.1)], .fix 5 (List.map (fun z => SV.d (keS4 z)) y6.2.2.2.2)], rfl, (.cons rfl (.cons (ren_fixl fun _ => rfl) .nil)), ?_⟩
 refine AO.objs (obs' := [.fix 71 [.d (eS4 y6.2.1), .d (di .i64 y6.2.2.1), .d (di .i8 y6.2.2.2.1)], .fix 63 (List.map (fun z => SV.d (keS0 z)) b3), .frame pv [(0, .ptr 0 0), (1, .ptr 1 0)], .fix 5 (List.map (fun z => SV.d (keS4 z)) y6.2.2.2.2)]) rfl ?_
 refine AO.op rfl (AOp.move rfl rfl (ltb rfl) rfl ?_)
 first | refine AO.op rfl (AOp.extractD rfl rfl (ltb rfl) rfl rfl ?_) | refine AO.op rfl (AOp.extract rfl rfl (ltb rfl) rfl rfl ?_)
 first | refine AO.op rfl (AOp.extractD rfl rfl (ltb rfl) rfl rfl ?_) | refine AO.op rfl (AOp.extract rfl rfl (ltb rfl) rfl rfl ?_)
 refine AO.op rfl (AOp.assign rfl rfl (ltb rfl) rfl ?_)
 refine AO.op rfl (AOp.assign rfl rfl (ltb rfl) rfl ?_)
 refine AO.nil ?_
 change AC _ _ _ _
 refine AC.seq ?_
 refine AC.region ?_
 refine AO.op rfl (AOp.move rfl rfl (ltb rfl) rfl ?_)
 refine AO.op rfl (AOp.nilNeq rfl rfl (ltb rfl) rfl imeth57 ?_)
 refine AO.nil ?_
 change AC _ _ _ _
 refine AC.condF rfl rfl ?_
 refine AC.skip ?_
 change AC _ _ _ _
 refine AC.seq ?_
 refine AC.seq ?_
 refine AC.region ?_
 refine AO.op rfl (AOp.move rfl rfl (ltb rfl) rfl ?_)
 refine AO.op rfl (AOp.lenSl rfl rfl (ltb rfl) rfl el24 ?_)
 refine AO.op rfl (AOp.move rfl rfl (ltb rfl) rfl ?_)
 refine AO.nil ?_
 change AC _ _ _ _
 obtain ⟨q9, h0⟩ := need_elim h0
 refine AC.freezeF (ds := (List.map keS4 y6.2.2.2.2)) 7 3 rfl rfl rfl (by rw [List.map_map]; rfl) (lenq q9 (len1 _ _)) (Nat.le_refl _) ?_
 obtain ⟨o10, l11, h0⟩ := bind_elim h0
 refine AC.joinE (V := (List Nat)) [] [] 4 (fun g12 => []) (fun g12 => [.fix 71 [.d (eS4 y6.2.1), .d (di .i64 y6.2.2.1), .d (di .i8 y6.2.2.2.1)], .fix 63 (List.map (fun z => SV.d (keS0 z)) g12), .frame pv [(0, .ptr 0 0), (1, .ptr 1 0)], .dead]) (fun g12 => (p_ReadFloatArray_littleEndian_k1 y6) g12 = some r0) rfl ?_ ?_
 ·refine AC.block ?_
  refine AC.loopP (V := (Int × (List Nat))) (p_ReadFloatArray_littleEndian_l2 a1 y6) o10 [1, 2, 7, 25] [26] 4 (fun g13 => [(26, .d (di .i64 g13.1))]) (fun g13 => [.fix 71 [.d (eS4 y6.2.1), .d (di .i64 y6.2.2.1), .d (di .i8 y6.2.2.2.1)], .fix 63 (List.map (fun z => SV.d (keS0 z)) g13.2), .frame pv [(0, .ptr 0 0), (1, .ptr 1 0)], .dead]) F ((0 : Int), b3) l11 rfl rfl (LeL.refl _) rfl (okU_mk rfl (okU_cons rfl (okU_cons (okU_fixl (fun _ => rfl)) (okU_cons rfl (okU_cons rfl okU_nil))))) ?_
  intro n15 g13 h1
  unfold p_ReadFloatArray_littleEndian_l2 at h1
  refine AC.seq ?_
  refine AC.region ?_
  refine AO.op rfl (AOp.ilss rfl rfl (ltb rfl) rfl rfl ?_)
  refine AO.nil ?_
  change AC _ _ _ _
  refine AC.seq ?_
  refine AC.cond rfl (fun q16 => ?_) (fun q16 => ?_)
  ·replace h1 := cT h1 q16
   refine AC.skip ?_
   change AC _ _ _ _
   refine AC.seq ?_
   refine AC.block ?_
   refine AC.seq ?_
   refine AC.region ?_
   refine AO.op rfl (AOp.move rfl rfl (ltb rfl) rfl ?_)
   refine AO.op rfl (AOp.assign rfl rfl (ltb rfl) rfl ?_)
   refine AO.nil ?_
   change AC _ _ _ _
   refine AC.region ?_
   refine AO.op rfl (AOp.move rfl rfl (ltb rfl) rfl ?_)
   refine AO.op rfl (AOp.move rfl rfl (ltb rfl) rfl ?_)
   refine AO.op rfl (AOp.move rfl rfl (ltb rfl) rfl ?_)
   refine AO.op rfl (AOp.move rfl rfl (ltb rfl) rfl ?_)
   obtain ⟨q17, h1⟩ := need_elim h1
   refine AO.op rfl (AOp.imul rfl rfl (ltb rfl) rfl rfl rfl q17.1 q17.2 ?_)
   obtain ⟨q18, h1⟩ := need_elim h1
   refine AO.op rfl (AOp.sliceD (cells := (List.map keS4 y6.2.2.2.2)) (n := y6.2.2.2.2.length) (l := (((8 : Int) * g13.1)).toNat) (hh := y6.2.2.2.2.length) rfl rfl (ltb rfl) rfl (.inr ⟨_, _, _, rfl, rfl, q18.1.1, rfl⟩) (.inl ⟨rfl, rfl⟩) el22 (by decide) (len1 _ _) q18.2.1 q18.2.2 (sub1 _ _ _ _) ?_)
   refine AO.op rfl (AOp.move rfl rfl (ltb rfl) rfl ?_)
   refine AO.op rfl (AOp.inl [1, 2, 7, 25, 26, 29, 30] (by kernel_rfl) Tryd.func46 rfl Tryd.ntmps46 rfl rfl (ltb rfl) rfl (leb rfl) rfl ?_)
   intro fr19
   refine AC.seq ?_
   refine AC.region ?_
   refine AO.op rfl (AOp.assign rfl rfl (ltb rfl) rfl ?_)
   refine AO.nil ?_
   change AC _ _ _ _
   refine AC.seq ?_
   refine AC.region ?_
   refine AO.op rfl (AOp.move rfl rfl (ltb rfl) rfl ?_)
   refine AO.op rfl (AOp.move rfl rfl (ltb rfl) rfl ?_)
   obtain ⟨y20, q21, h1⟩ := bind_elim h1
   refine AO.op rfl (AOp.callE (EntersS.meth (by kernel_rfl) rfl rfl rfl meth95_Uint64 rfl rfl) rfl (ltb rfl) rfl rfl (w_littleEndian_Uint64 TBinary_bigEndian.mk ((y6.2.2.2.2.drop (((8 : Int) * g13.1)).toNat).take (y6.2.2.2.2.length - (((8 : Int) * g13.1)).toNat)) y20 q21) ?_)
   rintro _ rfl
   refine AO.op rfl (AOp.assign rfl rfl (ltb rfl) rfl ?_)
   refine AO.nil ?_
   change AC _ _ _ _
   refine AC.seq ?_
   refine AC.region ?_
   refine AO.op rfl (AOp.move rfl rfl (ltb rfl) rfl ?_)
   obtain ⟨q22, h1⟩ := need_elim h1
   refine AO.op rfl (AOp.callX [.int .u64 (((y20).toNat : Nat) : Int)] rfl rfl (ltb rfl) (by rw [q22]; rfl) (callFromBits ((y20).toNat)) ?_)
   refine AO.op rfl (AOp.assign rfl rfl (ltb rfl) rfl ?_)
   refine AO.nil ?_
   change AC _ _ _ _
   refine AC.ret ?_
   refine inlret (ob' := [.fix 71 [.d (eS4 y6.2.1), .d (di .i64 y6.2.2.1), .d (di .i8 y6.2.2.2.1)], .fix 63 (List.map (fun z => SV.d (keS0 z)) g13.2), .frame pv [(0, .ptr 0 0), (1, .ptr 1 0)], .dead, .dead]) (e' := [(1, .ifc 95 (.d (e_TBinary_bigEndian TBinary_bigEndian.mk))), (2, .sl 1 1 0 a1 a1), (7, .d (eS4 y6.2.2.2.2)), (25, .d (di .i64 ((a1 : Nat) : Int))), (26, .d (di .i64 g13.1)), (29, .sl 1 1 0 a1 a1), (30, .d (di .i64 g13.1))]) (r := .d (dfl ((y20).toNat))) rfl rfl rfl ?_
   change AO _ _ _ _ _
   obtain ⟨q23, h1⟩ := need_elim h1
   refine AO.op rfl (AOp.indexSl rfl rfl (ltb rfl) rfl rfl el24 q23.1 q23.2 ?_)
   obtain ⟨q24, h1⟩ := need_elim h1
   refine AO.op rfl (AOp.storeL (f := fun z => SV.d (keS0 z)) (l := g13.2) (i := (g13.1).toNat) (v := (y20).toNat) rfl rfl rfl rfl size63 rfl rfl rfl q24 ?_)
   refine AO.nil ?_
   change AC _ _ _ _
   refine AC.region ?_
   obtain ⟨q25, h1⟩ := need_elim h1
   refine AO.op rfl (AOp.iadd rfl rfl (ltb rfl) rfl rfl rfl q25.1 q25.2 ?_)
   refine AO.op rfl (AOp.move rfl rfl (ltb rfl) rfl ?_)
   refine AO.nil ?_
   exact ⟨((g13.1 + (1 : Int)), (g13.2.set (g13.1).toNat ((y20).toNat))), _, rfl, (LeL.refl _), rfl, (okU_mk rfl (okU_cons rfl (okU_cons (okU_fixl (fun _ => rfl)) (okU_cons rfl (okU_cons rfl okU_nil))))), h1⟩
  replace h1 := cF h1 q16
  refine AC.exit ?_
  obtain rfl := Option.some.inj h1
  exact ⟨g13.2, _, rfl, (LeL.refl _), rfl, (okU_mk rfl (okU_cons rfl (okU_cons (okU_fixl (fun _ => rfl)) (okU_cons rfl (okU_cons rfl okU_nil))))), aftL h0⟩
 intro g12 h0
 unfold p_ReadFloatArray_littleEndian_k1 at h0
 change AC _ _ _ _
 refine AC.seq ?_
 refine AC.region ?_
 refine AO.op rfl (AOp.assign rfl rfl (ltb rfl) rfl ?_)
 refine AO.nil ?_
 change AC _ _ _ _
 obtain rfl := Option.some.inj h0
 refine AC.ret ?_
 change RetH _ _ _ _ _ _ .ret _
 refine reth (post := [.fix 71 [.d (eS4 y6.2.1), .d (di .i64 y6.2.2.1), .d (di .i8 y6.2.2.2.1)], .fix 63 (List.map (fun z => SV.d (keS0 z)) g12)]) rfl rfl rfl rfl (under_all (.cons ⟨rfl, rfl⟩ (.cons (unders_fixl fun _ => rfl) .nil))) ?_
 exact ⟨rfl, rfl⟩

def RH_ReadFlatCoords1_littleEndian : (Sum ((List Nat) × (List Int) × Int × Int) ((List Nat) × (List Int) × Int × Int)) → SV → List Ob → Prop
 | .inl z => fun r post => ∃ t0 : Nat, r = .tu [.d (eS0 z.1), .ifc t0 (.any)] ∧ post = [.fix 71 [.d (eS4 z.2.1), .d (di .i64 z.2.2.1), .d (di .i8 z.2.2.2)]]
 | .inr z => fun r post => r = .tu [.d (eS0 z.1), .d (.v (.nilIface))] ∧ post = [.fix 71 [.d (eS4 z.2.1), .d (di .i64 z.2.2.1), .d (di .i8 z.2.2.2)]]
set_option maxRecDepth 100000 in
set_option maxHeartbeats 4000000 in
/-- pub-orthodrome/pub/gogeom/encoding/wkbcommon.ReadFlatCoords1 -/
theorem wh_ReadFlatCoords1_littleEndian (F : Nat) (a0 : TBinary_bigEndian) (a1 : Int) (b0 : (List Int)) (b1 : Int) (b2 : Int) (r0 : (Sum ((List Nat) × (List Int) × Int × Int) ((List Nat) × (List Int) × Int × Int))) (h0 : p_ReadFlatCoords1_littleEndian F a0 a1 b0 b1 b2 = some r0) : FnH Tryd.prog 21 [.ifc 54 (.ptr 0 0), .ifc 95 (.d (e_TBinary_bigEndian TBinary_bigEndian.mk)), .d (di .i64 a1)] [.fix 71 [.d (eS4 b0), .d (di .i64 b1), .d (di .i8 b2)]] [0] (RH_ReadFlatCoords1_littleEndian r0) := by
 refine FnH.of (by kernel_rfl) Tryd.func21 rfl Tryd.ntmps21 rfl (leb rfl) fun W ok may pv => ?_
 unfold p_ReadFlatCoords1_littleEndian at h0
 refine AC.seq ?_
 refine AC.region ?_
 refine AO.op rfl (AOp.assign rfl rfl (ltb rfl) rfl ?_)
 refine AO.op rfl (AOp.assign rfl rfl (ltb rfl) rfl ?_)
 refine AO.nil ?_
 change AC _ _ _ _
 refine AC.seq ?_
 refine AC.region ?_
 refine AO.op rfl (AOp.move rfl rfl (ltb rfl) rfl ?_)
 refine AO.op rfl (AOp.move rfl rfl (ltb rfl) rfl ?_)
 obtain ⟨y1, q2, h0⟩ := bind_elim h0
 rcases y1 with y3 | y4
 ·replace h0 := selL h0
  refine AO.op rfl (AOp.callH (ys := [.ifc 54 (.ptr 0 0), .ifc 95 (.d (e_TBinary_bigEndian TBinary_bigEndian.mk))]) (hs := [0]) (pins := [0]) (unp := []) (pre := [.fix 71 [.d (eS4 b0), .d (di .i64 b1), .d (di .i8 b2)]]) (EntersS.call (by kernel_rfl) rfl rfl) (wh_ReadUInt32_littleEndian TBinary_bigEndian.mk b0 b1 b2 _ q2) (ltb rfl) (.cons (SVLe.refl _) (.cons (SVLe.refl _) .nil)) rfl rfl rfl (.cons rfl .nil) (.cons ⟨rfl, rfl⟩ .nil) rfl (noOs_nil _ _ _) rfl ?_)
  rintro _ _ ⟨t5_0, rfl, rfl⟩
  refine ⟨.tu [.d (di .u32 y3.1), .ifc t5_0 (.any)], [.fix 71 [.d (eS4 y3.2.1), .d (di .i64 y3.2.2.1), .d (di .i8 y3.2.2.2)]], rfl, (.cons rfl .nil), ?_⟩
  refine AO.objs (obs' := [.fix 71 [.d (eS4 y3.2.1), .d (di .i64 y3.2.2.1), .d (di .i8 y3.2.2.2)], .frame pv [(0, .ptr 0 0)]]) rfl ?_
  refine AO.op rfl (AOp.move rfl rfl (ltb rfl) rfl ?_)
  first | refine AO.op rfl (AOp.extractD rfl rfl (ltb rfl) rfl rfl ?_) | refine AO.op rfl (AOp.extract rfl rfl (ltb rfl) rfl rfl ?_)
  first | refine AO.op rfl (AOp.extractD rfl rfl (ltb rfl) rfl rfl ?_) | refine AO.op rfl (AOp.extract rfl rfl (ltb rfl) rfl rfl ?_)
  refine AO.op rfl (AOp.assign rfl rfl (ltb rfl) rfl ?_)
  refine AO.op rfl (AOp.assign rfl rfl (ltb rfl) rfl ?_)
  refine AO.nil ?_
  change AC _ _ _ _
  refine AC.seq ?_
  refine AC.seq ?_
  refine AC.region ?_
  refine AO.op rfl (AOp.move rfl rfl (ltb rfl) rfl ?_)
  refine AO.op rfl (AOp.ifcNeq rfl rfl (ltb rfl) rfl rfl imeth57 ?_)
  refine AO.nil ?_
  change AC _ _ _ _
  refine AC.condT rfl rfl ?_
  refine AC.seq ?_
  refine AC.region ?_
  refine AO.op rfl (AOp.move rfl rfl (ltb rfl) rfl ?_)
  refine AO.op rfl (AOp.assign rfl rfl (ltb rfl) rfl ?_)
  refine AO.op rfl (AOp.assign rfl rfl (ltb rfl) rfl ?_)
  refine AO.nil ?_
  change AC _ _ _ _
  refine AC.sub 6 rfl (SVLe.nil 1) ?_
  obtain rfl := Option.some.inj h0
  refine AC.ret ?_
  change RetH _ _ _ _ _ _ .ret _
  refine reth (post := [.fix 71 [.d (eS4 y3.2.1), .d (di .i64 y3.2.2.1), .d (di .i8 y3.2.2.2)]]) rfl rfl rfl rfl rfl ?_
  exact ⟨_, rfl, rfl⟩
 replace h0 := selR h0
 refine AO.op rfl (AOp.callH (ys := [.ifc 54 (.ptr 0 0), .ifc 95 (.d (e_TBinary_bigEndian TBinary_bigEndian.mk))]) (hs := [0]) (pins := [0]) (unp := []) (pre := [.fix 71 [.d (eS4 b0), .d (di .i64 b1), .d (di .i8 b2)]]) (EntersS.call (by kernel_rfl) rfl rfl) (wh_ReadUInt32_littleEndian TBinary_bigEndian.mk b0 b1 b2 _ q2) (ltb rfl) (.cons (SVLe.refl _) (.cons (SVLe.refl _) .nil)) rfl rfl rfl (.cons rfl .nil) (.cons ⟨rfl, rfl⟩ .nil) rfl (noOs_nil _ _ _) rfl ?_)
 rintro _ _ ⟨rfl, rfl⟩
 refine ⟨.tu [.d (di .u32 y4.1), .d (.v (.nilIface))], [.fix 71 [.d (eS4 y4.2.1), .d (di .i64 y4.2.2.1), .d (di .i8 y4.2.2.2)]], rfl, (.cons rfl .nil), ?_⟩
 refine AO.objs (obs' := [.fix 71 [.d (eS4 y4.2.1), .d (di .i64 y4.2.2.1), .d (di .i8 y4.2.2.2)], .frame pv [(0, .ptr 0 0)]]) rfl ?_
 refine AO.op rfl (AOp.move rfl rfl (ltb rfl) rfl ?_)
 first | refine AO.op rfl (AOp.extractD rfl rfl (ltb rfl) rfl rfl ?_) | refine AO.op rfl (AOp.extract rfl rfl (ltb rfl) rfl rfl ?_)
 first | refine AO.op rfl (AOp.extractD rfl rfl (ltb rfl) rfl rfl ?_) | refine AO.op rfl (AOp.extract rfl rfl (ltb rfl) rfl rfl ?_)
 refine AO.op rfl (AOp.assign rfl rfl (ltb rfl) rfl ?_)
 refine AO.op rfl (AOp.assign rfl rfl (ltb rfl) rfl ?_)
 refine AO.nil ?_
 change AC _ _ _ _
 refine AC.seq ?_
 refine AC.seq ?_
 refine AC.region ?_
 refine AO.op rfl (AOp.move rfl rfl (ltb rfl) rfl ?_)
 refine AO.op rfl (AOp.nilNeq rfl rfl (ltb rfl) rfl imeth57 ?_)
 refine AO.nil ?_
 change AC _ _ _ _
 refine AC.condF rfl rfl ?_
 refine AC.skip ?_
 change AC _ _ _ _
 refine AC.seq ?_
 refine AC.seq ?_
 refine AC.region ?_
 refine AO.op rfl (AOp.indexG rfl rfl (ltb rfl) rfl ar89 (by decide) (by decide) ?_)
 refine AO.op rfl (AOp.loadGA (g := 0) (k := 1) (v := .int .i64 (-1)) rfl rfl (ltb rfl) rfl rfl agg3 (by simp [Globs]) (by decide) ?_)
 refine AO.op rfl (AOp.assign rfl rfl (ltb rfl) rfl ?_)
 refine AO.nil ?_
 change AC _ _ _ _
 refine AC.seq ?_
 refine AC.region ?_
 refine AO.op rfl (AOp.move rfl rfl (ltb rfl) rfl ?_)
 refine AO.op rfl (AOp.igeq rfl rfl (ltb rfl) rfl rfl ?_)
 refine AO.op rfl (AOp.move rfl rfl (ltb rfl) rfl ?_)
 refine AO.guardN rfl rfl rfl (ltb rfl) rfl rfl ?_
 refine AO.guardN rfl rfl rfl (ltb rfl) rfl rfl ?_
 refine AO.guardN rfl rfl rfl (ltb rfl) rfl rfl ?_
 refine AO.guardN rfl rfl rfl (ltb rfl) rfl rfl ?_
 refine AO.op rfl (AOp.pickN rfl rfl (ltb rfl) rfl rfl rfl ?_)
 refine AO.nil ?_
 change AC _ _ _ _
 refine AC.condF rfl rfl ?_
 refine AC.skip ?_
 change AC _ _ _ _
 refine AC.seq ?_
 refine AC.region ?_
 refine AO.op rfl (AOp.move rfl rfl (ltb rfl) rfl ?_)
 refine AO.op rfl (AOp.i2i rfl rfl (ltb rfl) rfl Tryd.underlying43 Tryd.underlying3 rfl ?_)
 refine AO.op rfl (AOp.move rfl rfl (ltb rfl) rfl ?_)
 obtain ⟨q7, h0⟩ := need_elim h0
 refine AO.op rfl (AOp.imul rfl rfl (ltb rfl) rfl rfl rfl q7.1 q7.2 ?_)
 obtain ⟨q8, h0⟩ := need_elim h0
 refine AO.op rfl (AOp.makeL (f := fun z => SV.d (keS0 z)) (z0 := (0 : Nat)) rfl rfl (ltb rfl) rfl rfl el24 info63 rfl rfl (by decide) q8.1 q8.2 rfl ?_)
 refine AO.op rfl (AOp.assign rfl rfl (ltb rfl) rfl ?_)
 refine AO.nil ?_
 change AC _ _ _ _
 refine AC.seq ?_
 refine AC.seq ?_
 refine AC.region ?_
 refine AO.op rfl (AOp.move rfl rfl (ltb rfl) rfl ?_)
 refine AO.op rfl (AOp.move rfl rfl (ltb rfl) rfl ?_)
 refine AO.op rfl (AOp.move rfl rfl (ltb rfl) rfl ?_)
 obtain ⟨y9, q10, h0⟩ := bind_elim h0
 rcases y9 with y11 | y12
 ·replace h0 := selL h0
  refine AO.op rfl (AOp.callH (ys := [.ifc 54 (.ptr 0 0), .ifc 95 (.d (e_TBinary_bigEndian TBinary_bigEndian.mk)), .sl 1 1 0 ((((IntKind.i64.wrap y4.1) * a1)).toNat) ((((IntKind.i64.wrap y4.1) * a1)).toNat)]) (hs := [0, 2]) (pins := [0, 1]) (unp := []) (pre := [.fix 71 [.d (eS4 y4.2.1), .d (di .i64 y4.2.2.1), .d (di .i8 y4.2.2.2)], .fix 63 (List.map (fun z => SV.d (keS0 z)) (List.replicate (((IntKind.i64.wrap y4.1) * a1)).toNat (0 : Nat)))]) (EntersS.call (by kernel_rfl) rfl rfl) (wh_ReadFloatArray_littleEndian F TBinary_bigEndian.mk ((((IntKind.i64.wrap y4.1) * a1)).toNat) y4.2.1 y4.2.2.1 y4.2.2.2 (List.replicate (((IntKind.i64.wrap y4.1) * a1)).toNat (0 : Nat)) _ q10) (ltb rfl) (.cons (SVLe.refl _) (.cons (SVLe.refl _) (.cons (SVLe.refl _) .nil))) rfl rfl rfl (.cons rfl (.cons (ren_fixl fun _ => rfl) .nil)) (.cons ⟨rfl, rfl⟩ (.cons (unders_fixl fun _ => rfl) .nil)) rfl (noOs_nil _ _ _) rfl ?_)
  rintro _ _ ⟨t13_0, rfl, rfl⟩
  refine ⟨.ifc t13_0 (.any), [.fix 71 [.d (eS4 y11.1), .d (di .i64 y11.2.1), .d (di .i8 y11.2.2.1)], .fix 63 (List.map (fun z => SV.d (keS0 z)) y11.2.2.2)], rfl, (.cons rfl (.cons (ren_fixl fun _ => rfl) .nil)), ?_⟩
  refine AO.objs (obs' := [.fix 71 [.d (eS4 y11.1), .d (di .i64 y11.2.1), .d (di .i8 y11.2.2.1)], .frame pv [(0, .ptr 0 0)], .fix 63 (List.map (fun z => SV.d (keS0 z)) y11.2.2.2)]) rfl ?_
  refine AO.op rfl (AOp.assign rfl rfl (ltb rfl) rfl ?_)
  refine AO.nil ?_
  change AC _ _ _ _
  refine AC.seq ?_
  refine AC.region ?_
  refine AO.op rfl (AOp.move rfl rfl (ltb rfl) rfl ?_)
  refine AO.op rfl (AOp.ifcNeq rfl rfl (ltb rfl) rfl rfl imeth57 ?_)
  refine AO.nil ?_
  change AC _ _ _ _
  refine AC.condT rfl rfl ?_
  refine AC.seq ?_
  refine AC.region ?_
  refine AO.op rfl (AOp.move rfl rfl (ltb rfl) rfl ?_)
  refine AO.op rfl (AOp.assign rfl rfl (ltb rfl) rfl ?_)
  refine AO.op rfl (AOp.assign rfl rfl (ltb rfl) rfl ?_)
  refine AO.nil ?_
  change AC _ _ _ _
  refine AC.sub 6 rfl (SVLe.nil 1) ?_
  obtain rfl := Option.some.inj h0
  refine AC.ret ?_
  change RetH _ _ _ _ _ _ .ret _
  refine reth (post := [.fix 71 [.d (eS4 y11.1), .d (di .i64 y11.2.1), .d (di .i8 y11.2.2.1)]]) rfl rfl rfl rfl rfl ?_
  exact ⟨_, rfl, rfl⟩
 replace h0 := selR h0
 refine AO.op rfl (AOp.callH (ys := [.ifc 54 (.ptr 0 0), .ifc 95 (.d (e_TBinary_bigEndian TBinary_bigEndian.mk)), .sl 1 1 0 ((((IntKind.i64.wrap y4.1) * a1)).toNat) ((((IntKind.i64.wrap y4.1) * a1)).toNat)]) (hs := [0, 2]) (pins := [0, 1]) (unp := []) (pre := [.fix 71 [.d (eS4 y4.2.1), .d (di .i64 y4.2.2.1), .d (di .i8 y4.2.2.2)], .fix 63 (List.map (fun z => SV.d (keS0 z)) (List.replicate (((IntKind.i64.wrap y4.1) * a1)).toNat (0 : Nat)))]) (EntersS.call (by kernel_rfl) rfl rfl) (wh_ReadFloatArray_littleEndian F TBinary_bigEndian.mk ((((IntKind.i64.wrap y4.1) * a1)).toNat) y4.2.1 y4.2.2.1 y4.2.2.2 (List.replicate (((IntKind.i64.wrap y4.1) * a1)).toNat (0 : Nat)) _ q10) (ltb rfl) (.cons (SVLe.refl _) (.cons (SVLe.refl _) (.cons (SVLe.refl _) .nil))) rfl rfl rfl (.cons rfl (.cons (ren_fixl fun _ => rfl) .nil)) (.cons ⟨rfl, rfl⟩ (.cons (unders_fixl fun _ => rfl) .nil)) rfl (noOs_nil _ _ _) rfl ?_)
 rintro _ _ ⟨rfl, rfl⟩
 refine ⟨.d (.v (.nilIface)), [.fix 71 [.d (eS4 y12.1), .d (di .i64 y12.2.1), .d (di .i8 y12.2.2.1)], .fix 63 (List.map (fun z => SV.d (keS0 z)) y12.2.2.2)], rfl, (.cons rfl (.cons (ren_fixl fun _ => rfl) .nil)), ?_⟩
 refine AO.objs (obs' := [.fix 71 [.d (eS4 y12.1), .d (di .i64 y12.2.1), .d (di .i8 y12.2.2.1)], .frame pv [(0, .ptr 0 0)], .fix 63 (List.map (fun z => SV.d (keS0 z)) y12.2.2.2)]) rfl ?_
 refine AO.op rfl (AOp.assign rfl rfl (ltb rfl) rfl ?_)
 refine AO.nil ?_
 change AC _ _ _ _
 refine AC.seq ?_
 refine AC.region ?_
 refine AO.op rfl (AOp.move rfl rfl (ltb rfl) rfl ?_)
 refine AO.op rfl (AOp.nilNeq rfl rfl (ltb rfl) rfl imeth57 ?_)
 refine AO.nil ?_
 change AC _ _ _ _
 refine AC.condF rfl rfl ?_
 refine AC.skip ?_
 change AC _ _ _ _
 refine AC.seq ?_
 refine AC.region ?_
 refine AO.op rfl (AOp.move rfl rfl (ltb rfl) rfl ?_)
 refine AO.op rfl (AOp.assign rfl rfl (ltb rfl) rfl ?_)
 refine AO.op rfl (AOp.assign rfl rfl (ltb rfl) rfl ?_)
 refine AO.nil ?_
 change AC _ _ _ _
 obtain ⟨q15, h0⟩ := need_elim h0
 refine AC.freezeF (ds := (List.map keS0 y12.2.2.2)) 6 2 rfl rfl rfl (by rw [List.map_map]; rfl) (lenq q15 (len1 _ _)) (Nat.le_refl _) ?_
 obtain rfl := Option.some.inj h0
 refine AC.ret ?_
 change RetH _ _ _ _ _ _ .ret _
 refine reth (post := [.fix 71 [.d (eS4 y12.1), .d (di .i64 y12.2.1), .d (di .i8 y12.2.2.1)]]) rfl rfl rfl rfl rfl ?_
 exact ⟨rfl, rfl⟩

def RH_ReadFlatCoords2_littleEndian : (Sum ((List Nat) × (List Int) × (List Int) × Int × Int) ((List Nat) × (List Int) × (List Int) × Int × Int)) → SV → List Ob → Prop
 | .inl z => fun r post => ∃ t0 : Nat, r = .tu [.d (eS0 z.1), .d (eS1 z.2.1), .ifc t0 (.any)] ∧ post = [.fix 71 [.d (eS4 z.2.2.1), .d (di .i64 z.2.2.2.1), .d (di .i8 z.2.2.2.2)]]
 | .inr z => fun r post => r = .tu [.d (eS0 z.1), .d (eS1 z.2.1), .d (.v (.nilIface))] ∧ post = [.fix 71 [.d (eS4 z.2.2.1), .d (di .i64 z.2.2.2.1), .d (di .i8 z.2.2.2.2)]]
set_option maxRecDepth 100000 in
set_option maxHeartbeats 4000000 in
/-- pub-orthodrome/pub/gogeom/encoding/wkbcommon.ReadFlatCoords2 -/
theorem wh_ReadFlatCoords2_littleEndian (F : Nat) (a0 : TBinary_bigEndian) (a1 : Int) (b0 : (List Int)) (b1 : Int) (b2 : Int) (r0 : (Sum ((List Nat) × (List Int) × (List Int) × Int × Int) ((List Nat) × (List Int) × (List Int) × Int × Int))) (h0 : p_ReadFlatCoords2_littleEndian F a0 a1 b0 b1 b2 = some r0) : FnH Tryd.prog 31 [.ifc 54 (.ptr 0 0), .ifc 95 (.d (e_TBinary_bigEndian TBinary_bigEndian.mk)), .d (di .i64 a1)] [.fix 71 [.d (eS4 b0), .d (di .i64 b1), .d (di .i8 b2)]] [0] (RH_ReadFlatCoords2_littleEndian r0) := by
 refine FnH.of (by kernel_rfl) Tryd.func31 rfl Tryd.ntmps31 rfl (leb rfl) fun W ok may pv => ?_
 unfold p_ReadFlatCoords2_littleEndian at h0
 refine AC.seq ?_
 refine AC.region ?_
 refine AO.op rfl (AOp.assign rfl rfl (ltb rfl) rfl ?_)
 refine AO.op rfl (AOp.assign rfl rfl (ltb rfl) rfl ?_)
 refine AO.op rfl (AOp.assign rfl rfl (ltb rfl) rfl ?_)
 refine AO.nil ?_
 change AC _ _ _ _
 refine AC.seq ?_
 refine AC.region ?_
 refine AO.op rfl (AOp.move rfl rfl (ltb rfl) rfl ?_)
 refine AO.op rfl (AOp.move rfl rfl (ltb rfl) rfl ?_)
 obtain ⟨y1, q2, h0⟩ := bind_elim h0
 rcases y1 with y3 | y4
 ·replace h0 := selL h0
  refine AO.op rfl (AOp.callH (ys := [.ifc 54 (.ptr 0 0), .ifc 95 (.d (e_TBinary_bigEndian TBinary_bigEndian.mk))]) (hs := [0]) (pins := [0]) (unp := []) (pre := [.fix 71 [.d (eS4 b0), .d (di .i64 b1), .d (di .i8 b2)]]) (EntersS.call (by kernel_rfl) rfl rfl) (wh_ReadUInt32_littleEndian TBinary_bigEndian.mk b0 b1 b2 _ q2) (ltb rfl) (.cons (SVLe.refl _) (.cons (SVLe.refl _) .nil)) rfl rfl rfl (.cons rfl .nil) (.cons ⟨rfl, rfl⟩ .nil) rfl (noOs_nil _ _ _) rfl ?_)
  rintro _ _ ⟨t5_0, rfl, rfl⟩
  refine ⟨.tu [.d (di .u32 y3.1), .ifc t5_0 (.any)], [.fix 71 [.d (eS4 y3.2.1), .d (di .i64 y3.2.2.1), .d (di .i8 y3.2.2.2)]], rfl, (.cons rfl .nil), ?_⟩
  refine AO.objs (obs' := [.fix 71 [.d (eS4 y3.2.1), .d (di .i64 y3.2.2.1), .d (di .i8 y3.2.2.2)], .frame pv [(0, .ptr 0 0)]]) rfl ?_
  refine AO.op rfl (AOp.move rfl rfl (ltb rfl) rfl ?_)
  first | refine AO.op rfl (AOp.extractD rfl rfl (ltb rfl) rfl rfl ?_) | refine AO.op rfl (AOp.extract rfl rfl (ltb rfl) rfl rfl ?_)
  first | refine AO.op rfl (AOp.extractD rfl rfl (ltb rfl) rfl rfl ?_) | refine AO.op rfl (AOp.extract rfl rfl (ltb rfl) rfl rfl ?_)
  refine AO.op rfl (AOp.assign rfl rfl (ltb rfl) rfl ?_)
  refine AO.op rfl (AOp.assign rfl rfl (ltb rfl) rfl ?_)
  refine AO.nil ?_
  change AC _ _ _ _
  refine AC.seq ?_
  refine AC.seq ?_
  refine AC.region ?_
  refine AO.op rfl (AOp.move rfl rfl (ltb rfl) rfl ?_)
  refine AO.op rfl (AOp.ifcNeq rfl rfl (ltb rfl) rfl rfl imeth57 ?_)
  refine AO.nil ?_
  change AC _ _ _ _
  refine AC.condT rfl rfl ?_
  refine AC.seq ?_
  refine AC.region ?_
  refine AO.op rfl (AOp.move rfl rfl (ltb rfl) rfl ?_)
  refine AO.op rfl (AOp.assign rfl rfl (ltb rfl) rfl ?_)
  refine AO.op rfl (AOp.assign rfl rfl (ltb rfl) rfl ?_)
  refine AO.op rfl (AOp.assign rfl rfl (ltb rfl) rfl ?_)
  refine AO.nil ?_
  change AC _ _ _ _
  refine AC.sub 6 rfl (SVLe.nil 1) ?_
  refine AC.sub 7 rfl (SVLe.nil 1) ?_
  obtain rfl := Option.some.inj h0
  refine AC.ret ?_
  change RetH _ _ _ _ _ _ .ret _
  refine reth (post := [.fix 71 [.d (eS4 y3.2.1), .d (di .i64 y3.2.2.1), .d (di .i8 y3.2.2.2)]]) rfl rfl rfl rfl rfl ?_
  exact ⟨_, rfl, rfl⟩
 replace h0 := selR h0
 refine AO.op rfl (AOp.callH (ys := [.ifc 54 (.ptr 0 0), .ifc 95 (.d (e_TBinary_bigEndian TBinary_bigEndian.mk))]) (hs := [0]) (pins := [0]) (unp := []) (pre := [.fix 71 [.d (eS4 b0), .d (di .i64 b1), .d (di .i8 b2)]]) (EntersS.call (by kernel_rfl) rfl rfl) (wh_ReadUInt32_littleEndian TBinary_bigEndian.mk b0 b1 b2 _ q2) (ltb rfl) (.cons (SVLe.refl _) (.cons (SVLe.refl _) .nil)) rfl rfl rfl (.cons rfl .nil) (.cons ⟨rfl, rfl⟩ .nil) rfl (noOs_nil _ _ _) rfl ?_)
 rintro _ _ ⟨rfl, rfl⟩
 refine ⟨.tu [.d (di .u32 y4.1), .d (.v (.nilIface))], [.fix 71 [.d (eS4 y4.2.1), .d (di .i64 y4.2.2.1), .d (di .i8 y4.2.2.2)]], rfl, (.cons rfl .nil), ?_⟩
 refine AO.objs (obs' := [.fix 71 [.d (eS4 y4.2.1), .d (di .i64 y4.2.2.1), .d (di .i8 y4.2.2.2)], .frame pv [(0, .ptr 0 0)]]) rfl ?_
 refine AO.op rfl (AOp.move rfl rfl (ltb rfl) rfl ?_)
 first | refine AO.op rfl (AOp.extractD rfl rfl (ltb rfl) rfl rfl ?_) | refine AO.op rfl (AOp.extract rfl rfl (ltb rfl) rfl rfl ?_)
 first | refine AO.op rfl (AOp.extractD rfl rfl (ltb rfl) rfl rfl ?_) | refine AO.op rfl (AOp.extract rfl rfl (ltb rfl) rfl rfl ?_)
 refine AO.op rfl (AOp.assign rfl rfl (ltb rfl) rfl ?_)
 refine AO.op rfl (AOp.assign rfl rfl (ltb rfl) rfl ?_)
 refine AO.nil ?_
 change AC _ _ _ _
 refine AC.seq ?_
 refine AC.seq ?_
 refine AC.region ?_
 refine AO.op rfl (AOp.move rfl rfl (ltb rfl) rfl ?_)
 refine AO.op rfl (AOp.nilNeq rfl rfl (ltb rfl) rfl imeth57 ?_)
 refine AO.nil ?_
 change AC _ _ _ _
 refine AC.condF rfl rfl ?_
 refine AC.skip ?_
 change AC _ _ _ _
 refine AC.seq ?_
 refine AC.seq ?_
 refine AC.region ?_
 refine AO.op rfl (AOp.indexG rfl rfl (ltb rfl) rfl ar89 (by decide) (by decide) ?_)
 refine AO.op rfl (AOp.loadGA (g := 0) (k := 2) (v := .int .i64 (-1)) rfl rfl (ltb rfl) rfl rfl agg3 (by simp [Globs]) (by decide) ?_)
 refine AO.op rfl (AOp.assign rfl rfl (ltb rfl) rfl ?_)
 refine AO.nil ?_
 change AC _ _ _ _
 refine AC.seq ?_
 refine AC.region ?_
 refine AO.op rfl (AOp.move rfl rfl (ltb rfl) rfl ?_)
 refine AO.op rfl (AOp.igeq rfl rfl (ltb rfl) rfl rfl ?_)
 refine AO.op rfl (AOp.move rfl rfl (ltb rfl) rfl ?_)
 refine AO.guardN rfl rfl rfl (ltb rfl) rfl rfl ?_
 refine AO.guardN rfl rfl rfl (ltb rfl) rfl rfl ?_
 refine AO.guardN rfl rfl rfl (ltb rfl) rfl rfl ?_
 refine AO.guardN rfl rfl rfl (ltb rfl) rfl rfl ?_
 refine AO.op rfl (AOp.pickN rfl rfl (ltb rfl) rfl rfl rfl ?_)
 refine AO.nil ?_
 change AC _ _ _ _
 refine AC.condF rfl rfl ?_
 refine AC.skip ?_
 change AC _ _ _ _
 refine AC.seq ?_
 refine AC.region ?_
 refine AO.op rfl (AOp.assign rfl rfl (ltb rfl) rfl ?_)
 refine AO.nil ?_
 change AC _ _ _ _
 refine AC.seq ?_
 refine AC.region ?_
 refine AO.op rfl (AOp.move rfl rfl (ltb rfl) rfl ?_)
 obtain ⟨q7, h0⟩ := need_elim h0
 refine AO.op rfl (AOp.makeL (f := fun z => SV.d (keS1 z)) (z0 := (0 : Int)) rfl rfl (ltb rfl) rfl rfl el31 info3 rfl rfl (by decide) q7.1 q7.2 rfl ?_)
 refine AO.op rfl (AOp.assign rfl rfl (ltb rfl) rfl ?_)
 refine AO.nil ?_
 change AC _ _ _ _
 refine AC.seq ?_
 refine AC.seq ?_
 refine AC.region ?_
 refine AO.op rfl (AOp.move rfl rfl (ltb rfl) rfl ?_)
 refine AO.op rfl (AOp.move rfl rfl (ltb rfl) rfl ?_)
 refine AO.nil ?_
 change AC _ _ _ _
 refine AC.adopt 12 63 1 rfl ?_
 obtain ⟨o8, l9, h0⟩ := bind_elim h0
 refine AC.joinE (V := ((List Int) × Int × Int × (List Int) × (List Nat))) [13] [12] 4 (fun g10 => [(12, .own 3)]) (fun g10 => [.fix 71 [.d (eS4 g10.1), .d (di .i64 g10.2.1), .d (di .i8 g10.2.2.1)], .frame pv [(0, .ptr 0 0)], .fix 3 (List.map (fun z => SV.d (keS1 z)) g10.2.2.2.1), .grow 63 1 (List.map keS0 g10.2.2.2.2)]) (fun g10 => (p_ReadFlatCoords2_littleEndian_k1 y4) g10 = some r0) rfl ?_ ?_
 ·refine AC.block ?_
  refine AC.loopP (V := (Int × (List Int) × Int × Int × (List Int) × (List Nat))) (p_ReadFlatCoords2_littleEndian_l2 a1 F y4) o8 [0, 1, 2, 13, 43] [12, 44] 4 (fun g12 => [(12, .own 3), (44, .d (di .u32 g12.1))]) (fun g12 => [.fix 71 [.d (eS4 g12.2.1), .d (di .i64 g12.2.2.1), .d (di .i8 g12.2.2.2.1)], .frame pv [(0, .ptr 0 0)], .fix 3 (List.map (fun z => SV.d (keS1 z)) g12.2.2.2.2.1), .grow 63 1 (List.map keS0 g12.2.2.2.2.2)]) F ((0 : Int), y4.2.1, y4.2.2.1, y4.2.2.2, (List.replicate (y4.1).toNat (0 : Int)), []) l9 rfl rfl (LeL.refl _) rfl (okU_mk rfl (okU_cons rfl (okU_cons rfl (okU_cons (okU_fixl (fun _ => rfl)) (okU_cons rfl okU_nil))))) ?_
  intro n14 g12 h1
  unfold p_ReadFlatCoords2_littleEndian_l2 at h1
  refine AC.seq ?_
  refine AC.region ?_
  refine AO.op rfl (AOp.ilss rfl rfl (ltb rfl) rfl rfl ?_)
  refine AO.nil ?_
  change AC _ _ _ _
  refine AC.seq ?_
  refine AC.cond rfl (fun q15 => ?_) (fun q15 => ?_)
  ·replace h1 := cT h1 q15
   refine AC.skip ?_
   change AC _ _ _ _
   refine AC.seq ?_
   refine AC.block ?_
   refine AC.seq ?_
   refine AC.region ?_
   refine AO.op rfl (AOp.move rfl rfl (ltb rfl) rfl ?_)
   refine AO.op rfl (AOp.assign rfl rfl (ltb rfl) rfl ?_)
   refine AO.nil ?_
   change AC _ _ _ _
   refine AC.seq ?_
   refine AC.region ?_
   refine AO.op rfl (AOp.move rfl rfl (ltb rfl) rfl ?_)
   refine AO.op rfl (AOp.move rfl rfl (ltb rfl) rfl ?_)
   refine AO.op rfl (AOp.move rfl rfl (ltb rfl) rfl ?_)
   obtain ⟨y16, q17, h1⟩ := bind_elim h1
   rcases y16 with y18 | y19
   ·replace h1 := selL h1
    refine AO.op rfl (AOp.callH (ys := [.ifc 54 (.ptr 0 0), .ifc 95 (.d (e_TBinary_bigEndian TBinary_bigEndian.mk)), .d (di .i64 a1)]) (hs := [0]) (pins := [0]) (unp := []) (pre := [.fix 71 [.d (eS4 g12.2.1), .d (di .i64 g12.2.2.1), .d (di .i8 g12.2.2.2.1)]]) (EntersS.call (by kernel_rfl) rfl rfl) (wh_ReadFlatCoords1_littleEndian F TBinary_bigEndian.mk a1 g12.2.1 g12.2.2.1 g12.2.2.2.1 _ q17) (ltb rfl) (.cons (SVLe.refl _) (.cons (SVLe.refl _) (.cons (SVLe.refl _) .nil))) rfl rfl rfl (.cons rfl .nil) (.cons ⟨rfl, rfl⟩ .nil) rfl (noOs_nil _ _ _) rfl ?_)
    rintro _ _ ⟨t20_0, rfl, rfl⟩
    refine ⟨.tu [.d (eS0 y18.1), .ifc t20_0 (.any)], [.fix 71 [.d (eS4 y18.2.1), .d (di .i64 y18.2.2.1), .d (di .i8 y18.2.2.2)]], rfl, (.cons rfl .nil), ?_⟩
    refine AO.objs (obs' := [.fix 71 [.d (eS4 y18.2.1), .d (di .i64 y18.2.2.1), .d (di .i8 y18.2.2.2)], .frame pv [(0, .ptr 0 0)], .fix 3 (List.map (fun z => SV.d (keS1 z)) g12.2.2.2.2.1), .grow 63 1 (List.map keS0 g12.2.2.2.2.2)]) rfl ?_
    refine AO.op rfl (AOp.move rfl rfl (ltb rfl) rfl ?_)
    first | refine AO.op rfl (AOp.extractD rfl rfl (ltb rfl) rfl rfl ?_) | refine AO.op rfl (AOp.extract rfl rfl (ltb rfl) rfl rfl ?_)
    first | refine AO.op rfl (AOp.extractD rfl rfl (ltb rfl) rfl rfl ?_) | refine AO.op rfl (AOp.extract rfl rfl (ltb rfl) rfl rfl ?_)
    refine AO.op rfl (AOp.assign rfl rfl (ltb rfl) rfl ?_)
    refine AO.op rfl (AOp.assign rfl rfl (ltb rfl) rfl ?_)
    refine AO.nil ?_
    change AC _ _ _ _
    refine AC.seq ?_
    refine AC.seq ?_
    refine AC.region ?_
    refine AO.op rfl (AOp.move rfl rfl (ltb rfl) rfl ?_)
    refine AO.op rfl (AOp.ifcNeq rfl rfl (ltb rfl) rfl rfl imeth57 ?_)
    refine AO.nil ?_
    change AC _ _ _ _
    refine AC.condT rfl rfl ?_
    refine AC.seq ?_
    refine AC.region ?_
    refine AO.op rfl (AOp.move rfl rfl (ltb rfl) rfl ?_)
    refine AO.op rfl (AOp.assign rfl rfl (ltb rfl) rfl ?_)
    refine AO.op rfl (AOp.assign rfl rfl (ltb rfl) rfl ?_)
    refine AO.op rfl (AOp.assign rfl rfl (ltb rfl) rfl ?_)
    refine AO.nil ?_
    change AC _ _ _ _
    refine AC.sub 6 rfl (SVLe.nil 1) ?_
    refine AC.sub 7 rfl (SVLe.nil 1) ?_
    obtain rfl := Option.some.inj h1
    replace h0 := aftR h0
    obtain rfl := Option.some.inj h0
    refine AC.ret ?_
    change RetH _ _ _ _ _ _ .ret _
    refine reth (post := [.fix 71 [.d (eS4 y18.2.1), .d (di .i64 y18.2.2.1), .d (di .i8 y18.2.2.2)]]) rfl rfl rfl rfl rfl ?_
    exact ⟨_, rfl, rfl⟩
   replace h1 := selR h1
   refine AO.op rfl (AOp.callH (ys := [.ifc 54 (.ptr 0 0), .ifc 95 (.d (e_TBinary_bigEndian TBinary_bigEndian.mk)), .d (di .i64 a1)]) (hs := [0]) (pins := [0]) (unp := []) (pre := [.fix 71 [.d (eS4 g12.2.1), .d (di .i64 g12.2.2.1), .d (di .i8 g12.2.2.2.1)]]) (EntersS.call (by kernel_rfl) rfl rfl) (wh_ReadFlatCoords1_littleEndian F TBinary_bigEndian.mk a1 g12.2.1 g12.2.2.1 g12.2.2.2.1 _ q17) (ltb rfl) (.cons (SVLe.refl _) (.cons (SVLe.refl _) (.cons (SVLe.refl _) .nil))) rfl rfl rfl (.cons rfl .nil) (.cons ⟨rfl, rfl⟩ .nil) rfl (noOs_nil _ _ _) rfl ?_)
   rintro _ _ ⟨rfl, rfl⟩
   refine ⟨.tu [.d (eS0 y19.1), .d (.v (.nilIface))], [.fix 71 [.d (eS4 y19.2.1), .d (di .i64 y19.2.2.1), .d (di .i8 y19.2.2.2)]], rfl, (.cons rfl .nil), ?_⟩
   refine AO.objs (obs' := [.fix 71 [.d (eS4 y19.2.1), .d (di .i64 y19.2.2.1), .d (di .i8 y19.2.2.2)], .frame pv [(0, .ptr 0 0)], .fix 3 (List.map (fun z => SV.d (keS1 z)) g12.2.2.2.2.1), .grow 63 1 (List.map keS0 g12.2.2.2.2.2)]) rfl ?_
   refine AO.op rfl (AOp.move rfl rfl (ltb rfl) rfl ?_)
   first | refine AO.op rfl (AOp.extractD rfl rfl (ltb rfl) rfl rfl ?_) | refine AO.op rfl (AOp.extract rfl rfl (ltb rfl) rfl rfl ?_)
   first | refine AO.op rfl (AOp.extractD rfl rfl (ltb rfl) rfl rfl ?_) | refine AO.op rfl (AOp.extract rfl rfl (ltb rfl) rfl rfl ?_)
   refine AO.op rfl (AOp.assign rfl rfl (ltb rfl) rfl ?_)
   refine AO.op rfl (AOp.assign rfl rfl (ltb rfl) rfl ?_)
   refine AO.nil ?_
   change AC _ _ _ _
   refine AC.seq ?_
   refine AC.seq ?_
   refine AC.region ?_
   refine AO.op rfl (AOp.move rfl rfl (ltb rfl) rfl ?_)
   refine AO.op rfl (AOp.nilNeq rfl rfl (ltb rfl) rfl imeth57 ?_)
   refine AO.nil ?_
   change AC _ _ _ _
   refine AC.condF rfl rfl ?_
   refine AC.skip ?_
   change AC _ _ _ _
   refine AC.seq ?_
   refine AC.region ?_
   refine AO.op rfl (AOp.move rfl rfl (ltb rfl) rfl ?_)
   refine AO.op rfl (AOp.move rfl rfl (ltb rfl) rfl ?_)
   obtain ⟨q22, h1⟩ := need_elim h1
   refine AO.op rfl (AOp.appendOwn' (p := 3) (n := g12.2.2.2.2.2.length) (m := y19.1.length) (news := (List.map keS0 y19.1)) rfl rfl (ltb rfl) rfl rfl el24 info63 rfl (by decide) rfl (len1 _ _) (len1 _ _) (one1 _ (fun _ => rfl) _) q22 (by decide) (allNo (.cons rfl (.cons rfl (.cons (noO2_fixl fun _ => rfl) (.cons rfl .nil))))) rfl (cat1 _ _ _) ?_)
   refine AO.op rfl (AOp.assign rfl rfl (ltb rfl) rfl ?_)
   refine AO.nil ?_
   change AC _ _ _ _
   refine AC.region ?_
   refine AO.op rfl (AOp.move rfl rfl (ltb rfl) rfl ?_)
   refine AO.op rfl (AOp.move rfl rfl (ltb rfl) rfl ?_)
   refine AO.op rfl (AOp.move rfl rfl (ltb rfl) rfl ?_)
   refine AO.op rfl (AOp.lenOwn (cells := (List.map keS0 (g12.2.2.2.2.2 ++ y19.1))) (n := (g12.2.2.2.2.2 ++ y19.1).length) rfl rfl (ltb rfl) rfl el24 rfl (by decide) (len1 _ _) ?_)
   obtain ⟨q23, h1⟩ := need_elim h1
   refine AO.op rfl (AOp.indexSl rfl rfl (ltb rfl) rfl rfl el31 q23.1 q23.2 ?_)
   obtain ⟨q24, h1⟩ := need_elim h1
   refine AO.op rfl (AOp.storeL (f := fun z => SV.d (keS1 z)) (l := g12.2.2.2.2.1) (i := (g12.1).toNat) (v := (((g12.2.2.2.2.2 ++ y19.1).length : Nat) : Int)) rfl rfl rfl rfl size3 rfl rfl rfl q24 ?_)
   refine AO.nil ?_
   change AC _ _ _ _
   refine AC.region ?_
   obtain ⟨q25, h1⟩ := need_elim h1
   refine AO.op rfl (AOp.iadd rfl rfl (ltb rfl) rfl rfl rfl q25.1 q25.2 ?_)
   refine AO.op rfl (AOp.move rfl rfl (ltb rfl) rfl ?_)
   refine AO.nil ?_
   exact ⟨((g12.1 + (1 : Int)), y19.2.1, y19.2.2.1, y19.2.2.2, (g12.2.2.2.2.1.set (g12.1).toNat (((g12.2.2.2.2.2 ++ y19.1).length : Nat) : Int)), (g12.2.2.2.2.2 ++ y19.1)), _, rfl, (LeL.refl _), rfl, (okU_mk rfl (okU_cons rfl (okU_cons rfl (okU_cons (okU_fixl (fun _ => rfl)) (okU_cons rfl okU_nil))))), h1⟩
  replace h1 := cF h1 q15
  refine AC.exit ?_
  obtain rfl := Option.some.inj h1
  exact ⟨(g12.2.1, g12.2.2.1, g12.2.2.2.1, g12.2.2.2.2.1, g12.2.2.2.2.2), _, rfl, (LeL.refl _), rfl, (okU_mk rfl (okU_cons rfl (okU_cons rfl (okU_cons (okU_fixl (fun _ => rfl)) (okU_cons rfl okU_nil))))), aftL h0⟩
 intro g10 h0
 unfold p_ReadFlatCoords2_littleEndian_k1 at h0
 change AC _ _ _ _
 refine AC.seq ?_
 refine AC.region ?_
 refine AO.op rfl (AOp.move rfl rfl (ltb rfl) rfl ?_)
 refine AO.op rfl (AOp.move rfl rfl (ltb rfl) rfl ?_)
 refine AO.op rfl (AOp.assign rfl rfl (ltb rfl) rfl ?_)
 refine AO.op rfl (AOp.assign rfl rfl (ltb rfl) rfl ?_)
 refine AO.op rfl (AOp.assign rfl rfl (ltb rfl) rfl ?_)
 refine AO.nil ?_
 change AC _ _ _ _
 obtain ⟨q11, h0⟩ := need_elim h0
 refine AC.freezeF (ds := (List.map keS1 g10.2.2.2.1)) 7 2 rfl rfl rfl (by rw [List.map_map]; rfl) (lenq q11 (len1 _ _)) (Nat.le_refl _) ?_
 obtain rfl := Option.some.inj h0
 refine AC.ret ?_
 change RetH _ _ _ _ _ _ .ret _
 refine reth (post := [.fix 71 [.d (eS4 g10.1), .d (di .i64 g10.2.1), .d (di .i8 g10.2.2.1)]]) rfl rfl rfl rfl rfl ?_
 exact ⟨rfl, rfl⟩

set_option maxRecDepth 100000 in
set_option maxHeartbeats 4000000 in
/-- pub-orthodrome/impl.ReadFlat2 -/
theorem w_ReadFlat2 (F : Nat) (a0 : (List Int)) (a1 : Bool) (a2 : Int) (r0 : ((List Nat) × (List Int) × Int × Bool)) (h0 : p_ReadFlat2 F a0 a1 a2 = some r0) : FnD Tryd.prog 11 [eS4 a0, dbool a1, di .i64 a2] (fun r => r = .tu [eS0 r0.1, eS1 r0.2.1, di .i64 r0.2.2.1, dbool r0.2.2.2]) := by
 refine FnD.wrap (g := 30) (m := 4) (fun vs w h => idle30 vs w h) (by kernel_rfl) Tryd.func11 rfl Tryd.ntmps11 rfl (leb rfl) fun W ok => ?_
 unfold p_ReadFlat2 at h0
 refine AW.seq ?_
 refine AC.region ?_
 refine AO.op rfl (AOp.alloc rfl rfl (ltb rfl) zero24 rfl ?_)
 refine AO.op rfl (AOp.alloc rfl rfl (ltb rfl) zero31 rfl ?_)
 refine AO.op rfl (AOp.alloc rfl rfl (ltb rfl) zero3 rfl ?_)
 refine AO.op rfl (AOp.alloc rfl rfl (ltb rfl) zero4 rfl ?_)
 refine AO.nil ?_
 refine ⟨rfl, ?_⟩
 refine AW.defer (caps := [.tmp 6, .tmp 7, .tmp 8, .tmp 9]) rfl rfl rfl (ltb rfl) rfl rfl rfl rfl (by kernel_rfl) rfl fun df => ?_
 refine AC.seq ?_
 refine AC.region ?_
 refine AO.op rfl (AOp.move rfl rfl (ltb rfl) rfl ?_)
 refine AO.op rfl (AOp.inl [1, 2, 6, 7, 8, 9] (by kernel_rfl) Tryd.func20 rfl Tryd.ntmps20 rfl rfl (ltb rfl) rfl (leb rfl) rfl ?_)
 intro fr1
 refine AC.seq ?_
 refine AC.region ?_
 refine AO.op rfl (AOp.assign rfl rfl (ltb rfl) rfl ?_)
 refine AO.nil ?_
 change AC _ _ _ _
 refine AC.seq ?_
 refine AC.region ?_
 refine AO.op rfl (AOp.move rfl rfl (ltb rfl) rfl ?_)
 refine AO.op rfl (AOp.build rfl rfl (ltb rfl) zero71 rfl places71 rfl rfl ?_)
 refine AO.op rfl (AOp.box rfl rfl (ltb rfl) rfl rfl ?_)
 refine AO.op rfl (AOp.assign rfl rfl (ltb rfl) rfl ?_)
 refine AO.objs (obs' := [.fix 24 [.d (.v (.slice none 0 0))], .fix 31 [.d (.v (.slice none 0 0))], .fix 3 [.d (di .i64 (0 : Int))], .fix 4 [.d (dbool false)], .frame fr1 [(1, .d (dbool a1)), (2, .d (di .i64 a2)), (6, .ptr 0 0), (7, .ptr 1 0), (8, .ptr 2 0), (9, .ptr 3 0)], .fix 71 [.d (eS4 a0), .d (di .i64 (0 : Int)), .d (di .i8 (0 : Int))]]) rfl ?_
 refine AO.nil ?_
 change AC _ _ _ _
 refine AC.ret ?_
 refine inlret (ob' := [.fix 24 [.d (.v (.slice none 0 0))], .fix 31 [.d (.v (.slice none 0 0))], .fix 3 [.d (di .i64 (0 : Int))], .fix 4 [.d (dbool false)], .dead, .fix 71 [.d (eS4 a0), .d (di .i64 (0 : Int)), .d (di .i8 (0 : Int))]]) (e' := [(1, .d (dbool a1)), (2, .d (di .i64 a2)), (6, .ptr 0 0), (7, .ptr 1 0), (8, .ptr 2 0), (9, .ptr 3 0)]) (r := .ptr 5 0) rfl rfl rfl ?_
 change AO _ _ _ _ _
 refine AO.op rfl (AOp.assign rfl rfl (ltb rfl) rfl ?_)
 refine AO.objs (obs' := [.fix 24 [.d (.v (.slice none 0 0))], .fix 31 [.d (.v (.slice none 0 0))], .fix 3 [.d (di .i64 (0 : Int))], .fix 4 [.d (dbool false)], .dead, .fix 71 [.d (eS4 a0), .d (di .i64 (0 : Int)), .d (di .i8 (0 : Int))]]) rfl ?_
 refine AO.nil ?_
 change AC _ _ _ _
 refine AC.seq ?_
 refine AC.region ?_
 refine AO.op rfl (AOp.move rfl rfl (ltb rfl) rfl ?_)
 refine AO.op rfl (AOp.makeIfc rfl rfl (ltb rfl) rfl conc54 ?_)
 refine AO.op rfl (AOp.move rfl rfl (ltb rfl) rfl ?_)
 refine AO.op rfl (AOp.inl [2, 6, 7, 8, 9, 10, 17] (by kernel_rfl) Tryd.func22 rfl Tryd.ntmps22 rfl rfl (ltb rfl) rfl (leb rfl) rfl ?_)
 intro fr2
 refine AC.seq ?_
 refine AC.region ?_
 refine AO.op rfl (AOp.assign rfl rfl (ltb rfl) rfl ?_)
 refine AO.objs (obs' := [.fix 24 [.d (.v (.slice none 0 0))], .fix 31 [.d (.v (.slice none 0 0))], .fix 3 [.d (di .i64 (0 : Int))], .fix 4 [.d (dbool false)], .dead, .fix 71 [.d (eS4 a0), .d (di .i64 (0 : Int)), .d (di .i8 (0 : Int))], .frame fr2 [(2, .d (di .i64 a2)), (6, .ptr 0 0), (7, .ptr 1 0), (8, .ptr 2 0), (9, .ptr 3 0), (10, .ptr 5 0), (17, .ifc 54 (.ptr 5 0))]]) rfl ?_
 refine AO.nil ?_
 change AC _ _ _ _
 refine AC.seq ?_
 refine AC.seq ?_
 refine AC.region ?_
 refine AO.op rfl (AOp.move rfl rfl (ltb rfl) rfl ?_)
 refine AO.nil ?_
 change AC _ _ _ _
 refine AC.cond rfl (fun q3 => ?_) (fun q3 => ?_)
 ·replace h0 := cT h0 q3
  refine AC.seq ?_
  refine AC.region ?_
  refine AO.op rfl (AOp.loadG0 rfl rfl (ltb rfl) agg94 size94 ?_)
  refine AO.op rfl (AOp.makeIfc rfl rfl (ltb rfl) rfl conc94 ?_)
  refine AO.op rfl (AOp.assign rfl rfl (ltb rfl) rfl ?_)
  refine AO.nil ?_
  change AC _ _ _ _
  refine AC.ret ?_
  refine inlret (ob' := [.fix 24 [.d (.v (.slice none 0 0))], .fix 31 [.d (.v (.slice none 0 0))], .fix 3 [.d (di .i64 (0 : Int))], .fix 4 [.d (dbool false)], .dead, .fix 71 [.d (eS4 a0), .d (di .i64 (0 : Int)), .d (di .i8 (0 : Int))], .dead]) (e' := [(2, .d (di .i64 a2)), (6, .ptr 0 0), (7, .ptr 1 0), (8, .ptr 2 0), (9, .ptr 3 0), (10, .ptr 5 0), (17, .ifc 54 (.ptr 5 0))]) (r := .ifc 94 (.ag [])) rfl rfl rfl ?_
  change AO _ _ _ _ _
  refine AO.op rfl (AOp.move rfl rfl (ltb rfl) rfl ?_)
  obtain ⟨y4, q5, h0⟩ := bind_elim h0
  rcases y4 with y6 | y7
  ·replace h0 := selL h0
   refine AO.op rfl (AOp.callH (ys := [.ifc 54 (.ptr 0 0), .ifc 94 (.d (e_TBinary_bigEndian TBinary_bigEndian.mk)), .d (di .i64 a2)]) (hs := [5]) (pins := [0]) (unp := []) (pre := [.fix 71 [.d (eS4 a0), .d (di .i64 (0 : Int)), .d (di .i8 (0 : Int))]]) (EntersS.call (by kernel_rfl) rfl rfl) (wh_ReadFlatCoords2_bigEndian F TBinary_bigEndian.mk a2 a0 (0 : Int) (0 : Int) _ q5) (ltb rfl) (.cons (SVLe.refl _) (.cons (SVLe.ifcIn _ (SVLe.ag .nil)) (.cons (SVLe.refl _) .nil))) rfl rfl rfl (.cons rfl .nil) (.cons ⟨rfl, rfl⟩ .nil) rfl (noOs_nil _ _ _) rfl ?_)
   rintro _ _ ⟨t8_0, rfl, rfl⟩
   refine ⟨.tu [.d (eS0 y6.1), .d (eS1 y6.2.1), .ifc t8_0 (.any)], [.fix 71 [.d (eS4 y6.2.2.1), .d (di .i64 y6.2.2.2.1), .d (di .i8 y6.2.2.2.2)]], rfl, (.cons rfl .nil), ?_⟩
   refine AO.objs (obs' := [.fix 24 [.d (.v (.slice none 0 0))], .fix 31 [.d (.v (.slice none 0 0))], .fix 3 [.d (di .i64 (0 : Int))], .fix 4 [.d (dbool false)], .dead, .fix 71 [.d (eS4 y6.2.2.1), .d (di .i64 y6.2.2.2.1), .d (di .i8 y6.2.2.2.2)], .dead]) rfl ?_
   refine AO.op rfl (AOp.move rfl rfl (ltb rfl) rfl ?_)
   first | refine AO.op rfl (AOp.extractD rfl rfl (ltb rfl) rfl rfl ?_) | refine AO.op rfl (AOp.extract rfl rfl (ltb rfl) rfl rfl ?_)
   first | refine AO.op rfl (AOp.extractD rfl rfl (ltb rfl) rfl rfl ?_) | refine AO.op rfl (AOp.extract rfl rfl (ltb rfl) rfl rfl ?_)
   first | refine AO.op rfl (AOp.extractD rfl rfl (ltb rfl) rfl rfl ?_) | refine AO.op rfl (AOp.extract rfl rfl (ltb rfl) rfl rfl ?_)
   refine AO.op rfl (AOp.store rfl rfl rfl rfl size24 rfl rfl rfl (leb rfl) ?_)
   refine AO.op rfl (AOp.store rfl rfl rfl rfl size31 rfl rfl rfl (leb rfl) ?_)
   refine AO.op rfl (AOp.assign rfl rfl (ltb rfl) rfl ?_)
   refine AO.nil ?_
   change AC _ _ _ _
   refine AC.seq ?_
   refine AC.freezeP (ds := c_TBytes_Buffer (TBytes_Buffer.mk y6.2.2.1 y6.2.2.2.1 y6.2.2.2.2)) 10 5 rfl rfl rfl rfl (Nat.zero_le _) ?_
   obtain ⟨y9, q10, h0⟩ := bind_elim h0
   refine AC.drawS [0, 1, 2, 3, 4, 5, 6, 7, 8] [6, 7, 8] [9] (fun L => [.fix 24 [.d (eS0 y6.1)], .fix 31 [.d (eS1 y6.2.1)], .fix 3 [(bif L 8 then .d (di .i64 y9) else .d (di .i64 (0 : Int)))], .fix 4 [.d (dbool false)], .dead, .dead, .dead]) [(6, (fun _ => true)), (7, (fun _ => true)), (8, (fun _ => true))] mixed (by kernel_rfl) (fun L L' h => by simp only [h 6 (by decide), h 7 (by decide), h 8 (by decide)]) rfl ?_
   refine AS.op [6] [] [6, 7, 8] [] rfl rfl rfl (by kernel_rfl) (by kernel_rfl) rfl rfl (fun _ _ _ h => AOp.load1 rfl rfl (ltb rfl) rfl agg24 rfl rfl h) (by kernel_rfl) ?_
   refine AS.op [7] [] [7, 8] [6] rfl rfl rfl (by kernel_rfl) (by kernel_rfl) rfl rfl (fun _ _ _ h => AOp.load1 rfl rfl (ltb rfl) rfl agg31 rfl rfl h) (by kernel_rfl) ?_
   refine AS.op [10] [] [6, 7, 8] [] rfl rfl rfl (by kernel_rfl) (by kernel_rfl) rfl rfl (fun _ _ _ h => AOp.move rfl rfl (ltb rfl) rfl h) (by kernel_rfl) ?_
   refine AS.op [27] [] [6, 7, 8] [] rfl rfl rfl (by kernel_rfl) (by kernel_rfl) rfl rfl (fun _ _ _ h => AOp.callD rfl rfl (ltb rfl) rfl rfl (w_Buffer_Len (TBytes_Buffer.mk y6.2.2.1 y6.2.2.2.1 y6.2.2.2.2) y9 q10) (by rintro _ rfl; exact h)) (by kernel_rfl) ?_
   refine AS.op [11] [] [] [6, 7, 8] rfl rfl rfl (by kernel_rfl) (by kernel_rfl) rfl rfl (fun _ _ _ h => AOp.move rfl rfl (ltb rfl) rfl h) (by kernel_rfl) ?_
   refine AS.op [29] [] [] [6, 7, 8] rfl rfl rfl (by kernel_rfl) (by kernel_rfl) rfl rfl (fun _ _ _ h => AOp.ifcEql rfl rfl (ltb rfl) rfl rfl imeth57 h) (by kernel_rfl) ?_
   refine AS.mid0 [6, 25] [] [7, 8, 6] [] rfl rfl rfl rfl (by kernel_rfl) (by kernel_rfl) rfl rfl (fun _ _ _ h => AOp.store rfl rfl rfl rfl size24 rfl rfl rfl (leb rfl) (AO.dropT h)) (by kernel_rfl) rfl ?_
   refine AS.mid0 [7, 26] [6] [8, 7] [] rfl rfl rfl rfl (by kernel_rfl) (by kernel_rfl) rfl rfl (fun _ _ _ h => AOp.store rfl rfl rfl rfl size31 rfl rfl rfl (leb rfl) (AO.dropT h)) (by kernel_rfl) rfl ?_
   refine AS.mid0 [8, 28] [6, 7] [8] [] rfl rfl rfl rfl (by kernel_rfl) (by kernel_rfl) rfl rfl (fun _ _ _ h => AOp.store rfl rfl rfl rfl size3 rfl rfl rfl (leb rfl) (AO.dropT h)) (by kernel_rfl) rfl ?_
   refine AS.done ?_
   refine AO.objs (obs' := [.fix 24 [.d (eS0 y6.1)], .fix 31 [.d (eS1 y6.2.1)], .fix 3 [.d (di .i64 y9)], .fix 4 [.d (dbool false)], .dead, .dead, .dead]) rfl ?_
   refine AO.op rfl (AOp.store rfl rfl rfl rfl size4 rfl rfl rfl (leb rfl) ?_)
   refine AO.nil ?_
   change AC _ _ _ _
   refine AC.ret ?_
   change RetQ _ _ _ .ret _
   obtain rfl := Option.some.inj h0
   refine retq rfl rfl
  replace h0 := selR h0
  refine AO.op rfl (AOp.callH (ys := [.ifc 54 (.ptr 0 0), .ifc 94 (.d (e_TBinary_bigEndian TBinary_bigEndian.mk)), .d (di .i64 a2)]) (hs := [5]) (pins := [0]) (unp := []) (pre := [.fix 71 [.d (eS4 a0), .d (di .i64 (0 : Int)), .d (di .i8 (0 : Int))]]) (EntersS.call (by kernel_rfl) rfl rfl) (wh_ReadFlatCoords2_bigEndian F TBinary_bigEndian.mk a2 a0 (0 : Int) (0 : Int) _ q5) (ltb rfl) (.cons (SVLe.refl _) (.cons (SVLe.ifcIn _ (SVLe.ag .nil)) (.cons (SVLe.refl _) .nil))) rfl rfl rfl (.cons rfl .nil) (.cons ⟨rfl, rfl⟩ .nil) rfl (noOs_nil _ _ _) rfl ?_)
  rintro _ _ ⟨rfl, rfl⟩
  refine ⟨.tu [.d (eS0 y7.1), .d (eS1 y7.2.1), .d (.v (.nilIface))], [.fix 71 [.d (eS4 y7.2.2.1), .d (di .i64 y7.2.2.2.1), .d (di .i8 y7.2.2.2.2)]], rfl, (.cons rfl .nil), ?_⟩
  refine AO.objs (obs' := [.fix 24 [.d (.v (.slice none 0 0))], .fix 31 [.d (.v (.slice none 0 0))], .fix 3 [.d (di .i64 (0 : Int))], .fix 4 [.d (dbool false)], .dead, .fix 71 [.d (eS4 y7.2.2.1), .d (di .i64 y7.2.2.2.1), .d (di .i8 y7.2.2.2.2)], .dead]) rfl ?_
  refine AO.op rfl (AOp.move rfl rfl (ltb rfl) rfl ?_)
  first | refine AO.op rfl (AOp.extractD rfl rfl (ltb rfl) rfl rfl ?_) | refine AO.op rfl (AOp.extract rfl rfl (ltb rfl) rfl rfl ?_)
  first | refine AO.op rfl (AOp.extractD rfl rfl (ltb rfl) rfl rfl ?_) | refine AO.op rfl (AOp.extract rfl rfl (ltb rfl) rfl rfl ?_)
  first | refine AO.op rfl (AOp.extractD rfl rfl (ltb rfl) rfl rfl ?_) | refine AO.op rfl (AOp.extract rfl rfl (ltb rfl) rfl rfl ?_)
  refine AO.op rfl (AOp.store rfl rfl rfl rfl size24 rfl rfl rfl (leb rfl) ?_)
  refine AO.op rfl (AOp.store rfl rfl rfl rfl size31 rfl rfl rfl (leb rfl) ?_)
  refine AO.op rfl (AOp.assign rfl rfl (ltb rfl) rfl ?_)
  refine AO.nil ?_
  change AC _ _ _ _
  refine AC.seq ?_
  refine AC.freezeP (ds := c_TBytes_Buffer (TBytes_Buffer.mk y7.2.2.1 y7.2.2.2.1 y7.2.2.2.2)) 10 5 rfl rfl rfl rfl (Nat.zero_le _) ?_
  obtain ⟨y12, q13, h0⟩ := bind_elim h0
  refine AC.drawS [0, 1, 2, 3, 4, 5, 6, 7, 8] [6, 7, 8] [9] (fun L => [.fix 24 [.d (eS0 y7.1)], .fix 31 [.d (eS1 y7.2.1)], .fix 3 [(bif L 8 then .d (di .i64 y12) else .d (di .i64 (0 : Int)))], .fix 4 [.d (dbool false)], .dead, .dead, .dead]) [(6, (fun _ => true)), (7, (fun _ => true)), (8, (fun _ => true))] mixed (by kernel_rfl) (fun L L' h => by simp only [h 6 (by decide), h 7 (by decide), h 8 (by decide)]) rfl ?_
  refine AS.op [6] [] [6, 7, 8] [] rfl rfl rfl (by kernel_rfl) (by kernel_rfl) rfl rfl (fun _ _ _ h => AOp.load1 rfl rfl (ltb rfl) rfl agg24 rfl rfl h) (by kernel_rfl) ?_
  refine AS.op [7] [] [7, 8] [6] rfl rfl rfl (by kernel_rfl) (by kernel_rfl) rfl rfl (fun _ _ _ h => AOp.load1 rfl rfl (ltb rfl) rfl agg31 rfl rfl h) (by kernel_rfl) ?_
  refine AS.op [10] [] [6, 7, 8] [] rfl rfl rfl (by kernel_rfl) (by kernel_rfl) rfl rfl (fun _ _ _ h => AOp.move rfl rfl (ltb rfl) rfl h) (by kernel_rfl) ?_
  refine AS.op [27] [] [6, 7, 8] [] rfl rfl rfl (by kernel_rfl) (by kernel_rfl) rfl rfl (fun _ _ _ h => AOp.callD rfl rfl (ltb rfl) rfl rfl (w_Buffer_Len (TBytes_Buffer.mk y7.2.2.1 y7.2.2.2.1 y7.2.2.2.2) y12 q13) (by rintro _ rfl; exact h)) (by kernel_rfl) ?_
  refine AS.op [11] [] [] [6, 7, 8] rfl rfl rfl (by kernel_rfl) (by kernel_rfl) rfl rfl (fun _ _ _ h => AOp.move rfl rfl (ltb rfl) rfl h) (by kernel_rfl) ?_
  refine AS.op [29] [] [] [6, 7, 8] rfl rfl rfl (by kernel_rfl) (by kernel_rfl) rfl rfl (fun _ _ _ h => AOp.nilEq rfl rfl (ltb rfl) rfl imeth57 h) (by kernel_rfl) ?_
  refine AS.mid0 [6, 25] [] [7, 8, 6] [] rfl rfl rfl rfl (by kernel_rfl) (by kernel_rfl) rfl rfl (fun _ _ _ h => AOp.store rfl rfl rfl rfl size24 rfl rfl rfl (leb rfl) (AO.dropT h)) (by kernel_rfl) rfl ?_
  refine AS.mid0 [7, 26] [6] [8, 7] [] rfl rfl rfl rfl (by kernel_rfl) (by kernel_rfl) rfl rfl (fun _ _ _ h => AOp.store rfl rfl rfl rfl size31 rfl rfl rfl (leb rfl) (AO.dropT h)) (by kernel_rfl) rfl ?_
  refine AS.mid0 [8, 28] [6, 7] [8] [] rfl rfl rfl rfl (by kernel_rfl) (by kernel_rfl) rfl rfl (fun _ _ _ h => AOp.store rfl rfl rfl rfl size3 rfl rfl rfl (leb rfl) (AO.dropT h)) (by kernel_rfl) rfl ?_
  refine AS.done ?_
  refine AO.objs (obs' := [.fix 24 [.d (eS0 y7.1)], .fix 31 [.d (eS1 y7.2.1)], .fix 3 [.d (di .i64 y12)], .fix 4 [.d (dbool false)], .dead, .dead, .dead]) rfl ?_
  refine AO.op rfl (AOp.store rfl rfl rfl rfl size4 rfl rfl rfl (leb rfl) ?_)
  refine AO.nil ?_
  change AC _ _ _ _
  refine AC.ret ?_
  change RetQ _ _ _ .ret _
  obtain rfl := Option.some.inj h0
  refine retq rfl rfl
 replace h0 := cF h0 q3
 refine AC.skip ?_
 change AC _ _ _ _
 refine AC.seq ?_
 refine AC.region ?_
 refine AO.op rfl (AOp.loadG0 rfl rfl (ltb rfl) agg95 size95 ?_)
 refine AO.op rfl (AOp.makeIfc rfl rfl (ltb rfl) rfl conc95 ?_)
 refine AO.op rfl (AOp.assign rfl rfl (ltb rfl) rfl ?_)
 refine AO.nil ?_
 change AC _ _ _ _
 refine AC.ret ?_
 refine inlret (ob' := [.fix 24 [.d (.v (.slice none 0 0))], .fix 31 [.d (.v (.slice none 0 0))], .fix 3 [.d (di .i64 (0 : Int))], .fix 4 [.d (dbool false)], .dead, .fix 71 [.d (eS4 a0), .d (di .i64 (0 : Int)), .d (di .i8 (0 : Int))], .dead]) (e' := [(2, .d (di .i64 a2)), (6, .ptr 0 0), (7, .ptr 1 0), (8, .ptr 2 0), (9, .ptr 3 0), (10, .ptr 5 0), (17, .ifc 54 (.ptr 5 0))]) (r := .ifc 95 (.ag [])) rfl rfl rfl ?_
 change AO _ _ _ _ _
 refine AO.op rfl (AOp.move rfl rfl (ltb rfl) rfl ?_)
 obtain ⟨y14, q15, h0⟩ := bind_elim h0
 rcases y14 with y16 | y17
 ·replace h0 := selL h0
  refine AO.op rfl (AOp.callH (ys := [.ifc 54 (.ptr 0 0), .ifc 95 (.d (e_TBinary_bigEndian TBinary_bigEndian.mk)), .d (di .i64 a2)]) (hs := [5]) (pins := [0]) (unp := []) (pre := [.fix 71 [.d (eS4 a0), .d (di .i64 (0 : Int)), .d (di .i8 (0 : Int))]]) (EntersS.call (by kernel_rfl) rfl rfl) (wh_ReadFlatCoords2_littleEndian F TBinary_bigEndian.mk a2 a0 (0 : Int) (0 : Int) _ q15) (ltb rfl) (.cons (SVLe.refl _) (.cons (SVLe.ifcIn _ (SVLe.ag .nil)) (.cons (SVLe.refl _) .nil))) rfl rfl rfl (.cons rfl .nil) (.cons ⟨rfl, rfl⟩ .nil) rfl (noOs_nil _ _ _) rfl ?_)
  rintro _ _ ⟨t18_0, rfl, rfl⟩
  refine ⟨.tu [.d (eS0 y16.1), .d (eS1 y16.2.1), .ifc t18_0 (.any)], [.fix 71 [.d (eS4 y16.2.2.1), .d (di .i64 y16.2.2.2.1), .d (di .i8 y16.2.2.2.2)]], rfl, (.cons rfl .nil), ?_⟩
  refine AO.objs (obs' := [.fix 24 [.d (.v (.slice none 0 0))], .fix 31 [.d (.v (.slice none 0 0))], .fix 3 [.d (di .i64 (0 : Int))], .fix 4 [.d (dbool false)], .dead, .fix 71 [.d (eS4 y16.2.2.1), .d (di .i64 y16.2.2.2.1), .d (di .i8 y16.2.2.2.2)], .dead]) rfl ?_
  refine AO.op rfl (AOp.move rfl rfl (ltb rfl) rfl ?_)
  first | refine AO.op rfl (AOp.extractD rfl rfl (ltb rfl) rfl rfl ?_) | refine AO.op rfl (AOp.extract rfl rfl (ltb rfl) rfl rfl ?_)
  first | refine AO.op rfl (AOp.extractD rfl rfl (ltb rfl) rfl rfl ?_) | refine AO.op rfl (AOp.extract rfl rfl (ltb rfl) rfl rfl ?_)
  first | refine AO.op rfl (AOp.extractD rfl rfl (ltb rfl) rfl rfl ?_) | refine AO.op rfl (AOp.extract rfl rfl (ltb rfl) rfl rfl ?_)
  refine AO.op rfl (AOp.store rfl rfl rfl rfl size24 rfl rfl rfl (leb rfl) ?_)
  refine AO.op rfl (AOp.store rfl rfl rfl rfl size31 rfl rfl rfl (leb rfl) ?_)
  refine AO.op rfl (AOp.assign rfl rfl (ltb rfl) rfl ?_)
  refine AO.nil ?_
  change AC _ _ _ _
  refine AC.seq ?_
  refine AC.freezeP (ds := c_TBytes_Buffer (TBytes_Buffer.mk y16.2.2.1 y16.2.2.2.1 y16.2.2.2.2)) 10 5 rfl rfl rfl rfl (Nat.zero_le _) ?_
  obtain ⟨y19, q20, h0⟩ := bind_elim h0
  refine AC.drawS [0, 1, 2, 3, 4, 5, 6, 7, 8] [6, 7, 8] [9] (fun L => [.fix 24 [.d (eS0 y16.1)], .fix 31 [.d (eS1 y16.2.1)], .fix 3 [(bif L 8 then .d (di .i64 y19) else .d (di .i64 (0 : Int)))], .fix 4 [.d (dbool false)], .dead, .dead, .dead]) [(6, (fun _ => true)), (7, (fun _ => true)), (8, (fun _ => true))] mixed (by kernel_rfl) (fun L L' h => by simp only [h 6 (by decide), h 7 (by decide), h 8 (by decide)]) rfl ?_
  refine AS.op [6] [] [6, 7, 8] [] rfl rfl rfl (by kernel_rfl) (by kernel_rfl) rfl rfl (fun _ _ _ h => AOp.load1 rfl rfl (ltb rfl) rfl agg24 rfl rfl h) (by kernel_rfl) ?_
  refine AS.op [7] [] [7, 8] [6] rfl rfl rfl (by kernel_rfl) (by kernel_rfl) rfl rfl (fun _ _ _ h => AOp.load1 rfl rfl (ltb rfl) rfl agg31 rfl rfl h) (by kernel_rfl) ?_
  refine AS.op [10] [] [6, 7, 8] [] rfl rfl rfl (by kernel_rfl) (by kernel_rfl) rfl rfl (fun _ _ _ h => AOp.move rfl rfl (ltb rfl) rfl h) (by kernel_rfl) ?_
  refine AS.op [27] [] [6, 7, 8] [] rfl rfl rfl (by kernel_rfl) (by kernel_rfl) rfl rfl (fun _ _ _ h => AOp.callD rfl rfl (ltb rfl) rfl rfl (w_Buffer_Len (TBytes_Buffer.mk y16.2.2.1 y16.2.2.2.1 y16.2.2.2.2) y19 q20) (by rintro _ rfl; exact h)) (by kernel_rfl) ?_
  refine AS.op [11] [] [] [6, 7, 8] rfl rfl rfl (by kernel_rfl) (by kernel_rfl) rfl rfl (fun _ _ _ h => AOp.move rfl rfl (ltb rfl) rfl h) (by kernel_rfl) ?_
  refine AS.op [29] [] [] [6, 7, 8] rfl rfl rfl (by kernel_rfl) (by kernel_rfl) rfl rfl (fun _ _ _ h => AOp.ifcEql rfl rfl (ltb rfl) rfl rfl imeth57 h) (by kernel_rfl) ?_
  refine AS.mid0 [6, 25] [] [7, 8, 6] [] rfl rfl rfl rfl (by kernel_rfl) (by kernel_rfl) rfl rfl (fun _ _ _ h => AOp.store rfl rfl rfl rfl size24 rfl rfl rfl (leb rfl) (AO.dropT h)) (by kernel_rfl) rfl ?_
  refine AS.mid0 [7, 26] [6] [8, 7] [] rfl rfl rfl rfl (by kernel_rfl) (by kernel_rfl) rfl rfl (fun _ _ _ h => AOp.store rfl rfl rfl rfl size31 rfl rfl rfl (leb rfl) (AO.dropT h)) (by kernel_rfl) rfl ?_
  refine AS.mid0 [8, 28] [6, 7] [8] [] rfl rfl rfl rfl (by kernel_rfl) (by kernel_rfl) rfl rfl (fun _ _ _ h => AOp.store rfl rfl rfl rfl size3 rfl rfl rfl (leb rfl) (AO.dropT h)) (by kernel_rfl) rfl ?_
  refine AS.done ?_
  refine AO.objs (obs' := [.fix 24 [.d (eS0 y16.1)], .fix 31 [.d (eS1 y16.2.1)], .fix 3 [.d (di .i64 y19)], .fix 4 [.d (dbool false)], .dead, .dead, .dead]) rfl ?_
  refine AO.op rfl (AOp.store rfl rfl rfl rfl size4 rfl rfl rfl (leb rfl) ?_)
  refine AO.nil ?_
  change AC _ _ _ _
  refine AC.ret ?_
  change RetQ _ _ _ .ret _
  obtain rfl := Option.some.inj h0
  refine retq rfl rfl
 replace h0 := selR h0
 refine AO.op rfl (AOp.callH (ys := [.ifc 54 (.ptr 0 0), .ifc 95 (.d (e_TBinary_bigEndian TBinary_bigEndian.mk)), .d (di .i64 a2)]) (hs := [5]) (pins := [0]) (unp := []) (pre := [.fix 71 [.d (eS4 a0), .d (di .i64 (0 : Int)), .d (di .i8 (0 : Int))]]) (EntersS.call (by kernel_rfl) rfl rfl) (wh_ReadFlatCoords2_littleEndian F TBinary_bigEndian.mk a2 a0 (0 : Int) (0 : Int) _ q15) (ltb rfl) (.cons (SVLe.refl _) (.cons (SVLe.ifcIn _ (SVLe.ag .nil)) (.cons (SVLe.refl _) .nil))) rfl rfl rfl (.cons rfl .nil) (.cons ⟨rfl, rfl⟩ .nil) rfl (noOs_nil _ _ _) rfl ?_)
 rintro _ _ ⟨rfl, rfl⟩
 refine ⟨.tu [.d (eS0 y17.1), .d (eS1 y17.2.1), .d (.v (.nilIface))], [.fix 71 [.d (eS4 y17.2.2.1), .d (di .i64 y17.2.2.2.1), .d (di .i8 y17.2.2.2.2)]], rfl, (.cons rfl .nil), ?_⟩
 refine AO.objs (obs' := [.fix 24 [.d (.v (.slice none 0 0))], .fix 31 [.d (.v (.slice none 0 0))], .fix 3 [.d (di .i64 (0 : Int))], .fix 4 [.d (dbool false)], .dead, .fix 71 [.d (eS4 y17.2.2.1), .d (di .i64 y17.2.2.2.1), .d (di .i8 y17.2.2.2.2)], .dead]) rfl ?_
 refine AO.op rfl (AOp.move rfl rfl (ltb rfl) rfl ?_)
 first | refine AO.op rfl (AOp.extractD rfl rfl (ltb rfl) rfl rfl ?_) | refine AO.op rfl (AOp.extract rfl rfl (ltb rfl) rfl rfl ?_)
 first | refine AO.op rfl (AOp.extractD rfl rfl (ltb rfl) rfl rfl ?_) | refine AO.op rfl (AOp.extract rfl rfl (ltb rfl) rfl rfl ?_)
 first | refine AO.op rfl (AOp.extractD rfl rfl (ltb rfl) rfl rfl ?_) | refine AO.op rfl (AOp.extract rfl rfl (ltb rfl) rfl rfl ?_)
 refine AO.op rfl (AOp.store rfl rfl rfl rfl size24 rfl rfl rfl (leb rfl) ?_)
 refine AO.op rfl (AOp.store rfl rfl rfl rfl size31 rfl rfl rfl (leb rfl) ?_)
 refine AO.op rfl (AOp.assign rfl rfl (ltb rfl) rfl ?_)
 refine AO.nil ?_
 change AC _ _ _ _
 refine AC.seq ?_
 refine AC.freezeP (ds := c_TBytes_Buffer (TBytes_Buffer.mk y17.2.2.1 y17.2.2.2.1 y17.2.2.2.2)) 10 5 rfl rfl rfl rfl (Nat.zero_le _) ?_
 obtain ⟨y22, q23, h0⟩ := bind_elim h0
 refine AC.drawS [0, 1, 2, 3, 4, 5, 6, 7, 8] [6, 7, 8] [9] (fun L => [.fix 24 [.d (eS0 y17.1)], .fix 31 [.d (eS1 y17.2.1)], .fix 3 [(bif L 8 then .d (di .i64 y22) else .d (di .i64 (0 : Int)))], .fix 4 [.d (dbool false)], .dead, .dead, .dead]) [(6, (fun _ => true)), (7, (fun _ => true)), (8, (fun _ => true))] mixed (by kernel_rfl) (fun L L' h => by simp only [h 6 (by decide), h 7 (by decide), h 8 (by decide)]) rfl ?_
 refine AS.op [6] [] [6, 7, 8] [] rfl rfl rfl (by kernel_rfl) (by kernel_rfl) rfl rfl (fun _ _ _ h => AOp.load1 rfl rfl (ltb rfl) rfl agg24 rfl rfl h) (by kernel_rfl) ?_
 refine AS.op [7] [] [7, 8] [6] rfl rfl rfl (by kernel_rfl) (by kernel_rfl) rfl rfl (fun _ _ _ h => AOp.load1 rfl rfl (ltb rfl) rfl agg31 rfl rfl h) (by kernel_rfl) ?_
 refine AS.op [10] [] [6, 7, 8] [] rfl rfl rfl (by kernel_rfl) (by kernel_rfl) rfl rfl (fun _ _ _ h => AOp.move rfl rfl (ltb rfl) rfl h) (by kernel_rfl) ?_
 refine AS.op [27] [] [6, 7, 8] [] rfl rfl rfl (by kernel_rfl) (by kernel_rfl) rfl rfl (fun _ _ _ h => AOp.callD rfl rfl (ltb rfl) rfl rfl (w_Buffer_Len (TBytes_Buffer.mk y17.2.2.1 y17.2.2.2.1 y17.2.2.2.2) y22 q23) (by rintro _ rfl; exact h)) (by kernel_rfl) ?_
 refine AS.op [11] [] [] [6, 7, 8] rfl rfl rfl (by kernel_rfl) (by kernel_rfl) rfl rfl (fun _ _ _ h => AOp.move rfl rfl (ltb rfl) rfl h) (by kernel_rfl) ?_
 refine AS.op [29] [] [] [6, 7, 8] rfl rfl rfl (by kernel_rfl) (by kernel_rfl) rfl rfl (fun _ _ _ h => AOp.nilEq rfl rfl (ltb rfl) rfl imeth57 h) (by kernel_rfl) ?_
 refine AS.mid0 [6, 25] [] [7, 8, 6] [] rfl rfl rfl rfl (by kernel_rfl) (by kernel_rfl) rfl rfl (fun _ _ _ h => AOp.store rfl rfl rfl rfl size24 rfl rfl rfl (leb rfl) (AO.dropT h)) (by kernel_rfl) rfl ?_
 refine AS.mid0 [7, 26] [6] [8, 7] [] rfl rfl rfl rfl (by kernel_rfl) (by kernel_rfl) rfl rfl (fun _ _ _ h => AOp.store rfl rfl rfl rfl size31 rfl rfl rfl (leb rfl) (AO.dropT h)) (by kernel_rfl) rfl ?_
 refine AS.mid0 [8, 28] [6, 7] [8] [] rfl rfl rfl rfl (by kernel_rfl) (by kernel_rfl) rfl rfl (fun _ _ _ h => AOp.store rfl rfl rfl rfl size3 rfl rfl rfl (leb rfl) (AO.dropT h)) (by kernel_rfl) rfl ?_
 refine AS.done ?_
 refine AO.objs (obs' := [.fix 24 [.d (eS0 y17.1)], .fix 31 [.d (eS1 y17.2.1)], .fix 3 [.d (di .i64 y22)], .fix 4 [.d (dbool false)], .dead, .dead, .dead]) rfl ?_
 refine AO.op rfl (AOp.store rfl rfl rfl rfl size4 rfl rfl rfl (leb rfl) ?_)
 refine AO.nil ?_
 change AC _ _ _ _
 refine AC.ret ?_
 change RetQ _ _ _ .ret _
 obtain rfl := Option.some.inj h0
 refine retq rfl rfl

set_option maxRecDepth 100000 in
set_option maxHeartbeats 4000000 in
/-- pub-orthodrome/spec.CountBytes -/
theorem w_CountBytes (F : Nat) (a0 : Int) (a1 : Bool) (r0 : (List Int)) (h0 : p_CountBytes F a0 a1 = some r0) : FnD Tryd.prog 12 [di .u32 a0, dbool a1] (fun r => r = eS4 r0) := by
 refine FnD.of (by kernel_rfl) Tryd.func12 rfl Tryd.ntmps12 rfl (leb rfl) fun W ok => ?_
 unfold p_CountBytes at h0
 refine AC.seq ?_
 refine AC.region ?_
 refine AO.op rfl (AOp.assign rfl rfl (ltb rfl) rfl ?_)
 refine AO.nil ?_
 change AC _ _ _ _
 refine AC.seq ?_
 refine AC.region ?_
 refine AO.op rfl (AOp.move rfl rfl (ltb rfl) rfl ?_)
 refine AO.op rfl (AOp.build rfl rfl (ltb rfl) zero78 rfl places78 rfl rfl ?_)
 refine AO.op rfl (AOp.box rfl rfl (ltb rfl) rfl rfl ?_)
 refine AO.op rfl (AOp.assign rfl rfl (ltb rfl) rfl ?_)
 refine AO.nil ?_
 change AC _ _ _ _
 refine AC.seq ?_
 refine AC.region ?_
 refine AO.op rfl (AOp.move rfl rfl (ltb rfl) rfl ?_)
 refine AO.op rfl (AOp.move rfl rfl (ltb rfl) rfl ?_)
 refine AO.op rfl (AOp.i2i rfl rfl (ltb rfl) rfl Tryd.underlying43 Tryd.underlying64 rfl ?_)
 refine AO.op rfl (AOp.inl [5] (by kernel_rfl) Tryd.func32 rfl Tryd.ntmps32 rfl rfl (ltb rfl) rfl (leb rfl) rfl ?_)
 intro fr1
 refine AC.seq ?_
 refine AC.region ?_
 refine AO.op rfl (AOp.move rfl rfl (ltb rfl) rfl ?_)
 refine AO.op rfl (AOp.move rfl rfl (ltb rfl) rfl ?_)
 refine AO.nil ?_
 change AC _ _ _ _
 refine AC.adoptO 0 0 5 1 rfl rfl ?_
 obtain ⟨o2, l3, h0⟩ := bind_elim h0
 refine AC.joinE (V := (List Int)) [] [] 3 (fun g4 => []) (fun g4 => [.fix 78 [.own 2, .d (dbool a1), .d (dbool false), .d (dbool false), .d (dbool false)], .frame fr1 [(5, .ptr 0 0)], .grow 5 1 (List.map keS4 g4)]) (fun g4 => p_CountBytes_k1 g4 = some r0) rfl ?_ ?_
 ·refine AC.block ?_
  refine AC.loopP (V := (Int × (List Int))) (p_CountBytes_l2 a0 a1) o2 [0, 1, 2, 8] [9] 3 (fun g5 => [(9, .d (di .i64 g5.1))]) (fun g5 => [.fix 78 [.own 2, .d (dbool a1), .d (dbool false), .d (dbool false), .d (dbool false)], .frame fr1 [(5, .ptr 0 0)], .grow 5 1 (List.map keS4 g5.2)]) F ((0 : Int), []) l3 rfl rfl (LeL.refl _) rfl rfl ?_
  intro n7 g5 h1
  unfold p_CountBytes_l2 at h1
  refine AC.seq ?_
  refine AC.region ?_
  refine AO.op rfl (AOp.ilss rfl rfl (ltb rfl) rfl rfl ?_)
  refine AO.nil ?_
  change AC _ _ _ _
  refine AC.seq ?_
  refine AC.cond rfl (fun q8 => ?_) (fun q8 => ?_)
  ·replace h1 := cT h1 q8
   refine AC.skip ?_
   change AC _ _ _ _
   refine AC.seq ?_
   refine AC.block ?_
   refine AC.seq ?_
   refine AC.region ?_
   refine AO.op rfl (AOp.move rfl rfl (ltb rfl) rfl ?_)
   refine AO.op rfl (AOp.assign rfl rfl (ltb rfl) rfl ?_)
   refine AO.nil ?_
   change AC _ _ _ _
   refine AC.seq ?_
   refine AC.region ?_
   refine AO.op rfl (AOp.move rfl rfl (ltb rfl) rfl ?_)
   refine AO.op rfl (AOp.assign rfl rfl (ltb rfl) rfl ?_)
   refine AO.nil ?_
   change AC _ _ _ _
   refine AC.joinP (V := Int) [0, 1, 2, 8, 9] [7] 3 (fun g9 => [(7, .d (di .i64 g9))]) (fun g9 => [.fix 78 [.own 2, .d (dbool a1), .d (dbool false), .d (dbool false), .d (dbool false)], .frame fr1 [(5, .ptr 0 0)], .grow 5 1 (List.map keS4 g5.2)]) (fun g9 => (p_CountBytes_k3 a0 g5 (iter (p_CountBytes_l2 a0 a1) n7)) g9 = some o2) rfl ?_ ?_
   ·refine AC.seq ?_
    refine AC.region ?_
    refine AO.op rfl (AOp.move rfl rfl (ltb rfl) rfl ?_)
    refine AO.op rfl (AOp.nilCheck rfl rfl (ltb rfl) rfl rfl ?_)
    refine AO.op rfl (AOp.fieldAddr rfl rfl (ltb rfl) rfl fo78_1 ?_)
    refine AO.op rfl (AOp.load1 rfl rfl (ltb rfl) rfl agg4 rfl rfl ?_)
    refine AO.nil ?_
    change AC _ _ _ _
    refine AC.cond rfl (fun q14 => ?_) (fun q14 => ?_)
    ·replace h1 := cT h1 q14
     refine AC.region ?_
     refine AO.op rfl (AOp.move rfl rfl (ltb rfl) rfl ?_)
     refine AO.op rfl (AOp.isub rfl rfl (ltb rfl) rfl rfl (show (4 : Int) - (1 : Int) = (3 : Int) by decide) (by decide) (by decide) ?_)
     refine AO.op rfl (AOp.move rfl rfl (ltb rfl) rfl ?_)
     obtain ⟨q15, h1⟩ := need_elim h1
     refine AO.op rfl (AOp.isub rfl rfl (ltb rfl) rfl rfl rfl q15.1 q15.2 ?_)
     refine AO.op rfl (AOp.assign rfl rfl (ltb rfl) rfl ?_)
     refine AO.nil ?_
     exact ⟨((3 : Int) - g5.1), _, rfl, (LeL.refl _), rfl, rfl, h1⟩
    replace h1 := cF h1 q14
    refine AC.skip ?_
    exact ⟨g5.1, _, rfl, (LeL.refl _), rfl, rfl, h1⟩
   intro g9 h1
   unfold p_CountBytes_k3 at h1
   obtain ⟨q10, h1⟩ := need_elim h1
   obtain ⟨q11, h1⟩ := need_elim h1
   obtain ⟨q12, h1⟩ := need_elim h1
   refine AC.drawS [0, 1, 2, 3, 4, 5, 6, 7, 8, 9, 10, 11] [11] [12, 13, 14] (fun L => [.fix 78 [(bif L 11 then .any else .own 2), .d (dbool a1), .d (dbool false), .d (dbool false), .d (dbool false)], .frame fr1 [(5, .ptr 0 0)], bif L 11 then .grow 5 1 (List.map keS4 (g5.2 ++ [(IntKind.u8.wrap ((IntKind.u64.wrap a0) / 2 ^ (((8 : Int) * g9)).toNat))])) else .grow 5 1 (List.map keS4 g5.2)]) [(11, SV.noO 2)] mixed (by kernel_rfl) (fun L L' h => by simp only [h 11 (by decide), h 11 (by decide)]) rfl ?_
   refine AS.op [0] [] [] [11] rfl rfl rfl (by kernel_rfl) (by kernel_rfl) rfl rfl (fun _ _ _ h => AOp.move rfl rfl (ltb rfl) rfl h) (by kernel_rfl) ?_
   refine AS.op [0] [] [11] [] rfl rfl rfl (by kernel_rfl) (by kernel_rfl) rfl rfl (fun _ _ _ h => AOp.move rfl rfl (ltb rfl) rfl h) (by kernel_rfl) ?_
   refine AS.op [22] [] [11] [] rfl rfl rfl (by kernel_rfl) (by kernel_rfl) rfl rfl (fun _ _ _ h => AOp.nilCheck rfl rfl (ltb rfl) rfl rfl h) (by kernel_rfl) ?_
   refine AS.op [23] [] [11] [] rfl rfl rfl (by kernel_rfl) (by kernel_rfl) rfl rfl (fun _ _ _ h => AOp.fieldAddr rfl rfl (ltb rfl) rfl fo78_0 h) (by kernel_rfl) ?_
   refine AS.op [24] [] [11] [] rfl rfl rfl (by kernel_rfl) (by kernel_rfl) rfl rfl (fun _ _ _ h => AOp.load1 rfl rfl (ltb rfl) rfl agg22 rfl rfl h) (by kernel_rfl) ?_
   refine AS.op [1] [] [11] [] rfl rfl rfl (by kernel_rfl) (by kernel_rfl) rfl rfl (fun _ _ _ h => AOp.move rfl rfl (ltb rfl) rfl h) (by kernel_rfl) ?_
   refine AS.op [7] [] [11] [] rfl rfl rfl (by kernel_rfl) (by kernel_rfl) rfl rfl (fun _ _ _ h => AOp.move rfl rfl (ltb rfl) rfl h) (by kernel_rfl) ?_
   refine AS.op [27] [] [11] [] rfl rfl rfl (by kernel_rfl) (by kernel_rfl) rfl rfl (fun _ _ _ h => AOp.imul rfl rfl (ltb rfl) rfl rfl rfl q10.1 q10.2 h) (by kernel_rfl) ?_
   refine AS.op [26, 28] [] [11] [] rfl rfl rfl (by kernel_rfl) (by kernel_rfl) rfl rfl (fun _ _ _ h => AOp.ishr' rfl rfl (ltb rfl) rfl rfl q11.1 q11.2 h) (by kernel_rfl) ?_
   refine AS.op [29] [] [11] [] rfl rfl rfl (by kernel_rfl) (by kernel_rfl) rfl rfl (fun _ _ _ h => AOp.i2i rfl rfl (ltb rfl) rfl Tryd.underlying64 Tryd.underlying5 rfl h) (by kernel_rfl) ?_
   refine AS.op [30] [] [11] [] rfl rfl rfl (by kernel_rfl) (by kernel_rfl) rfl rfl (fun _ _ _ h => AOp.buildSliceD rfl rfl (ltb rfl) el22 zero5 rfl (leb rfl) rfl rfl rfl rfl h) (by kernel_rfl) ?_
   refine AS.mid [25, 31] [] [11] [] rfl rfl rfl rfl (by kernel_rfl) (by kernel_rfl) rfl rfl (fun _ _ _ h => AOp.subO 0 rfl (.cons (SVLe.any _) (.cons (SVLe.refl _) (.cons (SVLe.refl _) (.cons (SVLe.refl _) (.cons (SVLe.refl _) .nil))))) (AOp.appendOwn' (p := 2) (n := g5.2.length) (m := [(IntKind.u8.wrap ((IntKind.u64.wrap a0) / 2 ^ (((8 : Int) * g9)).toNat))].length) (news := (List.map keS4 [(IntKind.u8.wrap ((IntKind.u64.wrap a0) / 2 ^ (((8 : Int) * g9)).toNat))])) rfl rfl (ltb rfl) rfl rfl el22 info5 rfl (by decide) rfl (len1 _ _) (len1 _ _) (one1 _ (fun _ => rfl) _) q12 (by decide) (allNo (.cons rfl (.cons rfl (.cons rfl .nil)))) rfl (cat1 _ _ _) (AO.dropped h))) (by kernel_rfl) rfl ?_
   refine AS.done ?_
   refine AO.objs (obs' := [.fix 78 [.any, .d (dbool a1), .d (dbool false), .d (dbool false), .d (dbool false)], .frame fr1 [(5, .ptr 0 0)], .grow 5 1 (List.map keS4 (g5.2 ++ [(IntKind.u8.wrap ((IntKind.u64.wrap a0) / 2 ^ (((8 : Int) * g9)).toNat))]))]) rfl ?_
   refine AO.op rfl (AOp.nilCheck rfl rfl (ltb rfl) rfl rfl ?_)
   refine AO.op rfl (AOp.fieldAddr rfl rfl (ltb rfl) rfl fo78_0 ?_)
   refine AO.op rfl (AOp.storeOwn rfl rfl rfl rfl rfl rfl size22 rfl rfl (leb rfl) ?_)
   refine AO.nil ?_
   change AC _ _ _ _
   refine AC.region ?_
   obtain ⟨q13, h1⟩ := need_elim h1
   refine AO.op rfl (AOp.iadd rfl rfl (ltb rfl) rfl rfl rfl q13.1 q13.2 ?_)
   refine AO.op rfl (AOp.move rfl rfl (ltb rfl) rfl ?_)
   refine AO.nil ?_
   exact ⟨((g5.1 + (1 : Int)), (g5.2 ++ [(IntKind.u8.wrap ((IntKind.u64.wrap a0) / 2 ^ (((8 : Int) * g9)).toNat))])), _, rfl, (LeL.refl _), rfl, rfl, h1⟩
  replace h1 := cF h1 q8
  refine AC.exit ?_
  obtain rfl := Option.some.inj h1
  exact ⟨g5.2, _, rfl, (LeL.refl _), rfl, rfl, aftL h0⟩
 intro g4 h0
 unfold p_CountBytes_k1 at h0
 refine inlend (ob' := [.fix 78 [.own 2, .d (dbool a1), .d (dbool false), .d (dbool false), .d (dbool false)], .dead, .grow 5 1 (List.map keS4 g4)]) (e' := [(5, .ptr 0 0)]) (r := .tu []) rfl rfl rfl ?_
 change AO _ _ _ _ _
 refine AO.nil ?_
 change AC _ _ _ _
 refine AC.seq ?_
 refine AC.region ?_
 refine AO.op rfl (AOp.move rfl rfl (ltb rfl) rfl ?_)
 refine AO.op rfl (AOp.nilCheck rfl rfl (ltb rfl) rfl rfl ?_)
 refine AO.op rfl (AOp.fieldAddr rfl rfl (ltb rfl) rfl fo78_0 ?_)
 refine AO.op rfl (AOp.load1 rfl rfl (ltb rfl) rfl agg22 rfl rfl ?_)
 refine AO.op rfl (AOp.assign rfl rfl (ltb rfl) rfl ?_)
 refine AO.nil ?_
 change AC _ _ _ _
 refine AC.ret ?_
 change RetQ _ _ _ .ret _
 obtain rfl := Option.some.inj h0
 refine retq rfl rfl

set_option maxRecDepth 100000 in
/-- pub-orthodrome/spec.CountBytes: a new slice -/
theorem wn_CountBytes (F : Nat) (a0 : Int) (a1 : Bool) (r0 : (List Int)) (h0 : p_CountBytes F a0 a1 = some r0) : FnN Tryd.prog 12 [di .u32 a0, dbool a1] 5 1 (fun r => r = (List.map keS4 r0)) := by
 refine FnN.of (by kernel_rfl) Tryd.func12 rfl Tryd.ntmps12 rfl (leb rfl) fun W ok => ?_
 unfold p_CountBytes at h0
 refine AC.seq ?_
 refine AC.region ?_
 refine AO.op rfl (AOp.assign rfl rfl (ltb rfl) rfl ?_)
 refine AO.nil ?_
 change AC _ _ _ _
 refine AC.seq ?_
 refine AC.region ?_
 refine AO.op rfl (AOp.move rfl rfl (ltb rfl) rfl ?_)
 refine AO.op rfl (AOp.build rfl rfl (ltb rfl) zero78 rfl places78 rfl rfl ?_)
 refine AO.op rfl (AOp.box rfl rfl (ltb rfl) rfl rfl ?_)
 refine AO.op rfl (AOp.assign rfl rfl (ltb rfl) rfl ?_)
 refine AO.nil ?_
 change AC _ _ _ _
 refine AC.seq ?_
 refine AC.region ?_
 refine AO.op rfl (AOp.move rfl rfl (ltb rfl) rfl ?_)
 refine AO.op rfl (AOp.move rfl rfl (ltb rfl) rfl ?_)
 refine AO.op rfl (AOp.i2i rfl rfl (ltb rfl) rfl Tryd.underlying43 Tryd.underlying64 rfl ?_)
 refine AO.op rfl (AOp.inl [5] (by kernel_rfl) Tryd.func32 rfl Tryd.ntmps32 rfl rfl (ltb rfl) rfl (leb rfl) rfl ?_)
 intro fr1
 refine AC.seq ?_
 refine AC.region ?_
 refine AO.op rfl (AOp.move rfl rfl (ltb rfl) rfl ?_)
 refine AO.op rfl (AOp.move rfl rfl (ltb rfl) rfl ?_)
 refine AO.nil ?_
 change AC _ _ _ _
 refine AC.adoptO 0 0 5 1 rfl rfl ?_
 obtain ⟨o2, l3, h0⟩ := bind_elim h0
 refine AC.joinE (V := (List Int)) [] [] 3 (fun g4 => []) (fun g4 => [.fix 78 [.own 2, .d (dbool a1), .d (dbool false), .d (dbool false), .d (dbool false)], .frame fr1 [(5, .ptr 0 0)], .grow 5 1 (List.map keS4 g4)]) (fun g4 => p_CountBytes_k1 g4 = some r0) rfl ?_ ?_
 ·refine AC.block ?_
  refine AC.loopP (V := (Int × (List Int))) (p_CountBytes_l2 a0 a1) o2 [0, 1, 2, 8] [9] 3 (fun g5 => [(9, .d (di .i64 g5.1))]) (fun g5 => [.fix 78 [.own 2, .d (dbool a1), .d (dbool false), .d (dbool false), .d (dbool false)], .frame fr1 [(5, .ptr 0 0)], .grow 5 1 (List.map keS4 g5.2)]) F ((0 : Int), []) l3 rfl rfl (LeL.refl _) rfl rfl ?_
  intro n7 g5 h1
  unfold p_CountBytes_l2 at h1
  refine AC.seq ?_
  refine AC.region ?_
  refine AO.op rfl (AOp.ilss rfl rfl (ltb rfl) rfl rfl ?_)
  refine AO.nil ?_
  change AC _ _ _ _
  refine AC.seq ?_
  refine AC.cond rfl (fun q8 => ?_) (fun q8 => ?_)
  ·replace h1 := cT h1 q8
   refine AC.skip ?_
   change AC _ _ _ _
   refine AC.seq ?_
   refine AC.block ?_
   refine AC.seq ?_
   refine AC.region ?_
   refine AO.op rfl (AOp.move rfl rfl (ltb rfl) rfl ?_)
   refine AO.op rfl (AOp.assign rfl rfl (ltb rfl) rfl ?_)
   refine AO.nil ?_
   change AC _ _ _ _
   refine AC.seq ?_
   refine AC.region ?_
   refine AO.op rfl (AOp.move rfl rfl (ltb rfl) rfl ?_)
   refine AO.op rfl (AOp.assign rfl rfl (ltb rfl) rfl ?_)
   refine AO.nil ?_
   change AC _ _ _ _
   refine AC.joinP (V := Int) [0, 1, 2, 8, 9] [7] 3 (fun g9 => [(7, .d (di .i64 g9))]) (fun g9 => [.fix 78 [.own 2, .d (dbool a1), .d (dbool false), .d (dbool false), .d (dbool false)], .frame fr1 [(5, .ptr 0 0)], .grow 5 1 (List.map keS4 g5.2)]) (fun g9 => (p_CountBytes_k3 a0 g5 (iter (p_CountBytes_l2 a0 a1) n7)) g9 = some o2) rfl ?_ ?_
   ·refine AC.seq ?_
    refine AC.region ?_
    refine AO.op rfl (AOp.move rfl rfl (ltb rfl) rfl ?_)
    refine AO.op rfl (AOp.nilCheck rfl rfl (ltb rfl) rfl rfl ?_)
    refine AO.op rfl (AOp.fieldAddr rfl rfl (ltb rfl) rfl fo78_1 ?_)
    refine AO.op rfl (AOp.load1 rfl rfl (ltb rfl) rfl agg4 rfl rfl ?_)
    refine AO.nil ?_
    change AC _ _ _ _
    refine AC.cond rfl (fun q14 => ?_) (fun q14 => ?_)
    ·replace h1 := cT h1 q14
     refine AC.region ?_
     refine AO.op rfl (AOp.move rfl rfl (ltb rfl) rfl ?_)
     refine AO.op rfl (AOp.isub rfl rfl (ltb rfl) rfl rfl (show (4 : Int) - (1 : Int) = (3 : Int) by decide) (by decide) (by decide) ?_)
     refine AO.op rfl (AOp.move rfl rfl (ltb rfl) rfl ?_)
     obtain ⟨q15, h1⟩ := need_elim h1
     refine AO.op rfl (AOp.isub rfl rfl (ltb rfl) rfl rfl rfl q15.1 q15.2 ?_)
     refine AO.op rfl (AOp.assign rfl rfl (ltb rfl) rfl ?_)
     refine AO.nil ?_
     exact ⟨((3 : Int) - g5.1), _, rfl, (LeL.refl _), rfl, rfl, h1⟩
    replace h1 := cF h1 q14
    refine AC.skip ?_
    exact ⟨g5.1, _, rfl, (LeL.refl _), rfl, rfl, h1⟩
   intro g9 h1
   unfold p_CountBytes_k3 at h1
   obtain ⟨q10, h1⟩ := need_elim h1
   obtain ⟨q11, h1⟩ := need_elim h1
   obtain ⟨q12, h1⟩ := need_elim h1
   refine AC.drawS [0, 1, 2, 3, 4, 5, 6, 7, 8, 9, 10, 11] [11] [12, 13, 14] (fun L => [.fix 78 [(bif L 11 then .any else .own 2), .d (dbool a1), .d (dbool false), .d (dbool false), .d (dbool false)], .frame fr1 [(5, .ptr 0 0)], bif L 11 then .grow 5 1 (List.map keS4 (g5.2 ++ [(IntKind.u8.wrap ((IntKind.u64.wrap a0) / 2 ^ (((8 : Int) * g9)).toNat))])) else .grow 5 1 (List.map keS4 g5.2)]) [(11, SV.noO 2)] mixed (by kernel_rfl) (fun L L' h => by simp only [h 11 (by decide), h 11 (by decide)]) rfl ?_
   refine AS.op [0] [] [] [11] rfl rfl rfl (by kernel_rfl) (by kernel_rfl) rfl rfl (fun _ _ _ h => AOp.move rfl rfl (ltb rfl) rfl h) (by kernel_rfl) ?_
   refine AS.op [0] [] [11] [] rfl rfl rfl (by kernel_rfl) (by kernel_rfl) rfl rfl (fun _ _ _ h => AOp.move rfl rfl (ltb rfl) rfl h) (by kernel_rfl) ?_
   refine AS.op [22] [] [11] [] rfl rfl rfl (by kernel_rfl) (by kernel_rfl) rfl rfl (fun _ _ _ h => AOp.nilCheck rfl rfl (ltb rfl) rfl rfl h) (by kernel_rfl) ?_
   refine AS.op [23] [] [11] [] rfl rfl rfl (by kernel_rfl) (by kernel_rfl) rfl rfl (fun _ _ _ h => AOp.fieldAddr rfl rfl (ltb rfl) rfl fo78_0 h) (by kernel_rfl) ?_
   refine AS.op [24] [] [11] [] rfl rfl rfl (by kernel_rfl) (by kernel_rfl) rfl rfl (fun _ _ _ h => AOp.load1 rfl rfl (ltb rfl) rfl agg22 rfl rfl h) (by kernel_rfl) ?_
   refine AS.op [1] [] [11] [] rfl rfl rfl (by kernel_rfl) (by kernel_rfl) rfl rfl (fun _ _ _ h => AOp.move rfl rfl (ltb rfl) rfl h) (by kernel_rfl) ?_
   refine AS.op [7] [] [11] [] rfl rfl rfl (by kernel_rfl) (by kernel_rfl) rfl rfl (fun _ _ _ h => AOp.move rfl rfl (ltb rfl) rfl h) (by kernel_rfl) ?_
   refine AS.op [27] [] [11] [] rfl rfl rfl (by kernel_rfl) (by kernel_rfl) rfl rfl (fun _ _ _ h => AOp.imul rfl rfl (ltb rfl) rfl rfl rfl q10.1 q10.2 h) (by kernel_rfl) ?_
   refine AS.op [26, 28] [] [11] [] rfl rfl rfl (by kernel_rfl) (by kernel_rfl) rfl rfl (fun _ _ _ h => AOp.ishr' rfl rfl (ltb rfl) rfl rfl q11.1 q11.2 h) (by kernel_rfl) ?_
   refine AS.op [29] [] [11] [] rfl rfl rfl (by kernel_rfl) (by kernel_rfl) rfl rfl (fun _ _ _ h => AOp.i2i rfl rfl (ltb rfl) rfl Tryd.underlying64 Tryd.underlying5 rfl h) (by kernel_rfl) ?_
   refine AS.op [30] [] [11] [] rfl rfl rfl (by kernel_rfl) (by kernel_rfl) rfl rfl (fun _ _ _ h => AOp.buildSliceD rfl rfl (ltb rfl) el22 zero5 rfl (leb rfl) rfl rfl rfl rfl h) (by kernel_rfl) ?_
   refine AS.mid [25, 31] [] [11] [] rfl rfl rfl rfl (by kernel_rfl) (by kernel_rfl) rfl rfl (fun _ _ _ h => AOp.subO 0 rfl (.cons (SVLe.any _) (.cons (SVLe.refl _) (.cons (SVLe.refl _) (.cons (SVLe.refl _) (.cons (SVLe.refl _) .nil))))) (AOp.appendOwn' (p := 2) (n := g5.2.length) (m := [(IntKind.u8.wrap ((IntKind.u64.wrap a0) / 2 ^ (((8 : Int) * g9)).toNat))].length) (news := (List.map keS4 [(IntKind.u8.wrap ((IntKind.u64.wrap a0) / 2 ^ (((8 : Int) * g9)).toNat))])) rfl rfl (ltb rfl) rfl rfl el22 info5 rfl (by decide) rfl (len1 _ _) (len1 _ _) (one1 _ (fun _ => rfl) _) q12 (by decide) (allNo (.cons rfl (.cons rfl (.cons rfl .nil)))) rfl (cat1 _ _ _) (AO.dropped h))) (by kernel_rfl) rfl ?_
   refine AS.done ?_
   refine AO.objs (obs' := [.fix 78 [.any, .d (dbool a1), .d (dbool false), .d (dbool false), .d (dbool false)], .frame fr1 [(5, .ptr 0 0)], .grow 5 1 (List.map keS4 (g5.2 ++ [(IntKind.u8.wrap ((IntKind.u64.wrap a0) / 2 ^ (((8 : Int) * g9)).toNat))]))]) rfl ?_
   refine AO.op rfl (AOp.nilCheck rfl rfl (ltb rfl) rfl rfl ?_)
   refine AO.op rfl (AOp.fieldAddr rfl rfl (ltb rfl) rfl fo78_0 ?_)
   refine AO.op rfl (AOp.storeOwn rfl rfl rfl rfl rfl rfl size22 rfl rfl (leb rfl) ?_)
   refine AO.nil ?_
   change AC _ _ _ _
   refine AC.region ?_
   obtain ⟨q13, h1⟩ := need_elim h1
   refine AO.op rfl (AOp.iadd rfl rfl (ltb rfl) rfl rfl rfl q13.1 q13.2 ?_)
   refine AO.op rfl (AOp.move rfl rfl (ltb rfl) rfl ?_)
   refine AO.nil ?_
   exact ⟨((g5.1 + (1 : Int)), (g5.2 ++ [(IntKind.u8.wrap ((IntKind.u64.wrap a0) / 2 ^ (((8 : Int) * g9)).toNat))])), _, rfl, (LeL.refl _), rfl, rfl, h1⟩
  replace h1 := cF h1 q8
  refine AC.exit ?_
  obtain rfl := Option.some.inj h1
  exact ⟨g5.2, _, rfl, (LeL.refl _), rfl, rfl, aftL h0⟩
 intro g4 h0
 unfold p_CountBytes_k1 at h0
 refine inlend (ob' := [.fix 78 [.own 2, .d (dbool a1), .d (dbool false), .d (dbool false), .d (dbool false)], .dead, .grow 5 1 (List.map keS4 g4)]) (e' := [(5, .ptr 0 0)]) (r := .tu []) rfl rfl rfl ?_
 change AO _ _ _ _ _
 refine AO.nil ?_
 change AC _ _ _ _
 refine AC.seq ?_
 refine AC.region ?_
 refine AO.op rfl (AOp.move rfl rfl (ltb rfl) rfl ?_)
 refine AO.op rfl (AOp.nilCheck rfl rfl (ltb rfl) rfl rfl ?_)
 refine AO.op rfl (AOp.fieldAddr rfl rfl (ltb rfl) rfl fo78_0 ?_)
 refine AO.op rfl (AOp.load1 rfl rfl (ltb rfl) rfl agg22 rfl rfl ?_)
 refine AO.op rfl (AOp.assign rfl rfl (ltb rfl) rfl ?_)
 refine AO.nil ?_
 change AC _ _ _ _
 refine AC.ret ?_
 change RetN _ _ _ _ .ret _
 obtain rfl := Option.some.inj h0
 exact ⟨_, _, _, rfl, rfl, rfl, isV_map (fun _ => rfl) _, rfl⟩

set_option maxRecDepth 100000 in
set_option maxHeartbeats 4000000 in
/-- pub-orthodrome/spec.NumParts -/
theorem w_NumParts (a0 : TImpl_Geom) (r0 : Int) (h0 : p_NumParts a0 = some r0) : FnD Tryd.prog 33 [e_TImpl_Geom a0] (fun r => r = di .i64 r0) := by
 refine FnD.of (by kernel_rfl) Tryd.func33 rfl Tryd.ntmps33 rfl (leb rfl) fun W ok => ?_
 unfold p_NumParts at h0
 refine AC.seq ?_
 refine AC.region ?_
 refine AO.op rfl (AOp.box rfl rfl (ltb rfl) rfl rfl ?_)
 refine AO.op rfl (AOp.assign rfl rfl (ltb rfl) rfl ?_)
 refine AO.nil ?_
 change AC _ _ _ _
 refine AC.seq ?_
 refine AC.seq ?_
 refine AC.region ?_
 refine AO.op rfl (AOp.fieldAddr rfl rfl (ltb rfl) rfl fo35_0 ?_)
 refine AO.op rfl (AOp.load1 rfl rfl (ltb rfl) rfl agg3 rfl rfl ?_)
 refine AO.nil ?_
 change AC _ _ _ _
 refine AC.block ?_
 refine AC.joinP (V := Bool) [1, 4] [5] 1 (fun g1 => [(5, .d (dbool g1))]) (fun g1 => [.fix 35 [.d (di .i64 a0.Kind), .d (di .i64 a0.Layout), .d (di .i64 a0.SRID), .d (eS0 a0.Flat), .d (eS1 a0.Ends), .d (eS3 a0.Endss), .d (eS2 a0.Kids)]]) (fun g1 => (p_NumParts_k1 a0) g1 = some r0) rfl ?_ ?_
 ·refine AC.seq ?_
  refine AC.region ?_
  refine AO.op rfl (AOp.ieql rfl rfl (ltb rfl) rfl rfl ?_)
  refine AO.op rfl (AOp.assign rfl rfl (ltb rfl) rfl ?_)
  refine AO.nil ?_
  change AC _ _ _ _
  refine AC.cond rfl (fun q4 => ?_) (fun q4 => ?_)
  ·replace h0 := cT h0 q4
   refine AC.skip ?_
   exact ⟨(decide (a0.Kind = (3 : Int))), _, rfl, (LeL.refl _), rfl, rfl, h0⟩
  replace h0 := cF h0 q4
  refine AC.seq ?_
  refine AC.region ?_
  refine AO.op rfl (AOp.ieql rfl rfl (ltb rfl) rfl rfl ?_)
  refine AO.op rfl (AOp.assign rfl rfl (ltb rfl) rfl ?_)
  refine AO.nil ?_
  change AC _ _ _ _
  refine AC.cond rfl (fun q5 => ?_) (fun q5 => ?_)
  ·replace h0 := cT h0 q5
   refine AC.skip ?_
   exact ⟨(decide (a0.Kind = (4 : Int))), _, rfl, (LeL.refl _), rfl, rfl, h0⟩
  replace h0 := cF h0 q5
  refine AC.region ?_
  refine AO.op rfl (AOp.ieql rfl rfl (ltb rfl) rfl rfl ?_)
  refine AO.op rfl (AOp.assign rfl rfl (ltb rfl) rfl ?_)
  refine AO.nil ?_
  exact ⟨(decide (a0.Kind = (5 : Int))), _, rfl, (LeL.refl _), rfl, rfl, h0⟩
 intro g1 h0
 unfold p_NumParts_k1 at h0
 refine AC.cond rfl (fun q2 => ?_) (fun q2 => ?_)
 ·replace h0 := cT h0 q2
  refine AC.seq ?_
  refine AC.region ?_
  refine AO.op rfl (AOp.fieldAddr rfl rfl (ltb rfl) rfl fo35_4 ?_)
  refine AO.op rfl (AOp.load1 rfl rfl (ltb rfl) rfl agg31 rfl rfl ?_)
  refine AO.op rfl (AOp.lenDs (n := a0.Ends.length) (cells := (List.map keS1 a0.Ends)) rfl rfl (ltb rfl) rfl el31 (by decide) (len1 _ _) ?_)
  refine AO.op rfl (AOp.assign rfl rfl (ltb rfl) rfl ?_)
  refine AO.nil ?_
  change AC _ _ _ _
  refine AC.ret ?_
  change RetQ _ _ _ .ret _
  obtain rfl := Option.some.inj h0
  refine retq rfl rfl
 replace h0 := cF h0 q2
 refine AC.seq ?_
 refine AC.region ?_
 refine AO.op rfl (AOp.ieql rfl rfl (ltb rfl) rfl rfl ?_)
 refine AO.op rfl (AOp.assign rfl rfl (ltb rfl) rfl ?_)
 refine AO.nil ?_
 change AC _ _ _ _
 refine AC.cond rfl (fun q3 => ?_) (fun q3 => ?_)
 ·replace h0 := cT h0 q3
  refine AC.seq ?_
  refine AC.region ?_
  refine AO.op rfl (AOp.fieldAddr rfl rfl (ltb rfl) rfl fo35_5 ?_)
  refine AO.op rfl (AOp.load1 rfl rfl (ltb rfl) rfl agg32 rfl rfl ?_)
  refine AO.op rfl (AOp.lenDs (n := a0.Endss.length) (cells := (List.map keS3 a0.Endss)) rfl rfl (ltb rfl) rfl el32 (by decide) (len1 _ _) ?_)
  refine AO.op rfl (AOp.assign rfl rfl (ltb rfl) rfl ?_)
  refine AO.nil ?_
  change AC _ _ _ _
  refine AC.ret ?_
  change RetQ _ _ _ .ret _
  obtain rfl := Option.some.inj h0
  refine retq rfl rfl
 replace h0 := cF h0 q3
 refine AC.skip ?_
 change AC _ _ _ _
 refine AC.seq ?_
 refine AC.region ?_
 refine AO.op rfl (AOp.fieldAddr rfl rfl (ltb rfl) rfl fo35_6 ?_)
 refine AO.op rfl (AOp.load1 rfl rfl (ltb rfl) rfl agg33 rfl rfl ?_)
 refine AO.op rfl (AOp.lenDs (n := a0.Kids.length) (cells := (List.flatMap c0_TImpl_Geom a0.Kids)) rfl rfl (ltb rfl) rfl el33 (by decide) (lenN _ 7 c0_TImpl_Geom_len _) ?_)
 refine AO.op rfl (AOp.assign rfl rfl (ltb rfl) rfl ?_)
 refine AO.nil ?_
 change AC _ _ _ _
 refine AC.ret ?_
 change RetQ _ _ _ .ret _
 obtain rfl := Option.some.inj h0
 refine retq rfl rfl

set_option maxRecDepth 100000 in
set_option maxHeartbeats 4000000 in
/-- pub-orthodrome/spec.KidOf -/
theorem w_KidOf (a0 : Int) (r0 : Int) (h0 : p_KidOf a0 = some r0) : FnD Tryd.prog 44 [di .i64 a0] (fun r => r = di .i64 r0) := by
 refine FnD.of (by kernel_rfl) Tryd.func44 rfl Tryd.ntmps44 rfl (leb rfl) fun W ok => ?_
 unfold p_KidOf at h0
 refine AC.seq ?_
 refine AC.region ?_
 refine AO.op rfl (AOp.assign rfl rfl (ltb rfl) rfl ?_)
 refine AO.nil ?_
 change AC _ _ _ _
 refine AC.seq ?_
 refine AC.seq ?_
 refine AC.region ?_
 refine AO.op rfl (AOp.move rfl rfl (ltb rfl) rfl ?_)
 refine AO.op rfl (AOp.igeq rfl rfl (ltb rfl) rfl rfl ?_)
 refine AO.op rfl (AOp.move rfl rfl (ltb rfl) rfl ?_)
 refine AO.dec (decide ((4 : Int) ≤ a0)) (fun q1 => ?_) (fun q1 => ?_)
 ·replace h0 := cT h0 q1
  refine AO.guardY rfl rfl rfl q1 (AOp.move rfl rfl (ltb rfl) rfl ?_)
  refine AO.guardY rfl rfl rfl q1 (AOp.ileq rfl rfl (ltb rfl) rfl rfl ?_)
  refine AO.op rfl (AOp.pick rfl rfl (ltb rfl) rfl q1 rfl ?_)
  refine AO.nil ?_
  change AC _ _ _ _
  refine AC.cond rfl (fun q2 => ?_) (fun q2 => ?_)
  ·replace h0 := cT h0 q2
   refine AC.seq ?_
   refine AC.region ?_
   refine AO.op rfl (AOp.move rfl rfl (ltb rfl) rfl ?_)
   obtain ⟨q3, h0⟩ := need_elim h0
   refine AO.op rfl (AOp.isub rfl rfl (ltb rfl) rfl rfl rfl q3.1 q3.2 ?_)
   refine AO.op rfl (AOp.assign rfl rfl (ltb rfl) rfl ?_)
   refine AO.nil ?_
   change AC _ _ _ _
   refine AC.ret ?_
   change RetQ _ _ _ .ret _
   obtain rfl := Option.some.inj h0
   refine retq rfl rfl
  replace h0 := cF h0 q2
  refine AC.skip ?_
  change AC _ _ _ _
  refine AC.seq ?_
  refine AC.region ?_
  refine AO.op rfl (AOp.assign rfl rfl (ltb rfl) rfl ?_)
  refine AO.nil ?_
  change AC _ _ _ _
  refine AC.ret ?_
  change RetQ _ _ _ .ret _
  obtain rfl := Option.some.inj h0
  refine retq rfl rfl
 replace h0 := cF h0 q1
 refine AO.guardN rfl rfl rfl (ltb rfl) rfl q1 ?_
 refine AO.guardN rfl rfl rfl (ltb rfl) rfl q1 ?_
 refine AO.op rfl (AOp.pickN rfl rfl (ltb rfl) rfl q1 rfl ?_)
 refine AO.nil ?_
 change AC _ _ _ _
 refine AC.condF rfl rfl ?_
 refine AC.skip ?_
 change AC _ _ _ _
 refine AC.seq ?_
 refine AC.region ?_
 refine AO.op rfl (AOp.assign rfl rfl (ltb rfl) rfl ?_)
 refine AO.nil ?_
 change AC _ _ _ _
 refine AC.ret ?_
 change RetQ _ _ _ .ret _
 obtain rfl := Option.some.inj h0
 refine retq rfl rfl

set_option maxRecDepth 100000 in
set_option maxHeartbeats 4000000 in
/-- pub-orthodrome/spec.Part -/
theorem w_Part (F : Nat) (a0 : TImpl_Geom) (a1 : Int) (r0 : TImpl_Geom) (h0 : p_Part F a0 a1 = some r0) : FnD Tryd.prog 34 [e_TImpl_Geom a0, di .i64 a1] (fun r => r = e_TImpl_Geom r0) := by
 refine FnD.of (by kernel_rfl) Tryd.func34 rfl Tryd.ntmps34 rfl (leb rfl) fun W ok => ?_
 unfold p_Part at h0
 refine AC.seq ?_
 refine AC.region ?_
 refine AO.op rfl (AOp.box rfl rfl (ltb rfl) rfl rfl ?_)
 refine AO.op rfl (AOp.alloc rfl rfl (ltb rfl) zero35 rfl ?_)
 refine AO.nil ?_
 change AC _ _ _ _
 refine AC.seq ?_
 refine AC.seq ?_
 refine AC.region ?_
 refine AO.op rfl (AOp.fieldAddr rfl rfl (ltb rfl) rfl fo35_0 ?_)
 refine AO.op rfl (AOp.load1 rfl rfl (ltb rfl) rfl agg3 rfl rfl ?_)
 refine AO.op rfl (AOp.ieql rfl rfl (ltb rfl) rfl rfl ?_)
 refine AO.nil ?_
 change AC _ _ _ _
 refine AC.cond rfl (fun q1 => ?_) (fun q1 => ?_)
 ·replace h0 := cT h0 q1
  refine AC.seq ?_
  refine AC.region ?_
  refine AO.op rfl (AOp.fieldAddr rfl rfl (ltb rfl) rfl fo35_6 ?_)
  refine AO.op rfl (AOp.load1 rfl rfl (ltb rfl) rfl agg33 rfl rfl ?_)
  refine AO.op rfl (AOp.move rfl rfl (ltb rfl) rfl ?_)
  obtain ⟨x2, q3, h0⟩ := idx_elim h0
  refine AO.op rfl (AOp.indexDs (cells := (List.flatMap c0_TImpl_Geom a0.Kids)) rfl rfl (ltb rfl) rfl rfl el33 (by decide) q3.1 (ltN 7 c0_TImpl_Geom_len (by decide) q3.2) ?_)
  refine AO.op rfl (AOp.loadEpN rfl rfl (ltb rfl) rfl agg35 size35 (leN 7 c0_TImpl_Geom_len q3.2) ((atN 7 c0_TImpl_Geom_len q3.2).trans (c0_TImpl_Geom_eq x2)) ?_)
  refine AO.op rfl (AOp.store rfl rfl rfl rfl size35 rfl rfl rfl (leb rfl) ?_)
  refine AO.nil ?_
  change AC _ _ _ _
  refine AC.ret ?_
  change RetQ _ _ _ .ret _
  obtain rfl := Option.some.inj h0
  refine retq rfl rfl
 replace h0 := cF h0 q1
 refine AC.skip ?_
 change AC _ _ _ _
 refine AC.seq ?_
 refine AC.seq ?_
 refine AC.region ?_
 refine AO.op rfl (AOp.fieldAddr rfl rfl (ltb rfl) rfl fo35_0 ?_)
 refine AO.op rfl (AOp.load1 rfl rfl (ltb rfl) rfl agg3 rfl rfl ?_)
 refine AO.op rfl (AOp.ieql rfl rfl (ltb rfl) rfl rfl ?_)
 refine AO.nil ?_
 change AC _ _ _ _
 refine AC.cond rfl (fun q4 => ?_) (fun q4 => ?_)
 ·replace h0 := cT h0 q4
  refine AC.seq ?_
  refine AC.region ?_
  refine AO.op rfl (AOp.assign rfl rfl (ltb rfl) rfl ?_)
  refine AO.nil ?_
  change AC _ _ _ _
  refine AC.seq ?_
  refine AC.seq ?_
  refine AC.region ?_
  refine AO.op rfl (AOp.fieldAddr rfl rfl (ltb rfl) rfl fo35_5 ?_)
  refine AO.op rfl (AOp.load1 rfl rfl (ltb rfl) rfl agg32 rfl rfl ?_)
  refine AO.op rfl (AOp.move rfl rfl (ltb rfl) rfl ?_)
  obtain ⟨q5, h0⟩ := need_elim h0
  refine AO.op rfl (AOp.sliceD (cells := (List.map keS3 a0.Endss)) (n := a0.Endss.length) (l := 0) (hh := (a1).toNat) rfl rfl (ltb rfl) rfl (.inl ⟨rfl, rfl⟩) (.inr ⟨_, _, _, rfl, rfl, q5.1.2, rfl⟩) el32 (by decide) (len1 _ _) q5.2.1 q5.2.2 (sub1 _ _ _ _) ?_)
  refine AO.op rfl (AOp.lenDs (n := ((a0.Endss.drop 0).take ((a1).toNat - 0)).length) (cells := (List.map keS3 ((a0.Endss.drop 0).take ((a1).toNat - 0)))) rfl rfl (ltb rfl) rfl el32 (by decide) (len1 _ _) ?_)
  refine AO.op rfl (AOp.move rfl rfl (ltb rfl) rfl ?_)
  refine AO.nil ?_
  change AC _ _ _ _
  obtain ⟨o6, l7, h0⟩ := bind_elim h0
  refine AC.joinE (V := Int) [1, 2, 4] [5] 2 (fun g8 => [(5, .d (di .i64 g8))]) (fun g8 => [.fix 35 [.d (di .i64 a0.Kind), .d (di .i64 a0.Layout), .d (di .i64 a0.SRID), .d (eS0 a0.Flat), .d (eS1 a0.Ends), .d (eS3 a0.Endss), .d (eS2 a0.Kids)], .fix 35 [.d (di .i64 (0 : Int)), .d (di .i64 (0 : Int)), .d (di .i64 (0 : Int)), .d (.v (.slice none 0 0)), .d (.v (.slice none 0 0)), .d (.v (.slice none 0 0)), .d (.v (.slice none 0 0))]]) (fun g8 => (p_Part_k1 a0 a1 F) g8 = some r0) rfl ?_ ?_
  ·refine AC.block ?_
   refine AC.loopP (V := (Int × Int)) (p_Part_l4 a0 a1) o6 [1, 2, 4, 28, 29] [5, 30] 2 (fun g25 => [(5, .d (di .i64 g25.1)), (30, .d (di .i64 g25.2))]) (fun g25 => [.fix 35 [.d (di .i64 a0.Kind), .d (di .i64 a0.Layout), .d (di .i64 a0.SRID), .d (eS0 a0.Flat), .d (eS1 a0.Ends), .d (eS3 a0.Endss), .d (eS2 a0.Kids)], .fix 35 [.d (di .i64 (0 : Int)), .d (di .i64 (0 : Int)), .d (di .i64 (0 : Int)), .d (.v (.slice none 0 0)), .d (.v (.slice none 0 0)), .d (.v (.slice none 0 0)), .d (.v (.slice none 0 0))]]) F ((0 : Int), (0 : Int)) l7 rfl rfl (LeL.refl _) rfl rfl ?_
   intro n27 g25 h1
   unfold p_Part_l4 at h1
   refine AC.seq ?_
   refine AC.region ?_
   refine AO.op rfl (AOp.ilss rfl rfl (ltb rfl) rfl rfl ?_)
   refine AO.nil ?_
   change AC _ _ _ _
   refine AC.seq ?_
   refine AC.cond rfl (fun q28 => ?_) (fun q28 => ?_)
   ·replace h1 := cT h1 q28
    refine AC.skip ?_
    change AC _ _ _ _
    refine AC.seq ?_
    refine AC.block ?_
    refine AC.seq ?_
    refine AC.region ?_
    obtain ⟨x29, q30, h1⟩ := idx_elim h1
    refine AO.op rfl (AOp.indexDs (cells := (List.map keS3 ((a0.Endss.drop 0).take ((a1).toNat - 0)))) rfl rfl (ltb rfl) rfl rfl el32 (by decide) q30.1 (lt1 q30.2) ?_)
    refine AO.op rfl (AOp.loadEp rfl rfl (ltb rfl) rfl agg31 (at1 q30.2) ?_)
    refine AO.op rfl (AOp.assign rfl rfl (ltb rfl) rfl ?_)
    refine AO.nil ?_
    change AC _ _ _ _
    refine AC.seq ?_
    refine AC.region ?_
    refine AO.op rfl (AOp.move rfl rfl (ltb rfl) rfl ?_)
    refine AO.op rfl (AOp.lenDs (n := x29.length) (cells := (List.map keS1 x29)) rfl rfl (ltb rfl) rfl el31 (by decide) (len1 _ _) ?_)
    refine AO.op rfl (AOp.igtr rfl rfl (ltb rfl) rfl rfl ?_)
    refine AO.nil ?_
    change AC _ _ _ _
    refine AC.cond rfl (fun q31 => ?_) (fun q31 => ?_)
    ·replace h1 := cT h1 q31
     refine AC.region ?_
     refine AO.op rfl (AOp.move rfl rfl (ltb rfl) rfl ?_)
     refine AO.op rfl (AOp.move rfl rfl (ltb rfl) rfl ?_)
     refine AO.op rfl (AOp.lenDs (n := x29.length) (cells := (List.map keS1 x29)) rfl rfl (ltb rfl) rfl el31 (by decide) (len1 _ _) ?_)
     obtain ⟨q32, h1⟩ := need_elim h1
     refine AO.op rfl (AOp.isub rfl rfl (ltb rfl) rfl rfl rfl q32.1 q32.2 ?_)
     obtain ⟨x33, q34, h1⟩ := idx_elim h1
     refine AO.op rfl (AOp.indexDs (cells := (List.map keS1 x29)) rfl rfl (ltb rfl) rfl rfl el31 (by decide) q34.1 (lt1 q34.2) ?_)
     refine AO.op rfl (AOp.loadEp rfl rfl (ltb rfl) rfl agg3 (at1 q34.2) ?_)
     refine AO.op rfl (AOp.assign rfl rfl (ltb rfl) rfl ?_)
     refine AO.nil ?_
     change AC _ _ _ _
     refine AC.region ?_
     obtain ⟨q35, h1⟩ := need_elim h1
     refine AO.op rfl (AOp.iadd rfl rfl (ltb rfl) rfl rfl rfl q35.1 q35.2 ?_)
     refine AO.op rfl (AOp.move rfl rfl (ltb rfl) rfl ?_)
     refine AO.nil ?_
     exact ⟨(x33, (g25.2 + (1 : Int))), _, rfl, (LeL.refl _), rfl, rfl, h1⟩
    replace h1 := cF h1 q31
    refine AC.skip ?_
    change AC _ _ _ _
    refine AC.region ?_
    obtain ⟨q36, h1⟩ := need_elim h1
    refine AO.op rfl (AOp.iadd rfl rfl (ltb rfl) rfl rfl rfl q36.1 q36.2 ?_)
    refine AO.op rfl (AOp.move rfl rfl (ltb rfl) rfl ?_)
    refine AO.nil ?_
    exact ⟨(g25.1, (g25.2 + (1 : Int))), _, rfl, (LeL.refl _), rfl, rfl, h1⟩
   replace h1 := cF h1 q28
   refine AC.exit ?_
   obtain rfl := Option.some.inj h1
   exact ⟨g25.1, _, rfl, (LeL.refl _), rfl, rfl, aftL h0⟩
  intro g8 h0
  unfold p_Part_k1 at h0
  change AC _ _ _ _
  refine AC.seq ?_
  refine AC.region ?_
  refine AO.op rfl (AOp.fieldAddr rfl rfl (ltb rfl) rfl fo35_1 ?_)
  refine AO.op rfl (AOp.load1 rfl rfl (ltb rfl) rfl agg3 rfl rfl ?_)
  refine AO.op rfl (AOp.build rfl rfl (ltb rfl) zero35 rfl places35 rfl rfl ?_)
  refine AO.op rfl (AOp.alloc rfl rfl (ltb rfl) zero35 rfl ?_)
  refine AO.op rfl (AOp.store rfl rfl rfl rfl size35 rfl rfl rfl (leb rfl) ?_)
  refine AO.nil ?_
  change AC _ _ _ _
  refine AC.seq ?_
  refine AC.region ?_
  refine AO.op rfl (AOp.move rfl rfl (ltb rfl) rfl ?_)
  refine AO.op rfl (AOp.assign rfl rfl (ltb rfl) rfl ?_)
  refine AO.nil ?_
  change AC _ _ _ _
  refine AC.seq ?_
  refine AC.seq ?_
  refine AC.region ?_
  refine AO.op rfl (AOp.fieldAddr rfl rfl (ltb rfl) rfl fo35_5 ?_)
  refine AO.op rfl (AOp.load1 rfl rfl (ltb rfl) rfl agg32 rfl rfl ?_)
  refine AO.op rfl (AOp.move rfl rfl (ltb rfl) rfl ?_)
  obtain ⟨x9, q10, h0⟩ := idx_elim h0
  refine AO.op rfl (AOp.indexDs (cells := (List.map keS3 a0.Endss)) rfl rfl (ltb rfl) rfl rfl el32 (by decide) q10.1 (lt1 q10.2) ?_)
  refine AO.op rfl (AOp.loadEp rfl rfl (ltb rfl) rfl agg31 (at1 q10.2) ?_)
  refine AO.op rfl (AOp.lenDs (n := x9.length) (cells := (List.map keS1 x9)) rfl rfl (ltb rfl) rfl el31 (by decide) (len1 _ _) ?_)
  refine AO.op rfl (AOp.move rfl rfl (ltb rfl) rfl ?_)
  refine AO.nil ?_
  change AC _ _ _ _
  refine AC.adoptO 2 4 3 1 rfl rfl ?_
  obtain ⟨o11, l12, h0⟩ := bind_elim h0
  refine AC.joinE (V := (Int × (List Int))) [2, 4, 5, 8] [9] 4 (fun g13 => [(9, .d (di .i64 g13.1))]) (fun g13 => [.fix 35 [.d (di .i64 a0.Kind), .d (di .i64 a0.Layout), .d (di .i64 a0.SRID), .d (eS0 a0.Flat), .d (eS1 a0.Ends), .d (eS3 a0.Endss), .d (eS2 a0.Kids)], .fix 35 [.d (di .i64 (0 : Int)), .d (di .i64 (0 : Int)), .d (di .i64 (0 : Int)), .d (.v (.slice none 0 0)), .d (.v (.slice none 0 0)), .d (.v (.slice none 0 0)), .d (.v (.slice none 0 0))], .fix 35 [.d (di .i64 (3 : Int)), .d (di .i64 a0.Layout), .d (di .i64 (0 : Int)), .d (.v (.slice none 0 0)), .own 3, .d (.v (.slice none 0 0)), .d (.v (.slice none 0 0))], .grow 3 1 (List.map keS1 g13.2)]) (fun g13 => (p_Part_k2 a0 g8) g13 = some r0) rfl ?_ ?_
  ·refine AC.block ?_
   refine AC.loopP (V := (Int × Int × (List Int))) (p_Part_l3 g8 x9) o11 [2, 4, 5, 8, 52, 53] [9, 54] 4 (fun g16 => [(9, .d (di .i64 g16.1)), (54, .d (di .i64 g16.2.1))]) (fun g16 => [.fix 35 [.d (di .i64 a0.Kind), .d (di .i64 a0.Layout), .d (di .i64 a0.SRID), .d (eS0 a0.Flat), .d (eS1 a0.Ends), .d (eS3 a0.Endss), .d (eS2 a0.Kids)], .fix 35 [.d (di .i64 (0 : Int)), .d (di .i64 (0 : Int)), .d (di .i64 (0 : Int)), .d (.v (.slice none 0 0)), .d (.v (.slice none 0 0)), .d (.v (.slice none 0 0)), .d (.v (.slice none 0 0))], .fix 35 [.d (di .i64 (3 : Int)), .d (di .i64 a0.Layout), .d (di .i64 (0 : Int)), .d (.v (.slice none 0 0)), .own 3, .d (.v (.slice none 0 0)), .d (.v (.slice none 0 0))], .grow 3 1 (List.map keS1 g16.2.2)]) F (g8, (0 : Int), []) l12 rfl rfl (LeL.refl _) rfl rfl ?_
   intro n18 g16 h1
   unfold p_Part_l3 at h1
   refine AC.seq ?_
   refine AC.region ?_
   refine AO.op rfl (AOp.ilss rfl rfl (ltb rfl) rfl rfl ?_)
   refine AO.nil ?_
   change AC _ _ _ _
   refine AC.seq ?_
   refine AC.cond rfl (fun q19 => ?_) (fun q19 => ?_)
   ·replace h1 := cT h1 q19
    refine AC.skip ?_
    change AC _ _ _ _
    refine AC.seq ?_
    refine AC.block ?_
    refine AC.seq ?_
    refine AC.region ?_
    obtain ⟨x20, q21, h1⟩ := idx_elim h1
    refine AO.op rfl (AOp.indexDs (cells := (List.map keS1 x9)) rfl rfl (ltb rfl) rfl rfl el31 (by decide) q21.1 (lt1 q21.2) ?_)
    refine AO.op rfl (AOp.loadEp rfl rfl (ltb rfl) rfl agg3 (at1 q21.2) ?_)
    refine AO.op rfl (AOp.assign rfl rfl (ltb rfl) rfl ?_)
    refine AO.nil ?_
    change AC _ _ _ _
    refine AC.seq ?_
    refine AC.region ?_
    refine AO.op rfl (AOp.fieldAddr rfl rfl (ltb rfl) rfl fo35_4 ?_)
    refine AO.op rfl (AOp.load1 rfl rfl (ltb rfl) rfl agg31 rfl rfl ?_)
    refine AO.op rfl (AOp.move rfl rfl (ltb rfl) rfl ?_)
    refine AO.op rfl (AOp.move rfl rfl (ltb rfl) rfl ?_)
    obtain ⟨q22, h1⟩ := need_elim h1
    refine AO.op rfl (AOp.isub rfl rfl (ltb rfl) rfl rfl rfl q22.1 q22.2 ?_)
    refine AO.op rfl (AOp.buildSliceD rfl rfl (ltb rfl) el31 zero3 rfl (leb rfl) rfl rfl rfl rfl ?_)
    refine AO.subO 2 rfl (.cons (SVLe.refl _) (.cons (SVLe.refl _) (.cons (SVLe.refl _) (.cons (SVLe.refl _) (.cons (SVLe.any _) (.cons (SVLe.refl _) (.cons (SVLe.refl _) .nil))))))) ?_
    obtain ⟨q23, h1⟩ := need_elim h1
    refine AO.op rfl (AOp.appendOwn' (p := 3) (n := g16.2.2.length) (m := [(x20 - g8)].length) (news := (List.map keS1 [(x20 - g8)])) rfl rfl (ltb rfl) rfl rfl el31 info3 rfl (by decide) rfl (len1 _ _) (len1 _ _) (one1 _ (fun _ => rfl) _) q23 (by decide) rfl rfl (cat1 _ _ _) ?_)
    refine AO.op rfl (AOp.fieldAddr rfl rfl (ltb rfl) rfl fo35_4 ?_)
    refine AO.op rfl (AOp.storeOwn rfl rfl rfl rfl rfl rfl size31 rfl rfl (leb rfl) ?_)
    refine AO.nil ?_
    change AC _ _ _ _
    refine AC.region ?_
    refine AO.op rfl (AOp.move rfl rfl (ltb rfl) rfl ?_)
    refine AO.op rfl (AOp.assign rfl rfl (ltb rfl) rfl ?_)
    refine AO.nil ?_
    change AC _ _ _ _
    refine AC.region ?_
    obtain ⟨q24, h1⟩ := need_elim h1
    refine AO.op rfl (AOp.iadd rfl rfl (ltb rfl) rfl rfl rfl q24.1 q24.2 ?_)
    refine AO.op rfl (AOp.move rfl rfl (ltb rfl) rfl ?_)
    refine AO.nil ?_
    exact ⟨(x20, (g16.2.1 + (1 : Int)), (g16.2.2 ++ [(x20 - g8)])), _, rfl, (LeL.refl _), rfl, rfl, h1⟩
   replace h1 := cF h1 q19
   refine AC.exit ?_
   obtain rfl := Option.some.inj h1
   exact ⟨(g16.1, g16.2.2), _, rfl, (LeL.refl _), rfl, rfl, aftL h0⟩
  intro g13 h0
  unfold p_Part_k2 at h0
  change AC _ _ _ _
  refine AC.seq ?_
  refine AC.region ?_
  refine AO.op rfl (AOp.buildOwn rfl rfl (ltb rfl) el24 zero63 rfl (leb rfl) rfl rfl rfl rfl ?_)
  refine AO.op rfl (AOp.fieldAddr rfl rfl (ltb rfl) rfl fo35_3 ?_)
  refine AO.op rfl (AOp.load1 rfl rfl (ltb rfl) rfl agg24 rfl rfl ?_)
  refine AO.op rfl (AOp.move rfl rfl (ltb rfl) rfl ?_)
  refine AO.op rfl (AOp.move rfl rfl (ltb rfl) rfl ?_)
  obtain ⟨q14, h0⟩ := need_elim h0
  refine AO.op rfl (AOp.sliceD (cells := (List.map keS0 a0.Flat)) (n := a0.Flat.length) (l := (g8).toNat) (hh := (g13.1).toNat) rfl rfl (ltb rfl) rfl (.inr ⟨_, _, _, rfl, rfl, q14.1.1, rfl⟩) (.inr ⟨_, _, _, rfl, rfl, q14.1.2, rfl⟩) el24 (by decide) (len1 _ _) q14.2.1 q14.2.2 (sub1 _ _ _ _) ?_)
  obtain ⟨q15, h0⟩ := need_elim h0
  refine AO.op rfl (AOp.appendOwn' (p := 4) (n := 0) (m := ((a0.Flat.drop (g8).toNat).take ((g13.1).toNat - (g8).toNat)).length) (news := (List.map keS0 ((a0.Flat.drop (g8).toNat).take ((g13.1).toNat - (g8).toNat)))) rfl rfl (ltb rfl) rfl rfl el24 info63 rfl (by decide) rfl rfl (len1 _ _) (one1 _ (fun _ => rfl) _) q15 (by decide) rfl rfl rfl ?_)
  refine AO.op rfl (AOp.fieldAddr rfl rfl (ltb rfl) rfl fo35_3 ?_)
  refine AO.op rfl (AOp.storeOwn rfl rfl rfl rfl rfl rfl size24 rfl rfl (leb rfl) ?_)
  refine AO.nil ?_
  change AC _ _ _ _
  refine AC.seq ?_
  refine AC.region ?_
  refine AO.op rfl (AOp.loadN rfl rfl (ltb rfl) rfl agg35 size35 rfl (leb rfl) rfl ?_)
  refine AO.subO 2 rfl (.cons (SVLe.refl _) (.cons (SVLe.refl _) (.cons (SVLe.refl _) (.cons (SVLe.any _) (.cons (SVLe.refl _) (.cons (SVLe.refl _) (.cons (SVLe.refl _) .nil))))))) ?_
  refine AO.freezeG 4 rfl rfl rfl ?_
  refine AO.subO 2 rfl (.cons (SVLe.refl _) (.cons (SVLe.refl _) (.cons (SVLe.refl _) (.cons (SVLe.refl _) (.cons (SVLe.any _) (.cons (SVLe.refl _) (.cons (SVLe.refl _) .nil))))))) ?_
  refine AO.freezeG 3 rfl rfl rfl ?_
  refine AO.op rfl (AOp.store rfl rfl rfl rfl size35 rfl rfl rfl (leb rfl) ?_)
  refine AO.nil ?_
  change AC _ _ _ _
  refine AC.subO 1 rfl (.cons (SVLe.refl _) (.cons (SVLe.refl _) (.cons (SVLe.refl _) (.cons (SVLe.refl _) (.cons (SVLe.refl _) (.cons (SVLe.nil 1) (.cons (SVLe.nil 7) .nil))))))) ?_
  refine AC.ret ?_
  change RetQ _ _ _ .ret _
  obtain rfl := Option.some.inj h0
  refine retq rfl rfl
 replace h0 := cF h0 q4
 refine AC.skip ?_
 change AC _ _ _ _
 refine AC.seq ?_
 refine AC.region ?_
 refine AO.op rfl (AOp.assign rfl rfl (ltb rfl) rfl ?_)
 refine AO.nil ?_
 change AC _ _ _ _
 refine AC.joinP (V := Int) [1, 2, 4] [12] 2 (fun g37 => [(12, .d (di .i64 g37))]) (fun g37 => [.fix 35 [.d (di .i64 a0.Kind), .d (di .i64 a0.Layout), .d (di .i64 a0.SRID), .d (eS0 a0.Flat), .d (eS1 a0.Ends), .d (eS3 a0.Endss), .d (eS2 a0.Kids)], .fix 35 [.d (di .i64 (0 : Int)), .d (di .i64 (0 : Int)), .d (di .i64 (0 : Int)), .d (.v (.slice none 0 0)), .d (.v (.slice none 0 0)), .d (.v (.slice none 0 0)), .d (.v (.slice none 0 0))]]) (fun g37 => (p_Part_k5 a0 a1) g37 = some r0) rfl ?_ ?_
 ·refine AC.seq ?_
  refine AC.region ?_
  refine AO.op rfl (AOp.move rfl rfl (ltb rfl) rfl ?_)
  refine AO.op rfl (AOp.igtr rfl rfl (ltb rfl) rfl rfl ?_)
  refine AO.nil ?_
  change AC _ _ _ _
  refine AC.cond rfl (fun q46 => ?_) (fun q46 => ?_)
  ·replace h0 := cT h0 q46
   refine AC.region ?_
   refine AO.op rfl (AOp.fieldAddr rfl rfl (ltb rfl) rfl fo35_4 ?_)
   refine AO.op rfl (AOp.load1 rfl rfl (ltb rfl) rfl agg31 rfl rfl ?_)
   refine AO.op rfl (AOp.move rfl rfl (ltb rfl) rfl ?_)
   obtain ⟨q47, h0⟩ := need_elim h0
   refine AO.op rfl (AOp.isub rfl rfl (ltb rfl) rfl rfl rfl q47.1 q47.2 ?_)
   obtain ⟨x48, q49, h0⟩ := idx_elim h0
   refine AO.op rfl (AOp.indexDs (cells := (List.map keS1 a0.Ends)) rfl rfl (ltb rfl) rfl rfl el31 (by decide) q49.1 (lt1 q49.2) ?_)
   refine AO.op rfl (AOp.loadEp rfl rfl (ltb rfl) rfl agg3 (at1 q49.2) ?_)
   refine AO.op rfl (AOp.assign rfl rfl (ltb rfl) rfl ?_)
   refine AO.nil ?_
   exact ⟨x48, _, rfl, (LeL.refl _), rfl, rfl, h0⟩
  replace h0 := cF h0 q46
  refine AC.skip ?_
  exact ⟨(0 : Int), _, rfl, (LeL.refl _), rfl, rfl, h0⟩
 intro g37 h0
 unfold p_Part_k5 at h0
 refine AC.seq ?_
 refine AC.region ?_
 refine AO.op rfl (AOp.assign rfl rfl (ltb rfl) rfl ?_)
 refine AO.nil ?_
 change AC _ _ _ _
 refine AC.joinP (V := Int) [1, 2, 4, 12] [13] 2 (fun g38 => [(13, .d (di .i64 g38))]) (fun g38 => [.fix 35 [.d (di .i64 a0.Kind), .d (di .i64 a0.Layout), .d (di .i64 a0.SRID), .d (eS0 a0.Flat), .d (eS1 a0.Ends), .d (eS3 a0.Endss), .d (eS2 a0.Kids)], .fix 35 [.d (di .i64 (0 : Int)), .d (di .i64 (0 : Int)), .d (di .i64 (0 : Int)), .d (.v (.slice none 0 0)), .d (.v (.slice none 0 0)), .d (.v (.slice none 0 0)), .d (.v (.slice none 0 0))]]) (fun g38 => (p_Part_k6 a0 a1 g37) g38 = some r0) rfl ?_ ?_
 ·refine AC.seq ?_
  refine AC.region ?_
  refine AO.op rfl (AOp.fieldAddr rfl rfl (ltb rfl) rfl fo35_0 ?_)
  refine AO.op rfl (AOp.load1 rfl rfl (ltb rfl) rfl agg3 rfl rfl ?_)
  refine AO.op rfl (AOp.ineq rfl rfl (ltb rfl) rfl rfl ?_)
  refine AO.nil ?_
  change AC _ _ _ _
  refine AC.cond rfl (fun q43 => ?_) (fun q43 => ?_)
  ·replace h0 := cT h0 q43
   refine AC.region ?_
   refine AO.op rfl (AOp.fieldAddr rfl rfl (ltb rfl) rfl fo35_0 ?_)
   refine AO.op rfl (AOp.load1 rfl rfl (ltb rfl) rfl agg3 rfl rfl ?_)
   obtain ⟨y44, q45, h0⟩ := bind_elim h0
   refine AO.op rfl (AOp.callD rfl rfl (ltb rfl) rfl rfl (w_KidOf a0.Kind y44 q45) ?_)
   rintro _ rfl
   refine AO.op rfl (AOp.assign rfl rfl (ltb rfl) rfl ?_)
   refine AO.nil ?_
   exact ⟨y44, _, rfl, (LeL.refl _), rfl, rfl, h0⟩
  replace h0 := cF h0 q43
  refine AC.skip ?_
  exact ⟨(8 : Int), _, rfl, (LeL.refl _), rfl, rfl, h0⟩
 intro g38 h0
 unfold p_Part_k6 at h0
 refine AC.seq ?_
 refine AC.room ?_
 obtain ⟨x39, q40, h0⟩ := idx_elim h0
 obtain ⟨q41, h0⟩ := need_elim h0
 obtain ⟨q42, h0⟩ := need_elim h0
 refine AC.drawS [0, 1, 2, 3, 4, 5, 6, 7, 8, 9, 10, 11, 12, 13] [3, 13] [14, 15] (fun L => [.fix 35 [.d (di .i64 a0.Kind), .d (di .i64 a0.Layout), .d (di .i64 a0.SRID), .d (eS0 a0.Flat), .d (eS1 a0.Ends), .d (eS3 a0.Endss), .d (eS2 a0.Kids)], .fix 35 [.d (di .i64 (0 : Int)), .d (di .i64 (0 : Int)), .d (di .i64 (0 : Int)), .d (.v (.slice none 0 0)), .d (.v (.slice none 0 0)), .d (.v (.slice none 0 0)), .d (.v (.slice none 0 0))], bif L 13 then .grow 63 1 (List.map keS0 ((a0.Flat.drop (g37).toNat).take ((x39).toNat - (g37).toNat))) else bif L 3 then .grow 63 1 (List.map keS0 []) else .dead]) [(3, SV.noO2 2 3), (13, SV.noO 2)] mixed (by kernel_rfl) (fun L L' h => by simp only [h 3 (by decide), h 13 (by decide)]) rfl ?_
 refine AS.op [13] [] [] [3, 13] rfl rfl rfl (by kernel_rfl) (by kernel_rfl) rfl rfl (fun _ _ _ h => AOp.move rfl rfl (ltb rfl) rfl h) (by kernel_rfl) ?_
 refine AS.op [2] [] [] [3, 13] rfl rfl rfl (by kernel_rfl) (by kernel_rfl) rfl rfl (fun _ _ _ h => AOp.fieldAddr rfl rfl (ltb rfl) rfl fo35_1 h) (by kernel_rfl) ?_
 refine AS.op [92] [] [] [3, 13] rfl rfl rfl (by kernel_rfl) (by kernel_rfl) rfl rfl (fun _ _ _ h => AOp.load1 rfl rfl (ltb rfl) rfl agg3 rfl rfl h) (by kernel_rfl) ?_
 refine AS.mid [] [] [13, 3] [] rfl rfl rfl rfl (by kernel_rfl) (by kernel_rfl) rfl rfl (fun _ _ _ h => AOp.buildOwn rfl rfl (ltb rfl) el24 zero63 rfl (leb rfl) rfl rfl rfl rfl (AO.sink 2 3 rfl rfl rfl (.cons rfl (.cons rfl (.cons (noO2_cond rfl (noO2_cond rfl rfl)) .nil))) rfl h)) (by kernel_rfl) rfl ?_
 refine AS.op [2] [] [13] [3] rfl rfl rfl (by kernel_rfl) (by kernel_rfl) rfl rfl (fun _ _ _ h => AOp.fieldAddr rfl rfl (ltb rfl) rfl fo35_3 h) (by kernel_rfl) ?_
 refine AS.op [95] [] [13] [3] rfl rfl rfl (by kernel_rfl) (by kernel_rfl) rfl rfl (fun _ _ _ h => AOp.load1 rfl rfl (ltb rfl) rfl agg24 rfl rfl h) (by kernel_rfl) ?_
 refine AS.op [12] [] [13] [3] rfl rfl rfl (by kernel_rfl) (by kernel_rfl) rfl rfl (fun _ _ _ h => AOp.move rfl rfl (ltb rfl) rfl h) (by kernel_rfl) ?_
 refine AS.op [2] [] [13] [3] rfl rfl rfl (by kernel_rfl) (by kernel_rfl) rfl rfl (fun _ _ _ h => AOp.fieldAddr rfl rfl (ltb rfl) rfl fo35_4 h) (by kernel_rfl) ?_
 refine AS.op [98] [] [13] [3] rfl rfl rfl (by kernel_rfl) (by kernel_rfl) rfl rfl (fun _ _ _ h => AOp.load1 rfl rfl (ltb rfl) rfl agg31 rfl rfl h) (by kernel_rfl) ?_
 refine AS.op [1] [] [13] [3] rfl rfl rfl (by kernel_rfl) (by kernel_rfl) rfl rfl (fun _ _ _ h => AOp.move rfl rfl (ltb rfl) rfl h) (by kernel_rfl) ?_
 refine AS.op [99, 100] [] [13] [3] rfl rfl rfl (by kernel_rfl) (by kernel_rfl) rfl rfl (fun _ _ _ h => AOp.indexDs (cells := (List.map keS1 a0.Ends)) rfl rfl (ltb rfl) rfl rfl el31 (by decide) q40.1 (lt1 q40.2) h) (by kernel_rfl) ?_
 refine AS.op [101] [] [13] [3] rfl rfl rfl (by kernel_rfl) (by kernel_rfl) rfl rfl (fun _ _ _ h => AOp.loadEp rfl rfl (ltb rfl) rfl agg3 (at1 q40.2) h) (by kernel_rfl) ?_
 refine AS.op [96, 97, 102] [] [13] [3] rfl rfl rfl (by kernel_rfl) (by kernel_rfl) rfl rfl (fun _ _ _ h => AOp.sliceD (cells := (List.map keS0 a0.Flat)) (n := a0.Flat.length) (l := (g37).toNat) (hh := (x39).toNat) rfl rfl (ltb rfl) rfl (.inr ⟨_, _, _, rfl, rfl, q41.1.1, rfl⟩) (.inr ⟨_, _, _, rfl, rfl, q41.1.2, rfl⟩) el24 (by decide) (len1 _ _) q41.2.1 q41.2.2 (sub1 _ _ _ _) h) (by kernel_rfl) ?_
 refine AS.mid [94, 103] [3] [13] [] rfl rfl rfl rfl (by kernel_rfl) (by kernel_rfl) rfl rfl (fun _ _ _ h => AOp.appendOwn' (p := 2) (n := 0) (m := ((a0.Flat.drop (g37).toNat).take ((x39).toNat - (g37).toNat)).length) (news := (List.map keS0 ((a0.Flat.drop (g37).toNat).take ((x39).toNat - (g37).toNat)))) rfl rfl (ltb rfl) rfl rfl el24 info63 rfl (by decide) rfl rfl (len1 _ _) (one1 _ (fun _ => rfl) _) q42 (by decide) (allNo (.cons rfl (.cons rfl (.cons rfl .nil)))) rfl rfl (AO.dropped h)) (by kernel_rfl) rfl ?_
 refine AS.done ?_
 refine AO.objs (obs' := [.fix 35 [.d (di .i64 a0.Kind), .d (di .i64 a0.Layout), .d (di .i64 a0.SRID), .d (eS0 a0.Flat), .d (eS1 a0.Ends), .d (eS3 a0.Endss), .d (eS2 a0.Kids)], .fix 35 [.d (di .i64 (0 : Int)), .d (di .i64 (0 : Int)), .d (di .i64 (0 : Int)), .d (.v (.slice none 0 0)), .d (.v (.slice none 0 0)), .d (.v (.slice none 0 0)), .d (.v (.slice none 0 0))], .grow 63 1 (List.map keS0 ((a0.Flat.drop (g37).toNat).take ((x39).toNat - (g37).toNat)))]) rfl ?_
 refine AO.freezeG 2 rfl rfl rfl ?_
 refine AO.op rfl (AOp.build rfl rfl (ltb rfl) zero35 rfl places35 rfl rfl ?_)
 refine AO.op rfl (AOp.store rfl rfl rfl rfl size35 rfl rfl rfl (leb rfl) ?_)
 refine AO.nil ?_
 change AC _ _ _ _
 refine AC.subO 1 rfl (.cons (SVLe.refl _) (.cons (SVLe.refl _) (.cons (SVLe.refl _) (.cons (SVLe.refl _) (.cons (SVLe.nil 1) (.cons (SVLe.nil 1) (.cons (SVLe.nil 7) .nil))))))) ?_
 refine AC.ret ?_
 change RetQ _ _ _ .ret _
 obtain rfl := Option.some.inj h0
 refine retq rfl rfl

set_option maxRecDepth 100000 in
set_option maxHeartbeats 4000000 in
/-- pub-orthodrome/spec.Parts -/
theorem w_Parts (F : Nat) (a0 : TImpl_Geom) (r0 : (List TImpl_Geom)) (h0 : p_Parts F a0 = some r0) : FnD Tryd.prog 13 [e_TImpl_Geom a0] (fun r => r = eS2 r0) := by
 refine FnD.of (by kernel_rfl) Tryd.func13 rfl Tryd.ntmps13 rfl (leb rfl) fun W ok => ?_
 unfold p_Parts at h0
 refine AC.seq ?_
 refine AC.region ?_
 refine AO.op rfl (AOp.box rfl rfl (ltb rfl) rfl rfl ?_)
 refine AO.op rfl (AOp.assign rfl rfl (ltb rfl) rfl ?_)
 refine AO.nil ?_
 change AC _ _ _ _
 refine AC.seq ?_
 refine AC.region ?_
 refine AO.op rfl (AOp.assign rfl rfl (ltb rfl) rfl ?_)
 refine AO.nil ?_
 change AC _ _ _ _
 refine AC.seq ?_
 refine AC.seq ?_
 refine AC.region ?_
 refine AO.op rfl (AOp.loadN rfl rfl (ltb rfl) rfl agg35 size35 rfl (leb rfl) rfl ?_)
 obtain ⟨y1, q2, h0⟩ := bind_elim h0
 refine AO.op rfl (AOp.callD rfl rfl (ltb rfl) rfl rfl (w_NumParts a0 y1 q2) ?_)
 rintro _ rfl
 refine AO.op rfl (AOp.move rfl rfl (ltb rfl) rfl ?_)
 refine AO.nil ?_
 change AC _ _ _ _
 refine AC.adopt 3 35 7 rfl ?_
 obtain ⟨o3, l4, h0⟩ := bind_elim h0
 refine AC.joinE (V := (List TImpl_Geom)) [] [3] 2 (fun g5 => [(3, .own 1)]) (fun g5 => [.fix 35 [.d (di .i64 a0.Kind), .d (di .i64 a0.Layout), .d (di .i64 a0.SRID), .d (eS0 a0.Flat), .d (eS1 a0.Ends), .d (eS3 a0.Endss), .d (eS2 a0.Kids)], .grow 35 7 (List.flatMap c0_TImpl_Geom g5)]) (fun g5 => p_Parts_k1 g5 = some r0) rfl ?_ ?_
 ·refine AC.block ?_
  refine AC.loopP (V := (Int × (List TImpl_Geom))) (p_Parts_l2 a0 F y1) o3 [1, 6] [3, 7] 2 (fun g6 => [(3, .own 1), (7, .d (di .i64 g6.1))]) (fun g6 => [.fix 35 [.d (di .i64 a0.Kind), .d (di .i64 a0.Layout), .d (di .i64 a0.SRID), .d (eS0 a0.Flat), .d (eS1 a0.Ends), .d (eS3 a0.Endss), .d (eS2 a0.Kids)], .grow 35 7 (List.flatMap c0_TImpl_Geom g6.2)]) F ((0 : Int), []) l4 rfl rfl (LeL.refl _) rfl rfl ?_
  intro n8 g6 h1
  unfold p_Parts_l2 at h1
  refine AC.seq ?_
  refine AC.region ?_
  refine AO.op rfl (AOp.ilss rfl rfl (ltb rfl) rfl rfl ?_)
  refine AO.nil ?_
  change AC _ _ _ _
  refine AC.seq ?_
  refine AC.cond rfl (fun q9 => ?_) (fun q9 => ?_)
  ·replace h1 := cT h1 q9
   refine AC.skip ?_
   change AC _ _ _ _
   refine AC.seq ?_
   refine AC.block ?_
   refine AC.seq ?_
   refine AC.region ?_
   refine AO.op rfl (AOp.move rfl rfl (ltb rfl) rfl ?_)
   refine AO.op rfl (AOp.assign rfl rfl (ltb rfl) rfl ?_)
   refine AO.nil ?_
   change AC _ _ _ _
   refine AC.region ?_
   refine AO.op rfl (AOp.move rfl rfl (ltb rfl) rfl ?_)
   refine AO.op rfl (AOp.loadN rfl rfl (ltb rfl) rfl agg35 size35 rfl (leb rfl) rfl ?_)
   refine AO.op rfl (AOp.move rfl rfl (ltb rfl) rfl ?_)
   obtain ⟨y10, q11, h1⟩ := bind_elim h1
   refine AO.op rfl (AOp.callD rfl rfl (ltb rfl) rfl rfl (w_Part F a0 g6.1 y10 q11) ?_)
   rintro _ rfl
   refine AO.op rfl (AOp.buildSliceD rfl rfl (ltb rfl) el33 zero35 rfl (leb rfl) rfl rfl rfl rfl (AO.top (y := .d (eS2 [y10])) (SVLe.of_eq (by simp only [eS2, List.flatMap_cons, List.flatMap_nil, c0_TImpl_Geom_eq, List.append_nil] <;> rfl)) ?_))
   obtain ⟨q12, h1⟩ := need_elim h1
   refine AO.op rfl (AOp.appendOwn' (p := 1) (n := g6.2.length) (m := [y10].length) (news := (List.flatMap c0_TImpl_Geom [y10])) rfl rfl (ltb rfl) rfl rfl el33 info35 rfl (by decide) rfl (lenN _ 7 c0_TImpl_Geom_len _) (lenN _ 7 c0_TImpl_Geom_len _) (oneN _ c0_TImpl_Geom_one _) q12 (by decide) rfl rfl (catN _ _ _) ?_)
   refine AO.op rfl (AOp.assign rfl rfl (ltb rfl) rfl ?_)
   refine AO.nil ?_
   change AC _ _ _ _
   refine AC.region ?_
   obtain ⟨q13, h1⟩ := need_elim h1
   refine AO.op rfl (AOp.iadd rfl rfl (ltb rfl) rfl rfl rfl q13.1 q13.2 ?_)
   refine AO.op rfl (AOp.move rfl rfl (ltb rfl) rfl ?_)
   refine AO.nil ?_
   exact ⟨((g6.1 + (1 : Int)), (g6.2 ++ [y10])), _, rfl, (LeL.refl _), rfl, rfl, h1⟩
  replace h1 := cF h1 q9
  refine AC.exit ?_
  obtain rfl := Option.some.inj h1
  exact ⟨g6.2, _, rfl, (LeL.refl _), rfl, rfl, aftL h0⟩
 intro g5 h0
 unfold p_Parts_k1 at h0
 change AC _ _ _ _
 refine AC.seq ?_
 refine AC.region ?_
 refine AO.op rfl (AOp.move rfl rfl (ltb rfl) rfl ?_)
 refine AO.op rfl (AOp.assign rfl rfl (ltb rfl) rfl ?_)
 refine AO.nil ?_
 change AC _ _ _ _
 refine AC.ret ?_
 change RetQ _ _ _ .ret _
 obtain rfl := Option.some.inj h0
 refine retq rfl rfl

set_option maxRecDepth 100000 in
set_option maxHeartbeats 4000000 in
/-- pub-orthodrome/spec.BytesOf -/
theorem w_BytesOf (F : Nat) (a0 : (List Nat)) (a1 : Bool) (r0 : (List Int)) (h0 : p_BytesOf F a0 a1 = some r0) : FnD Tryd.prog 14 [eS0 a0, dbool a1] (fun r => r = eS4 r0) := by
 refine FnD.of (by kernel_rfl) Tryd.func14 rfl Tryd.ntmps14 rfl (leb rfl) fun W ok => ?_
 unfold p_BytesOf at h0
 refine AC.seq ?_
 refine AC.region ?_
 refine AO.op rfl (AOp.assign rfl rfl (ltb rfl) rfl ?_)
 refine AO.nil ?_
 change AC _ _ _ _
 refine AC.seq ?_
 refine AC.region ?_
 refine AO.op rfl (AOp.move rfl rfl (ltb rfl) rfl ?_)
 refine AO.op rfl (AOp.build rfl rfl (ltb rfl) zero78 rfl places78 rfl rfl ?_)
 refine AO.op rfl (AOp.box rfl rfl (ltb rfl) rfl rfl ?_)
 refine AO.op rfl (AOp.assign rfl rfl (ltb rfl) rfl ?_)
 refine AO.nil ?_
 change AC _ _ _ _
 refine AC.seq ?_
 refine AC.region ?_
 refine AO.op rfl (AOp.move rfl rfl (ltb rfl) rfl ?_)
 refine AO.op rfl (AOp.move rfl rfl (ltb rfl) rfl ?_)
 refine AO.op rfl (AOp.inl [5] (by kernel_rfl) Tryd.func35 rfl Tryd.ntmps35 rfl rfl (ltb rfl) rfl (leb rfl) rfl ?_)
 intro fr1
 refine AC.seq ?_
 refine AC.region ?_
 refine AO.op rfl (AOp.move rfl rfl (ltb rfl) rfl ?_)
 refine AO.op rfl (AOp.lenDs (n := a0.length) (cells := (List.map keS0 a0)) rfl rfl (ltb rfl) rfl el24 (by decide) (len1 _ _) ?_)
 refine AO.op rfl (AOp.move rfl rfl (ltb rfl) rfl ?_)
 refine AO.nil ?_
 change AC _ _ _ _
 refine AC.adoptO 0 0 5 1 rfl rfl ?_
 obtain ⟨o2, l3, h0⟩ := bind_elim h0
 refine AC.joinE (V := (List Int)) [] [] 3 (fun g4 => []) (fun g4 => [.fix 78 [.own 2, .d (dbool a1), .d (dbool false), .d (dbool false), .d (dbool false)], .frame fr1 [(5, .ptr 0 0)], .grow 5 1 (List.map keS4 g4)]) (fun g4 => p_BytesOf_k1 g4 = some r0) rfl ?_ ?_
 ·refine AC.block ?_
  refine AC.loopP (V := (Int × (List Int))) (p_BytesOf_l2 a0 a1 F) o2 [0, 6, 7] [8] 3 (fun g5 => [(8, .d (di .i64 g5.1))]) (fun g5 => [.fix 78 [.own 2, .d (dbool a1), .d (dbool false), .d (dbool false), .d (dbool false)], .frame fr1 [(5, .ptr 0 0)], .grow 5 1 (List.map keS4 g5.2)]) F ((0 : Int), []) l3 rfl rfl (LeL.refl _) rfl rfl ?_
  intro n7 g5 h1
  unfold p_BytesOf_l2 at h1
  refine AC.seq ?_
  refine AC.region ?_
  refine AO.op rfl (AOp.ilss rfl rfl (ltb rfl) rfl rfl ?_)
  refine AO.nil ?_
  change AC _ _ _ _
  refine AC.seq ?_
  refine AC.cond rfl (fun q8 => ?_) (fun q8 => ?_)
  ·replace h1 := cT h1 q8
   refine AC.skip ?_
   change AC _ _ _ _
   refine AC.seq ?_
   refine AC.block ?_
   refine AC.seq ?_
   refine AC.region ?_
   obtain ⟨x9, q10, h1⟩ := idx_elim h1
   refine AO.op rfl (AOp.indexDs (cells := (List.map keS0 a0)) rfl rfl (ltb rfl) rfl rfl el24 (by decide) q10.1 (lt1 q10.2) ?_)
   refine AO.op rfl (AOp.loadEp rfl rfl (ltb rfl) rfl agg63 (at1 q10.2) ?_)
   refine AO.op rfl (AOp.assign rfl rfl (ltb rfl) rfl ?_)
   refine AO.nil ?_
   change AC _ _ _ _
   refine AC.region ?_
   refine AO.op rfl (AOp.move rfl rfl (ltb rfl) rfl ?_)
   refine AO.op rfl (AOp.move rfl rfl (ltb rfl) rfl ?_)
   refine AO.op rfl (AOp.callX [.float .f64 x9] rfl rfl (ltb rfl) rfl (callBits x9) ?_)
   refine AO.op rfl (AOp.inl [0, 6, 7, 8] (by kernel_rfl) Tryd.func32 rfl Tryd.ntmps32 rfl rfl (ltb rfl) rfl (leb rfl) rfl ?_)
   intro fr11
   refine AC.seq ?_
   refine AC.region ?_
   refine AO.op rfl (AOp.move rfl rfl (ltb rfl) rfl ?_)
   refine AO.op rfl (AOp.move rfl rfl (ltb rfl) rfl ?_)
   refine AO.nil ?_
   change AC _ _ _ _
   obtain ⟨o12, l13, h1⟩ := bind_elim h1
   refine AC.joinE (V := (List Int)) [] [] 4 (fun g14 => []) (fun g14 => [.fix 78 [.own 2, .d (dbool a1), .d (dbool false), .d (dbool false), .d (dbool false)], .frame fr1 [(5, .ptr 0 0)], .grow 5 1 (List.map keS4 g14), .frame fr11 [(0, .ptr 0 0), (6, .d (eS0 a0)), (7, .d (di .i64 ((a0.length : Nat) : Int))), (8, .d (di .i64 g5.1))]]) (fun g14 => (p_BytesOf_k3 g5 (iter (p_BytesOf_l2 a0 a1 F) n7)) g14 = some o2) rfl ?_ ?_
   ·refine AC.block ?_
    refine AC.loopP (V := (Int × (List Int))) (p_BytesOf_l4 a1 x9) o12 [0, 1, 2, 8] [9] 4 (fun g16 => [(9, .d (di .i64 g16.1))]) (fun g16 => [.fix 78 [.own 2, .d (dbool a1), .d (dbool false), .d (dbool false), .d (dbool false)], .frame fr1 [(5, .ptr 0 0)], .grow 5 1 (List.map keS4 g16.2), .frame fr11 [(0, .ptr 0 0), (6, .d (eS0 a0)), (7, .d (di .i64 ((a0.length : Nat) : Int))), (8, .d (di .i64 g5.1))]]) F ((0 : Int), g5.2) l13 rfl rfl (LeL.refl _) rfl rfl ?_
    intro n18 g16 h2
    unfold p_BytesOf_l4 at h2
    refine AC.seq ?_
    refine AC.region ?_
    refine AO.op rfl (AOp.ilss rfl rfl (ltb rfl) rfl rfl ?_)
    refine AO.nil ?_
    change AC _ _ _ _
    refine AC.seq ?_
    refine AC.cond rfl (fun q19 => ?_) (fun q19 => ?_)
    ·replace h2 := cT h2 q19
     refine AC.skip ?_
     change AC _ _ _ _
     refine AC.seq ?_
     refine AC.block ?_
     refine AC.seq ?_
     refine AC.region ?_
     refine AO.op rfl (AOp.move rfl rfl (ltb rfl) rfl ?_)
     refine AO.op rfl (AOp.assign rfl rfl (ltb rfl) rfl ?_)
     refine AO.nil ?_
     change AC _ _ _ _
     refine AC.seq ?_
     refine AC.region ?_
     refine AO.op rfl (AOp.move rfl rfl (ltb rfl) rfl ?_)
     refine AO.op rfl (AOp.assign rfl rfl (ltb rfl) rfl ?_)
     refine AO.nil ?_
     change AC _ _ _ _
     refine AC.joinP (V := Int) [0, 1, 2, 8, 9] [7] 4 (fun g20 => [(7, .d (di .i64 g20))]) (fun g20 => [.fix 78 [.own 2, .d (dbool a1), .d (dbool false), .d (dbool false), .d (dbool false)], .frame fr1 [(5, .ptr 0 0)], .grow 5 1 (List.map keS4 g16.2), .frame fr11 [(0, .ptr 0 0), (6, .d (eS0 a0)), (7, .d (di .i64 ((a0.length : Nat) : Int))), (8, .d (di .i64 g5.1))]]) (fun g20 => (p_BytesOf_k5 x9 g16 (iter (p_BytesOf_l4 a1 x9) n18)) g20 = some o12) rfl ?_ ?_
     ·refine AC.seq ?_
      refine AC.region ?_
      refine AO.op rfl (AOp.move rfl rfl (ltb rfl) rfl ?_)
      refine AO.op rfl (AOp.nilCheck rfl rfl (ltb rfl) rfl rfl ?_)
      refine AO.op rfl (AOp.fieldAddr rfl rfl (ltb rfl) rfl fo78_1 ?_)
      refine AO.op rfl (AOp.load1 rfl rfl (ltb rfl) rfl agg4 rfl rfl ?_)
      refine AO.nil ?_
      change AC _ _ _ _
      refine AC.cond rfl (fun q25 => ?_) (fun q25 => ?_)
      ·replace h2 := cT h2 q25
       refine AC.region ?_
       refine AO.op rfl (AOp.move rfl rfl (ltb rfl) rfl ?_)
       refine AO.op rfl (AOp.isub rfl rfl (ltb rfl) rfl rfl (show (8 : Int) - (1 : Int) = (7 : Int) by decide) (by decide) (by decide) ?_)
       refine AO.op rfl (AOp.move rfl rfl (ltb rfl) rfl ?_)
       obtain ⟨q26, h2⟩ := need_elim h2
       refine AO.op rfl (AOp.isub rfl rfl (ltb rfl) rfl rfl rfl q26.1 q26.2 ?_)
       refine AO.op rfl (AOp.assign rfl rfl (ltb rfl) rfl ?_)
       refine AO.nil ?_
       exact ⟨((7 : Int) - g16.1), _, rfl, (LeL.refl _), rfl, rfl, h2⟩
      replace h2 := cF h2 q25
      refine AC.skip ?_
      exact ⟨g16.1, _, rfl, (LeL.refl _), rfl, rfl, h2⟩
     intro g20 h2
     unfold p_BytesOf_k5 at h2
     obtain ⟨q21, h2⟩ := need_elim h2
     obtain ⟨q22, h2⟩ := need_elim h2
     obtain ⟨q23, h2⟩ := need_elim h2
     refine AC.drawS [0, 1, 2, 3, 4, 5, 6, 7, 8, 9, 10, 11] [11] [12, 13, 14] (fun L => [.fix 78 [(bif L 11 then .any else .own 2), .d (dbool a1), .d (dbool false), .d (dbool false), .d (dbool false)], .frame fr1 [(5, .ptr 0 0)], bif L 11 then .grow 5 1 (List.map keS4 (g16.2 ++ [(IntKind.u8.wrap (((x9 : Nat) : Int) / 2 ^ (((8 : Int) * g20)).toNat))])) else .grow 5 1 (List.map keS4 g16.2), .frame fr11 [(0, .ptr 0 0), (6, .d (eS0 a0)), (7, .d (di .i64 ((a0.length : Nat) : Int))), (8, .d (di .i64 g5.1))]]) [(11, SV.noO 2)] mixed (by kernel_rfl) (fun L L' h => by simp only [h 11 (by decide), h 11 (by decide)]) rfl ?_
     refine AS.op [0] [] [] [11] rfl rfl rfl (by kernel_rfl) (by kernel_rfl) rfl rfl (fun _ _ _ h => AOp.move rfl rfl (ltb rfl) rfl h) (by kernel_rfl) ?_
     refine AS.op [0] [] [11] [] rfl rfl rfl (by kernel_rfl) (by kernel_rfl) rfl rfl (fun _ _ _ h => AOp.move rfl rfl (ltb rfl) rfl h) (by kernel_rfl) ?_
     refine AS.op [22] [] [11] [] rfl rfl rfl (by kernel_rfl) (by kernel_rfl) rfl rfl (fun _ _ _ h => AOp.nilCheck rfl rfl (ltb rfl) rfl rfl h) (by kernel_rfl) ?_
     refine AS.op [23] [] [11] [] rfl rfl rfl (by kernel_rfl) (by kernel_rfl) rfl rfl (fun _ _ _ h => AOp.fieldAddr rfl rfl (ltb rfl) rfl fo78_0 h) (by kernel_rfl) ?_
     refine AS.op [24] [] [11] [] rfl rfl rfl (by kernel_rfl) (by kernel_rfl) rfl rfl (fun _ _ _ h => AOp.load1 rfl rfl (ltb rfl) rfl agg22 rfl rfl h) (by kernel_rfl) ?_
     refine AS.op [1] [] [11] [] rfl rfl rfl (by kernel_rfl) (by kernel_rfl) rfl rfl (fun _ _ _ h => AOp.move rfl rfl (ltb rfl) rfl h) (by kernel_rfl) ?_
     refine AS.op [7] [] [11] [] rfl rfl rfl (by kernel_rfl) (by kernel_rfl) rfl rfl (fun _ _ _ h => AOp.move rfl rfl (ltb rfl) rfl h) (by kernel_rfl) ?_
     refine AS.op [27] [] [11] [] rfl rfl rfl (by kernel_rfl) (by kernel_rfl) rfl rfl (fun _ _ _ h => AOp.imul rfl rfl (ltb rfl) rfl rfl rfl q21.1 q21.2 h) (by kernel_rfl) ?_
     refine AS.op [26, 28] [] [11] [] rfl rfl rfl (by kernel_rfl) (by kernel_rfl) rfl rfl (fun _ _ _ h => AOp.ishr' rfl rfl (ltb rfl) rfl rfl q22.1 q22.2 h) (by kernel_rfl) ?_
     refine AS.op [29] [] [11] [] rfl rfl rfl (by kernel_rfl) (by kernel_rfl) rfl rfl (fun _ _ _ h => AOp.i2i rfl rfl (ltb rfl) rfl Tryd.underlying64 Tryd.underlying5 rfl h) (by kernel_rfl) ?_
     refine AS.op [30] [] [11] [] rfl rfl rfl (by kernel_rfl) (by kernel_rfl) rfl rfl (fun _ _ _ h => AOp.buildSliceD rfl rfl (ltb rfl) el22 zero5 rfl (leb rfl) rfl rfl rfl rfl h) (by kernel_rfl) ?_
     refine AS.mid [25, 31] [] [11] [] rfl rfl rfl rfl (by kernel_rfl) (by kernel_rfl) rfl rfl (fun _ _ _ h => AOp.subO 0 rfl (.cons (SVLe.any _) (.cons (SVLe.refl _) (.cons (SVLe.refl _) (.cons (SVLe.refl _) (.cons (SVLe.refl _) .nil))))) (AOp.appendOwn' (p := 2) (n := g16.2.length) (m := [(IntKind.u8.wrap (((x9 : Nat) : Int) / 2 ^ (((8 : Int) * g20)).toNat))].length) (news := (List.map keS4 [(IntKind.u8.wrap (((x9 : Nat) : Int) / 2 ^ (((8 : Int) * g20)).toNat))])) rfl rfl (ltb rfl) rfl rfl el22 info5 rfl (by decide) rfl (len1 _ _) (len1 _ _) (one1 _ (fun _ => rfl) _) q23 (by decide) (allNo (.cons rfl (.cons rfl (.cons rfl (.cons rfl .nil))))) rfl (cat1 _ _ _) (AO.dropped h))) (by kernel_rfl) rfl ?_
     refine AS.done ?_
     refine AO.objs (obs' := [.fix 78 [.any, .d (dbool a1), .d (dbool false), .d (dbool false), .d (dbool false)], .frame fr1 [(5, .ptr 0 0)], .grow 5 1 (List.map keS4 (g16.2 ++ [(IntKind.u8.wrap (((x9 : Nat) : Int) / 2 ^ (((8 : Int) * g20)).toNat))])), .frame fr11 [(0, .ptr 0 0), (6, .d (eS0 a0)), (7, .d (di .i64 ((a0.length : Nat) : Int))), (8, .d (di .i64 g5.1))]]) rfl ?_
     refine AO.op rfl (AOp.nilCheck rfl rfl (ltb rfl) rfl rfl ?_)
     refine AO.op rfl (AOp.fieldAddr rfl rfl (ltb rfl) rfl fo78_0 ?_)
     refine AO.op rfl (AOp.storeOwn rfl rfl rfl rfl rfl rfl size22 rfl rfl (leb rfl) ?_)
     refine AO.nil ?_
     change AC _ _ _ _
     refine AC.region ?_
     obtain ⟨q24, h2⟩ := need_elim h2
     refine AO.op rfl (AOp.iadd rfl rfl (ltb rfl) rfl rfl rfl q24.1 q24.2 ?_)
     refine AO.op rfl (AOp.move rfl rfl (ltb rfl) rfl ?_)
     refine AO.nil ?_
     exact ⟨((g16.1 + (1 : Int)), (g16.2 ++ [(IntKind.u8.wrap (((x9 : Nat) : Int) / 2 ^ (((8 : Int) * g20)).toNat))])), _, rfl, (LeL.refl _), rfl, rfl, h2⟩
    replace h2 := cF h2 q19
    refine AC.exit ?_
    obtain rfl := Option.some.inj h2
    exact ⟨g16.2, _, rfl, (LeL.refl _), rfl, rfl, aftL h1⟩
   intro g14 h1
   unfold p_BytesOf_k3 at h1
   refine inlend (ob' := [.fix 78 [.own 2, .d (dbool a1), .d (dbool false), .d (dbool false), .d (dbool false)], .frame fr1 [(5, .ptr 0 0)], .grow 5 1 (List.map keS4 g14), .dead]) (e' := [(0, .ptr 0 0), (6, .d (eS0 a0)), (7, .d (di .i64 ((a0.length : Nat) : Int))), (8, .d (di .i64 g5.1))]) (r := .tu []) rfl rfl rfl ?_
   change AO _ _ _ _ _
   refine AO.nil ?_
   change AC _ _ _ _
   refine AC.region ?_
   obtain ⟨q15, h1⟩ := need_elim h1
   refine AO.op rfl (AOp.iadd rfl rfl (ltb rfl) rfl rfl rfl q15.1 q15.2 ?_)
   refine AO.op rfl (AOp.move rfl rfl (ltb rfl) rfl ?_)
   refine AO.nil ?_
   exact ⟨((g5.1 + (1 : Int)), g14), _, rfl, (LeL.refl _), rfl, rfl, h1⟩
  replace h1 := cF h1 q8
  refine AC.exit ?_
  obtain rfl := Option.some.inj h1
  exact ⟨g5.2, _, rfl, (LeL.refl _), rfl, rfl, aftL h0⟩
 intro g4 h0
 unfold p_BytesOf_k1 at h0
 refine inlend (ob' := [.fix 78 [.own 2, .d (dbool a1), .d (dbool false), .d (dbool false), .d (dbool false)], .dead, .grow 5 1 (List.map keS4 g4)]) (e' := [(5, .ptr 0 0)]) (r := .tu []) rfl rfl rfl ?_
 change AO _ _ _ _ _
 refine AO.nil ?_
 change AC _ _ _ _
 refine AC.seq ?_
 refine AC.region ?_
 refine AO.op rfl (AOp.move rfl rfl (ltb rfl) rfl ?_)
 refine AO.op rfl (AOp.nilCheck rfl rfl (ltb rfl) rfl rfl ?_)
 refine AO.op rfl (AOp.fieldAddr rfl rfl (ltb rfl) rfl fo78_0 ?_)
 refine AO.op rfl (AOp.load1 rfl rfl (ltb rfl) rfl agg22 rfl rfl ?_)
 refine AO.op rfl (AOp.assign rfl rfl (ltb rfl) rfl ?_)
 refine AO.nil ?_
 change AC _ _ _ _
 refine AC.ret ?_
 change RetQ _ _ _ .ret _
 obtain rfl := Option.some.inj h0
 refine retq rfl rfl

set_option maxRecDepth 100000 in
set_option maxHeartbeats 4000000 in
/-- pub-orthodrome/spec.SameFloats -/
theorem w_SameFloats (F : Nat) (a0 : (List Nat)) (a1 : (List Nat)) (r0 : Bool) (h0 : p_SameFloats F a0 a1 = some r0) : FnD Tryd.prog 8 [eS0 a0, eS0 a1] (fun r => r = dbool r0) := by
 refine FnD.of (by kernel_rfl) Tryd.func8 rfl Tryd.ntmps8 rfl (leb rfl) fun W ok => ?_
 unfold p_SameFloats at h0
 refine AC.seq ?_
 refine AC.region ?_
 refine AO.op rfl (AOp.assign rfl rfl (ltb rfl) rfl ?_)
 refine AO.nil ?_
 change AC _ _ _ _
 refine AC.seq ?_
 refine AC.seq ?_
 refine AC.region ?_
 refine AO.op rfl (AOp.move rfl rfl (ltb rfl) rfl ?_)
 refine AO.op rfl (AOp.lenDs (n := a0.length) (cells := (List.map keS0 a0)) rfl rfl (ltb rfl) rfl el24 (by decide) (len1 _ _) ?_)
 refine AO.op rfl (AOp.move rfl rfl (ltb rfl) rfl ?_)
 refine AO.op rfl (AOp.lenDs (n := a1.length) (cells := (List.map keS0 a1)) rfl rfl (ltb rfl) rfl el24 (by decide) (len1 _ _) ?_)
 refine AO.op rfl (AOp.ineq rfl rfl (ltb rfl) rfl rfl ?_)
 refine AO.nil ?_
 change AC _ _ _ _
 refine AC.cond rfl (fun q1 => ?_) (fun q1 => ?_)
 ·replace h0 := cT h0 q1
  refine AC.seq ?_
  refine AC.region ?_
  refine AO.op rfl (AOp.assign rfl rfl (ltb rfl) rfl ?_)
  refine AO.nil ?_
  change AC _ _ _ _
  refine AC.ret ?_
  change RetQ _ _ _ .ret _
  obtain rfl := Option.some.inj h0
  refine retq rfl rfl
 replace h0 := cF h0 q1
 refine AC.skip ?_
 change AC _ _ _ _
 refine AC.seq ?_
 refine AC.seq ?_
 refine AC.region ?_
 refine AO.op rfl (AOp.move rfl rfl (ltb rfl) rfl ?_)
 refine AO.op rfl (AOp.lenDs (n := a0.length) (cells := (List.map keS0 a0)) rfl rfl (ltb rfl) rfl el24 (by decide) (len1 _ _) ?_)
 refine AO.op rfl (AOp.move rfl rfl (ltb rfl) rfl ?_)
 refine AO.nil ?_
 change AC _ _ _ _
 obtain ⟨o2, l3, h0⟩ := bind_elim h0
 refine AC.joinE (V := Unit) [] [] 0 (fun g4 => []) (fun g4 => []) (fun g4 => p_SameFloats_k1 g4 = some r0) rfl ?_ ?_
 ·refine AC.block ?_
  refine AC.loopP (V := Int) (p_SameFloats_l2 a0 a1) o2 [1, 12, 13] [14] 0 (fun g5 => [(14, .d (di .i64 g5))]) (fun g5 => []) F (0 : Int) l3 rfl rfl (LeL.refl _) rfl rfl ?_
  intro n7 g5 h1
  unfold p_SameFloats_l2 at h1
  refine AC.seq ?_
  refine AC.region ?_
  refine AO.op rfl (AOp.ilss rfl rfl (ltb rfl) rfl rfl ?_)
  refine AO.nil ?_
  change AC _ _ _ _
  refine AC.seq ?_
  refine AC.cond rfl (fun q8 => ?_) (fun q8 => ?_)
  ·replace h1 := cT h1 q8
   refine AC.skip ?_
   change AC _ _ _ _
   refine AC.seq ?_
   refine AC.block ?_
   refine AC.seq ?_
   refine AC.region ?_
   refine AO.op rfl (AOp.move rfl rfl (ltb rfl) rfl ?_)
   obtain ⟨x9, q10, h1⟩ := idx_elim h1
   refine AO.op rfl (AOp.indexDs (cells := (List.map keS0 a0)) rfl rfl (ltb rfl) rfl rfl el24 (by decide) q10.1 (lt1 q10.2) ?_)
   refine AO.op rfl (AOp.loadEp rfl rfl (ltb rfl) rfl agg63 (at1 q10.2) ?_)
   refine AO.op rfl (AOp.assign rfl rfl (ltb rfl) rfl ?_)
   refine AO.op rfl (AOp.assign rfl rfl (ltb rfl) rfl ?_)
   refine AO.nil ?_
   change AC _ _ _ _
   refine AC.seq ?_
   refine AC.draw 8 mixed (by kernel_rfl) ?_
   refine AD.op [6] rfl (by kernel_rfl) rfl rfl (fun _ _ h => AOp.move rfl rfl (ltb rfl) rfl h) ?_
   refine AD.op [19] rfl (by kernel_rfl) rfl rfl (fun _ _ h => AOp.callX [.float .f64 x9] rfl rfl (ltb rfl) rfl (callBits x9) h) ?_
   refine AD.op [1] rfl (by kernel_rfl) rfl rfl (fun _ _ h => AOp.move rfl rfl (ltb rfl) rfl h) ?_
   refine AD.op [5] rfl (by kernel_rfl) rfl rfl (fun _ _ h => AOp.move rfl rfl (ltb rfl) rfl h) ?_
   obtain ⟨x11, q12, h1⟩ := idx_elim h1
   refine AD.op [21, 22] rfl (by kernel_rfl) rfl rfl (fun _ _ h => AOp.indexDs (cells := (List.map keS0 a1)) rfl rfl (ltb rfl) rfl rfl el24 (by decide) q12.1 (lt1 q12.2) h) ?_
   refine AD.op [23] rfl (by kernel_rfl) rfl rfl (fun _ _ h => AOp.loadEp rfl rfl (ltb rfl) rfl agg63 (at1 q12.2) h) ?_
   refine AD.op [24] rfl (by kernel_rfl) rfl rfl (fun _ _ h => AOp.callX [.float .f64 x11] rfl rfl (ltb rfl) rfl (callBits x11) h) ?_
   refine AD.op [20, 25] rfl (by kernel_rfl) rfl rfl (fun _ _ h => AOp.ineq rfl rfl (ltb rfl) rfl rfl h) ?_
   refine AD.done ?_
   refine AO.nil ?_
   change AC _ _ _ _
   refine AC.cond rfl (fun q13 => ?_) (fun q13 => ?_)
   ·replace h1 := cT h1 q13
    refine AC.seq ?_
    refine AC.region ?_
    refine AO.op rfl (AOp.assign rfl rfl (ltb rfl) rfl ?_)
    refine AO.nil ?_
    change AC _ _ _ _
    refine AC.ret ?_
    change RetQ _ _ _ .ret _
    obtain rfl := Option.some.inj h1
    replace h0 := aftR h0
    obtain rfl := Option.some.inj h0
    refine retq rfl rfl
   replace h1 := cF h1 q13
   refine AC.skip ?_
   change AC _ _ _ _
   refine AC.region ?_
   obtain ⟨q14, h1⟩ := need_elim h1
   refine AO.op rfl (AOp.iadd rfl rfl (ltb rfl) rfl rfl rfl q14.1 q14.2 ?_)
   refine AO.op rfl (AOp.move rfl rfl (ltb rfl) rfl ?_)
   refine AO.nil ?_
   exact ⟨(g5 + (1 : Int)), _, rfl, (LeL.refl _), rfl, rfl, h1⟩
  replace h1 := cF h1 q8
  refine AC.exit ?_
  obtain rfl := Option.some.inj h1
  exact ⟨(), _, rfl, (LeL.refl _), rfl, rfl, aftL h0⟩
 intro g4 h0
 unfold p_SameFloats_k1 at h0
 change AC _ _ _ _
 refine AC.seq ?_
 refine AC.region ?_
 refine AO.op rfl (AOp.assign rfl rfl (ltb rfl) rfl ?_)
 refine AO.nil ?_
 change AC _ _ _ _
 refine AC.ret ?_
 change RetQ _ _ _ .ret _
 obtain rfl := Option.some.inj h0
 refine retq rfl rfl

set_option maxRecDepth 100000 in
set_option maxHeartbeats 4000000 in
/-- pub-orthodrome/laws.gInts -/
theorem w_gInts (F : Nat) (a0 : (List Int)) (a1 : (List Int)) (r0 : Bool) (h0 : p_gInts F a0 a1 = some r0) : FnD Tryd.prog 15 [eS1 a0, eS1 a1] (fun r => r = dbool r0) := by
 refine FnD.of (by kernel_rfl) Tryd.func15 rfl Tryd.ntmps15 rfl (leb rfl) fun W ok => ?_
 unfold p_gInts at h0
 refine AC.seq ?_
 refine AC.region ?_
 refine AO.op rfl (AOp.assign rfl rfl (ltb rfl) rfl ?_)
 refine AO.nil ?_
 change AC _ _ _ _
 refine AC.seq ?_
 refine AC.seq ?_
 refine AC.region ?_
 refine AO.op rfl (AOp.move rfl rfl (ltb rfl) rfl ?_)
 refine AO.op rfl (AOp.lenDs (n := a0.length) (cells := (List.map keS1 a0)) rfl rfl (ltb rfl) rfl el31 (by decide) (len1 _ _) ?_)
 refine AO.op rfl (AOp.move rfl rfl (ltb rfl) rfl ?_)
 refine AO.op rfl (AOp.lenDs (n := a1.length) (cells := (List.map keS1 a1)) rfl rfl (ltb rfl) rfl el31 (by decide) (len1 _ _) ?_)
 refine AO.op rfl (AOp.ineq rfl rfl (ltb rfl) rfl rfl ?_)
 refine AO.nil ?_
 change AC _ _ _ _
 refine AC.cond rfl (fun q1 => ?_) (fun q1 => ?_)
 ·replace h0 := cT h0 q1
  refine AC.seq ?_
  refine AC.region ?_
  refine AO.op rfl (AOp.assign rfl rfl (ltb rfl) rfl ?_)
  refine AO.nil ?_
  change AC _ _ _ _
  refine AC.ret ?_
  change RetQ _ _ _ .ret _
  obtain rfl := Option.some.inj h0
  refine retq rfl rfl
 replace h0 := cF h0 q1
 refine AC.skip ?_
 change AC _ _ _ _
 refine AC.seq ?_
 refine AC.seq ?_
 refine AC.region ?_
 refine AO.op rfl (AOp.move rfl rfl (ltb rfl) rfl ?_)
 refine AO.op rfl (AOp.lenDs (n := a0.length) (cells := (List.map keS1 a0)) rfl rfl (ltb rfl) rfl el31 (by decide) (len1 _ _) ?_)
 refine AO.op rfl (AOp.move rfl rfl (ltb rfl) rfl ?_)
 refine AO.nil ?_
 change AC _ _ _ _
 obtain ⟨o2, l3, h0⟩ := bind_elim h0
 refine AC.joinE (V := Unit) [] [] 0 (fun g4 => []) (fun g4 => []) (fun g4 => p_gInts_k1 g4 = some r0) rfl ?_ ?_
 ·refine AC.block ?_
  refine AC.loopP (V := Int) (p_gInts_l2 a0 a1) o2 [1, 12, 13] [14] 0 (fun g5 => [(14, .d (di .i64 g5))]) (fun g5 => []) F (0 : Int) l3 rfl rfl (LeL.refl _) rfl rfl ?_
  intro n7 g5 h1
  unfold p_gInts_l2 at h1
  refine AC.seq ?_
  refine AC.region ?_
  refine AO.op rfl (AOp.ilss rfl rfl (ltb rfl) rfl rfl ?_)
  refine AO.nil ?_
  change AC _ _ _ _
  refine AC.seq ?_
  refine AC.cond rfl (fun q8 => ?_) (fun q8 => ?_)
  ·replace h1 := cT h1 q8
   refine AC.skip ?_
   change AC _ _ _ _
   refine AC.seq ?_
   refine AC.block ?_
   refine AC.seq ?_
   refine AC.region ?_
   refine AO.op rfl (AOp.move rfl rfl (ltb rfl) rfl ?_)
   obtain ⟨x9, q10, h1⟩ := idx_elim h1
   refine AO.op rfl (AOp.indexDs (cells := (List.map keS1 a0)) rfl rfl (ltb rfl) rfl rfl el31 (by decide) q10.1 (lt1 q10.2) ?_)
   refine AO.op rfl (AOp.loadEp rfl rfl (ltb rfl) rfl agg3 (at1 q10.2) ?_)
   refine AO.op rfl (AOp.assign rfl rfl (ltb rfl) rfl ?_)
   refine AO.op rfl (AOp.assign rfl rfl (ltb rfl) rfl ?_)
   refine AO.nil ?_
   change AC _ _ _ _
   refine AC.seq ?_
   refine AC.region ?_
   refine AO.op rfl (AOp.move rfl rfl (ltb rfl) rfl ?_)
   refine AO.op rfl (AOp.move rfl rfl (ltb rfl) rfl ?_)
   refine AO.op rfl (AOp.move rfl rfl (ltb rfl) rfl ?_)
   obtain ⟨x11, q12, h1⟩ := idx_elim h1
   refine AO.op rfl (AOp.indexDs (cells := (List.map keS1 a1)) rfl rfl (ltb rfl) rfl rfl el31 (by decide) q12.1 (lt1 q12.2) ?_)
   refine AO.op rfl (AOp.loadEp rfl rfl (ltb rfl) rfl agg3 (at1 q12.2) ?_)
   refine AO.op rfl (AOp.ineq rfl rfl (ltb rfl) rfl rfl ?_)
   refine AO.nil ?_
   change AC _ _ _ _
   refine AC.cond rfl (fun q13 => ?_) (fun q13 => ?_)
   ·replace h1 := cT h1 q13
    refine AC.seq ?_
    refine AC.region ?_
    refine AO.op rfl (AOp.assign rfl rfl (ltb rfl) rfl ?_)
    refine AO.nil ?_
    change AC _ _ _ _
    refine AC.ret ?_
    change RetQ _ _ _ .ret _
    obtain rfl := Option.some.inj h1
    replace h0 := aftR h0
    obtain rfl := Option.some.inj h0
    refine retq rfl rfl
   replace h1 := cF h1 q13
   refine AC.skip ?_
   change AC _ _ _ _
   refine AC.region ?_
   obtain ⟨q14, h1⟩ := need_elim h1
   refine AO.op rfl (AOp.iadd rfl rfl (ltb rfl) rfl rfl rfl q14.1 q14.2 ?_)
   refine AO.op rfl (AOp.move rfl rfl (ltb rfl) rfl ?_)
   refine AO.nil ?_
   exact ⟨(g5 + (1 : Int)), _, rfl, (LeL.refl _), rfl, rfl, h1⟩
  replace h1 := cF h1 q8
  refine AC.exit ?_
  obtain rfl := Option.some.inj h1
  exact ⟨(), _, rfl, (LeL.refl _), rfl, rfl, aftL h0⟩
 intro g4 h0
 unfold p_gInts_k1 at h0
 change AC _ _ _ _
 refine AC.seq ?_
 refine AC.region ?_
 refine AO.op rfl (AOp.assign rfl rfl (ltb rfl) rfl ?_)
 refine AO.nil ?_
 change AC _ _ _ _
 refine AC.ret ?_
 change RetQ _ _ _ .ret _
 obtain rfl := Option.some.inj h0
 refine retq rfl rfl

set_option maxRecDepth 100000 in
set_option maxHeartbeats 4000000 in
/-- pub-orthodrome/laws.ySame -/
theorem w_ySame (a0 : (List Int)) (a1 : (List Int)) (r0 : Bool) (h0 : p_ySame a0 a1 = some r0) : FnD Tryd.prog 16 [eS4 a0, eS4 a1] (fun r => r = dbool r0) := by
 refine FnD.of (by kernel_rfl) Tryd.func16 rfl Tryd.ntmps16 rfl (leb rfl) fun W ok => ?_
 unfold p_ySame at h0
 refine AC.seq ?_
 refine AC.region ?_
 refine AO.op rfl (AOp.assign rfl rfl (ltb rfl) rfl ?_)
 refine AO.nil ?_
 change AC _ _ _ _
 refine AC.seq ?_
 refine AC.region ?_
 refine AO.op rfl (AOp.move rfl rfl (ltb rfl) rfl ?_)
 refine AO.op rfl (AOp.bytesStr (g := keS4) rfl rfl (ltb rfl) rfl (fun _ => rfl) Tryd.underlying22 Tryd.underlying5 Tryd.underlying9 ?_)
 refine AO.op rfl (AOp.move rfl rfl (ltb rfl) rfl ?_)
 refine AO.op rfl (AOp.bytesStr (g := keS4) rfl rfl (ltb rfl) rfl (fun _ => rfl) Tryd.underlying22 Tryd.underlying5 Tryd.underlying9 ?_)
 refine AO.op rfl (AOp.bin rfl rfl (ltb rfl) rfl rfl rfl (fun w => by rw [binOp_string_eql]; rfl) ?_)
 refine AO.op rfl (AOp.assign rfl rfl (ltb rfl) rfl ?_)
 refine AO.nil ?_
 change AC _ _ _ _
 refine AC.ret ?_
 change RetQ _ _ _ .ret _
 obtain rfl := Option.some.inj h0
 refine retq rfl rfl

end Go.Proofs.YtjhdpnjlphpboaaDoor.Wk
