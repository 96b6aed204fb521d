/- Proved: more of it. -/
import Derived.Test.YtbinnbmpedmabaaGreatWEp_0
namespace Go.Proofs.YtbinnbmpedmabaaGreat.Wk
open Go.Vm
set_option linter.unusedVariables false
set_option linter.unusedSimpArgs false
set_option maxRecDepth 100000 in
set_option maxHeartbeats 4000000 in
theorem wh_WriteUInt32 (a0 : Bool) (a1 : Int) (b0 : Int) (b1 : (List Int)) (r0 : (Int × (List Int))) (h0 : p_WriteUInt32 a0 a1 b0 b1 = some r0) : FnH Tryz.prog 57 [.ifc 61 (.ptr 0 0), .d (.ifc (bif a0 then 99 else 100) (.ag [])), .d (di .u32 a1)] [.fix 108 [.own 1, .d (di .i64 (0 : Int)), .d (di .i8 b0)], .grow 5 1 (List.map keS6 b1)] [0] (RH_WriteUInt32 r0) := by
 refine FnH.of (by kernel_rfl) Tryz.func57 rfl Tryz.ntmps57 rfl (leb rfl) fun W ok may pv => ?_
 unfold p_WriteUInt32 at h0
 refine AC.smn 1 rfl ?_
 refine AC.sr ?_
 refine AO.op rfl (AOp.alloc rfl rfl lb zero156 rfl ?_)
 refine AO.nS ?_
 refine AC.seq ?_
 refine AC.dec a0 (fun q1 => ?_) (fun q1 => ?_)
 ·replace h0 := cT h0 q1
  refine AC.sub 1 rfl (SVLe.ifBT q1) ?_
  refine AC.draw 6 mixed (by kernel_rfl) ?_
  refine AD.op [1] rfl (by kernel_rfl) rfl rfl (fun _ _ h => AOp.move rfl rfl lb rfl h) ?_
  refine AD.op [7] rfl (by kernel_rfl) rfl rfl (fun _ _ h => AOp.sliceArr rfl rfl lb rfl ar156 ⟨_, _, rfl⟩ h) ?_
  refine AD.op [2] rfl (by kernel_rfl) rfl rfl (fun _ _ h => AOp.move rfl rfl lb rfl h) ?_
  refine AD.op [10] rfl (by kernel_rfl) rfl rfl (fun _ _ h => AOp.makeMeth rfl rfl lb rfl h) ?_
  refine AD.op [13] rfl (by kernel_rfl) rfl rfl (fun _ _ h => AOp.nilMeth rfl rfl lb rfl rfl nilm99_PutUint32 h) ?_
  refine AD.op [10] rfl (by kernel_rfl) rfl rfl (fun _ _ h => AOp.move rfl rfl lb rfl h) ?_
  refine AD.done ?_
  refine AO.op rfl (AOp.inlE [0, 7] (EntersS.meth (by kernel_rfl) rfl rfl rfl meth99_PutUint32 rfl rfl) Tryz.func134 rfl Tryz.ntmps134 rfl lb (leb rfl) rfl ?_)
  intro fr2
  refine AC.sr ?_
  refine AO.op rfl (AOp.box rfl rfl lb rfl rfl ?_)
  refine AO.objs (obs' := [.fix 108 [.own 1, .d (di .i64 (0 : Int)), .d (di .i8 b0)], .grow 5 1 (List.map keS6 b1), .frame pv [(0, .ptr 0 0), (1, .own 1)], .fix 156 (List.map (fun z => SV.d (keS6 z)) [(0 : Int), (0 : Int), (0 : Int), (0 : Int)]), .frame fr2 [(0, .ifc 61 (.ptr 0 0)), (7, .ptr 3 0)], .fix 99 []]) rfl ?_
  refine AO.nS ?_
  refine AC.sm 1 rfl ?_
  obtain ⟨q3, h0⟩ := need_elim h0
  refine AO.op rfl (AOp.indexSl rfl rfl lb rfl rfl el30 q3.1 q3.2 ?_)
  obtain ⟨x4, q5, h0⟩ := idx_elim h0
  refine AO.op rfl (AOp.load1 rfl rfl lb rfl agg5 rfl (atO (f := fun z => SV.d (keS6 z)) q5.2) ?_)
  refine AO.nS ?_
  refine AC.sm 2 rfl ?_
  obtain ⟨q6, h0⟩ := need_elim h0
  refine AO.op rfl (AOp.ishr (n := 24) rfl rfl lb rfl rfl (by decide) q6 rfl ?_)
  refine AO.op rfl (AOp.i2i rfl rfl lb rfl Tryz.underlying36 Tryz.underlying5 rfl ?_)
  obtain ⟨q7, h0⟩ := need_elim h0
  refine AO.op rfl (AOp.indexSl rfl rfl lb rfl rfl el30 q7.1 q7.2 ?_)
  obtain ⟨q8, h0⟩ := need_elim h0
  refine AO.op rfl (AOp.storeL (f := fun z => SV.d (keS6 z)) (l := [(0 : Int), (0 : Int), (0 : Int), (0 : Int)]) (i := ((0 : Int)).toNat) (v := (IntKind.u8.wrap (a1 / 2 ^ 24))) rfl rfl rfl rfl size5 rfl rfl rfl q8 ?_)
  refine AO.nS ?_
  refine AC.sm 2 rfl ?_
  obtain ⟨q9, h0⟩ := need_elim h0
  refine AO.op rfl (AOp.ishr (n := 16) rfl rfl lb rfl rfl (by decide) q9 rfl ?_)
  refine AO.op rfl (AOp.i2i rfl rfl lb rfl Tryz.underlying36 Tryz.underlying5 rfl ?_)
  obtain ⟨q10, h0⟩ := need_elim h0
  refine AO.op rfl (AOp.indexSl rfl rfl lb rfl rfl el30 q10.1 q10.2 ?_)
  obtain ⟨q11, h0⟩ := need_elim h0
  refine AO.op rfl (AOp.storeL (f := fun z => SV.d (keS6 z)) (l := ([(0 : Int), (0 : Int), (0 : Int), (0 : Int)].set ((0 : Int)).toNat (IntKind.u8.wrap (a1 / 2 ^ 24)))) (i := ((1 : Int)).toNat) (v := (IntKind.u8.wrap (a1 / 2 ^ 16))) rfl rfl rfl rfl size5 rfl rfl rfl q11 ?_)
  refine AO.nS ?_
  refine AC.sm 2 rfl ?_
  obtain ⟨q12, h0⟩ := need_elim h0
  refine AO.op rfl (AOp.ishr (n := 8) rfl rfl lb rfl rfl (by decide) q12 rfl ?_)
  refine AO.op rfl (AOp.i2i rfl rfl lb rfl Tryz.underlying36 Tryz.underlying5 rfl ?_)
  obtain ⟨q13, h0⟩ := need_elim h0
  refine AO.op rfl (AOp.indexSl rfl rfl lb rfl rfl el30 q13.1 q13.2 ?_)
  obtain ⟨q14, h0⟩ := need_elim h0
  refine AO.op rfl (AOp.storeL (f := fun z => SV.d (keS6 z)) (l := (([(0 : Int), (0 : Int), (0 : Int), (0 : Int)].set ((0 : Int)).toNat (IntKind.u8.wrap (a1 / 2 ^ 24))).set ((1 : Int)).toNat (IntKind.u8.wrap (a1 / 2 ^ 16)))) (i := ((2 : Int)).toNat) (v := (IntKind.u8.wrap (a1 / 2 ^ 8))) rfl rfl rfl rfl size5 rfl rfl rfl q14 ?_)
  refine AO.nS ?_
  refine AC.region ?_
  refine AO.mv 2 rfl ?_
  refine AO.op rfl (AOp.i2i rfl rfl lb rfl Tryz.underlying36 Tryz.underlying5 rfl ?_)
  obtain ⟨q15, h0⟩ := need_elim h0
  refine AO.op rfl (AOp.indexSl rfl rfl lb rfl rfl el30 q15.1 q15.2 ?_)
  obtain ⟨q16, h0⟩ := need_elim h0
  refine AO.op rfl (AOp.storeL (f := fun z => SV.d (keS6 z)) (l := ((([(0 : Int), (0 : Int), (0 : Int), (0 : Int)].set ((0 : Int)).toNat (IntKind.u8.wrap (a1 / 2 ^ 24))).set ((1 : Int)).toNat (IntKind.u8.wrap (a1 / 2 ^ 16))).set ((2 : Int)).toNat (IntKind.u8.wrap (a1 / 2 ^ 8)))) (i := ((3 : Int)).toNat) (v := (IntKind.u8.wrap a1)) rfl rfl rfl rfl size5 rfl rfl rfl q16 ?_)
  refine AO.nil ?_
  refine inlend (ob' := [.fix 108 [.own 1, .d (di .i64 (0 : Int)), .d (di .i8 b0)], .grow 5 1 (List.map keS6 b1), .frame pv [(0, .ptr 0 0), (1, .own 1)], .fix 156 (List.map (fun z => SV.d (keS6 z)) (((([(0 : Int), (0 : Int), (0 : Int), (0 : Int)].set ((0 : Int)).toNat (IntKind.u8.wrap (a1 / 2 ^ 24))).set ((1 : Int)).toNat (IntKind.u8.wrap (a1 / 2 ^ 16))).set ((2 : Int)).toNat (IntKind.u8.wrap (a1 / 2 ^ 8))).set ((3 : Int)).toNat (IntKind.u8.wrap a1))), .dead, .fix 99 []]) (e' := [(0, .ifc 61 (.ptr 0 0)), (7, .ptr 3 0)]) (r := .tu []) rfl rfl rfl ?_
  change AO _ _ _ _ _
  refine AO.objs (obs' := [.fix 108 [.own 1, .d (di .i64 (0 : Int)), .d (di .i8 b0)], .grow 5 1 (List.map keS6 b1), .frame pv [(0, .ptr 0 0), (1, .own 1)], .fix 156 (List.map (fun z => SV.d (keS6 z)) (((([(0 : Int), (0 : Int), (0 : Int), (0 : Int)].set ((0 : Int)).toNat (IntKind.u8.wrap (a1 / 2 ^ 24))).set ((1 : Int)).toNat (IntKind.u8.wrap (a1 / 2 ^ 16))).set ((2 : Int)).toNat (IntKind.u8.wrap (a1 / 2 ^ 8))).set ((3 : Int)).toNat (IntKind.u8.wrap a1))), .dead, .fix 99 []]) rfl ?_
  refine AO.nil (?_ : AC _ _ _ _)
  refine AC.seq ?_
  refine AC.drawC 5 mixed (by kernel_rfl) rfl ?_
  refine AD.op [0] rfl (by kernel_rfl) rfl rfl (fun _ _ h => AOp.move rfl rfl lb rfl h) ?_
  refine AD.op [7] rfl (by kernel_rfl) rfl rfl (fun _ _ h => AOp.sliceArr rfl rfl lb rfl ar156 ⟨_, _, rfl⟩ h) ?_
  refine AD.op [18] rfl (by kernel_rfl) rfl rfl (fun _ _ h => AOp.makeMeth rfl rfl lb rfl h) ?_
  refine AD.op [20] rfl (by kernel_rfl) rfl rfl (fun _ _ h => AOp.nilMeth rfl rfl lb rfl rfl nilm61_Write h) ?_
  refine AD.op [18] rfl (by kernel_rfl) rfl rfl (fun _ _ h => AOp.move rfl rfl lb rfl h) ?_
  refine AD.done ?_
  refine AO.subF 2 [0] rfl rfl ?_
  obtain ⟨q17, h0⟩ := need_elim h0
  obtain ⟨q18, h0⟩ := need_elim h0
  refine AO.op rfl (AOp.callW' (p := 0) (q := 1) (m := b1.length) (n := (((([(0 : Int), (0 : Int), (0 : Int), (0 : Int)].set ((0 : Int)).toNat (IntKind.u8.wrap (a1 / 2 ^ 24))).set ((1 : Int)).toNat (IntKind.u8.wrap (a1 / 2 ^ 16))).set ((2 : Int)).toNat (IntKind.u8.wrap (a1 / 2 ^ 8))).set ((3 : Int)).toNat (IntKind.u8.wrap a1)).length) (bs := (List.map keS6 b1)) (cs := (List.map keS6 (((([(0 : Int), (0 : Int), (0 : Int), (0 : Int)].set ((0 : Int)).toNat (IntKind.u8.wrap (a1 / 2 ^ 24))).set ((1 : Int)).toNat (IntKind.u8.wrap (a1 / 2 ^ 16))).set ((2 : Int)).toNat (IntKind.u8.wrap (a1 / 2 ^ 8))).set ((3 : Int)).toNat (IntKind.u8.wrap a1)))) (EntersS.meth (by kernel_rfl) rfl rfl rfl meth61_Write rfl rfl) bufW rfl lb rfl rfl (src_arr (f := keS6) rfl q17) rfl (isV_map (fun _ => rfl) _) (isV_map (fun _ => rfl) _) (one_map (fun _ => rfl) _) (one_map (fun _ => rfl) _) (len1 _ _) (len1 _ _) q18 (allNo (.cons rfl (.cons rfl (.cons rfl (.cons (noO2_fixl fun _ => rfl) (.cons rfl (.cons rfl .nil))))))) rfl (cat1 _ _ _) ?_)
  refine AO.nil ?_
  change AD _ _ _ _ _
  refine AD.op [23] rfl (by kernel_rfl) rfl rfl (fun _ _ h => AOp.move rfl rfl lb rfl h) ?_
  first | refine AD.op [17] rfl (by kernel_rfl) rfl rfl (fun _ _ h => AOp.extractD rfl rfl lb rfl rfl h) ?_ | refine AD.op [17] rfl (by kernel_rfl) rfl rfl (fun _ _ h => AOp.extract rfl rfl lb rfl rfl h) ?_
  first | refine AD.op [17] rfl (by kernel_rfl) rfl rfl (fun _ _ h => AOp.extractD rfl rfl lb rfl rfl h) ?_ | refine AD.op [17] rfl (by kernel_rfl) rfl rfl (fun _ _ h => AOp.extract rfl rfl lb rfl rfl h) ?_
  refine AD.op [24] rfl (by kernel_rfl) rfl rfl (fun _ _ h => AOp.assign rfl rfl lb rfl h) ?_
  refine AD.op [25] rfl (by kernel_rfl) rfl rfl (fun _ _ h => AOp.assign rfl rfl lb rfl h) ?_
  refine AD.done ?_
  refine AO.nS ?_
  refine AC.smn 2 rfl ?_
  obtain rfl := Option.some.inj h0
  refine AC.ret ?_
  change RetH _ _ _ _ _ _ .ret _
  refine reth (post := [.fix 108 [.own 1, .d (di .i64 (0 : Int)), .d (di .i8 (0 : Int))], .grow 5 1 (List.map keS6 (b1 ++ (((([(0 : Int), (0 : Int), (0 : Int), (0 : Int)].set ((0 : Int)).toNat (IntKind.u8.wrap (a1 / 2 ^ 24))).set ((1 : Int)).toNat (IntKind.u8.wrap (a1 / 2 ^ 16))).set ((2 : Int)).toNat (IntKind.u8.wrap (a1 / 2 ^ 8))).set ((3 : Int)).toNat (IntKind.u8.wrap a1))))]) rfl rfl rfl rfl rfl ?_
  exact ⟨rfl, rfl⟩
 replace h0 := cF h0 q1
 refine AC.sub 1 rfl (SVLe.ifBF q1) ?_
 refine AC.draw 6 mixed (by kernel_rfl) ?_
 refine AD.op [1] rfl (by kernel_rfl) rfl rfl (fun _ _ h => AOp.move rfl rfl lb rfl h) ?_
 refine AD.op [7] rfl (by kernel_rfl) rfl rfl (fun _ _ h => AOp.sliceArr rfl rfl lb rfl ar156 ⟨_, _, rfl⟩ h) ?_
 refine AD.op [2] rfl (by kernel_rfl) rfl rfl (fun _ _ h => AOp.move rfl rfl lb rfl h) ?_
 refine AD.op [10] rfl (by kernel_rfl) rfl rfl (fun _ _ h => AOp.makeMeth rfl rfl lb rfl h) ?_
 refine AD.op [13] rfl (by kernel_rfl) rfl rfl (fun _ _ h => AOp.nilMeth rfl rfl lb rfl rfl nilm100_PutUint32 h) ?_
 refine AD.op [10] rfl (by kernel_rfl) rfl rfl (fun _ _ h => AOp.move rfl rfl lb rfl h) ?_
 refine AD.done ?_
 refine AO.op rfl (AOp.inlE [0, 7] (EntersS.meth (by kernel_rfl) rfl rfl rfl meth100_PutUint32 rfl rfl) Tryz.func142 rfl Tryz.ntmps142 rfl lb (leb rfl) rfl ?_)
 intro fr19
 refine AC.sr ?_
 refine AO.op rfl (AOp.box rfl rfl lb rfl rfl ?_)
 refine AO.objs (obs' := [.fix 108 [.own 1, .d (di .i64 (0 : Int)), .d (di .i8 b0)], .grow 5 1 (List.map keS6 b1), .frame pv [(0, .ptr 0 0), (1, .own 1)], .fix 156 (List.map (fun z => SV.d (keS6 z)) [(0 : Int), (0 : Int), (0 : Int), (0 : Int)]), .frame fr19 [(0, .ifc 61 (.ptr 0 0)), (7, .ptr 3 0)], .fix 100 []]) rfl ?_
 refine AO.nS ?_
 refine AC.sm 1 rfl ?_
 obtain ⟨q20, h0⟩ := need_elim h0
 refine AO.op rfl (AOp.indexSl rfl rfl lb rfl rfl el30 q20.1 q20.2 ?_)
 obtain ⟨x21, q22, h0⟩ := idx_elim h0
 refine AO.op rfl (AOp.load1 rfl rfl lb rfl agg5 rfl (atO (f := fun z => SV.d (keS6 z)) q22.2) ?_)
 refine AO.nS ?_
 refine AC.sm 2 rfl ?_
 refine AO.op rfl (AOp.i2i rfl rfl lb rfl Tryz.underlying36 Tryz.underlying5 rfl ?_)
 obtain ⟨q23, h0⟩ := need_elim h0
 refine AO.op rfl (AOp.indexSl rfl rfl lb rfl rfl el30 q23.1 q23.2 ?_)
 obtain ⟨q24, h0⟩ := need_elim h0
 refine AO.op rfl (AOp.storeL (f := fun z => SV.d (keS6 z)) (l := [(0 : Int), (0 : Int), (0 : Int), (0 : Int)]) (i := ((0 : Int)).toNat) (v := (IntKind.u8.wrap a1)) rfl rfl rfl rfl size5 rfl rfl rfl q24 ?_)
 refine AO.nS ?_
 refine AC.sm 2 rfl ?_
 obtain ⟨q25, h0⟩ := need_elim h0
 refine AO.op rfl (AOp.ishr (n := 8) rfl rfl lb rfl rfl (by decide) q25 rfl ?_)
 refine AO.op rfl (AOp.i2i rfl rfl lb rfl Tryz.underlying36 Tryz.underlying5 rfl ?_)
 obtain ⟨q26, h0⟩ := need_elim h0
 refine AO.op rfl (AOp.indexSl rfl rfl lb rfl rfl el30 q26.1 q26.2 ?_)
 obtain ⟨q27, h0⟩ := need_elim h0
 refine AO.op rfl (AOp.storeL (f := fun z => SV.d (keS6 z)) (l := ([(0 : Int), (0 : Int), (0 : Int), (0 : Int)].set ((0 : Int)).toNat (IntKind.u8.wrap a1))) (i := ((1 : Int)).toNat) (v := (IntKind.u8.wrap (a1 / 2 ^ 8))) rfl rfl rfl rfl size5 rfl rfl rfl q27 ?_)
 refine AO.nS ?_
 refine AC.sm 2 rfl ?_
 obtain ⟨q28, h0⟩ := need_elim h0
 refine AO.op rfl (AOp.ishr (n := 16) rfl rfl lb rfl rfl (by decide) q28 rfl ?_)
 refine AO.op rfl (AOp.i2i rfl rfl lb rfl Tryz.underlying36 Tryz.underlying5 rfl ?_)
 obtain ⟨q29, h0⟩ := need_elim h0
 refine AO.op rfl (AOp.indexSl rfl rfl lb rfl rfl el30 q29.1 q29.2 ?_)
 obtain ⟨q30, h0⟩ := need_elim h0
 refine AO.op rfl (AOp.storeL (f := fun z => SV.d (keS6 z)) (l := (([(0 : Int), (0 : Int), (0 : Int), (0 : Int)].set ((0 : Int)).toNat (IntKind.u8.wrap a1)).set ((1 : Int)).toNat (IntKind.u8.wrap (a1 / 2 ^ 8)))) (i := ((2 : Int)).toNat) (v := (IntKind.u8.wrap (a1 / 2 ^ 16))) rfl rfl rfl rfl size5 rfl rfl rfl q30 ?_)
 refine AO.nS ?_
 refine AC.region ?_
 refine AO.mv 2 rfl ?_
 obtain ⟨q31, h0⟩ := need_elim h0
 refine AO.op rfl (AOp.ishr (n := 24) rfl rfl lb rfl rfl (by decide) q31 rfl ?_)
 refine AO.op rfl (AOp.i2i rfl rfl lb rfl Tryz.underlying36 Tryz.underlying5 rfl ?_)
 obtain ⟨q32, h0⟩ := need_elim h0
 refine AO.op rfl (AOp.indexSl rfl rfl lb rfl rfl el30 q32.1 q32.2 ?_)
 obtain ⟨q33, h0⟩ := need_elim h0
 refine AO.op rfl (AOp.storeL (f := fun z => SV.d (keS6 z)) (l := ((([(0 : Int), (0 : Int), (0 : Int), (0 : Int)].set ((0 : Int)).toNat (IntKind.u8.wrap a1)).set ((1 : Int)).toNat (IntKind.u8.wrap (a1 / 2 ^ 8))).set ((2 : Int)).toNat (IntKind.u8.wrap (a1 / 2 ^ 16)))) (i := ((3 : Int)).toNat) (v := (IntKind.u8.wrap (a1 / 2 ^ 24))) rfl rfl rfl rfl size5 rfl rfl rfl q33 ?_)
 refine AO.nil ?_
 refine inlend (ob' := [.fix 108 [.own 1, .d (di .i64 (0 : Int)), .d (di .i8 b0)], .grow 5 1 (List.map keS6 b1), .frame pv [(0, .ptr 0 0), (1, .own 1)], .fix 156 (List.map (fun z => SV.d (keS6 z)) (((([(0 : Int), (0 : Int), (0 : Int), (0 : Int)].set ((0 : Int)).toNat (IntKind.u8.wrap a1)).set ((1 : Int)).toNat (IntKind.u8.wrap (a1 / 2 ^ 8))).set ((2 : Int)).toNat (IntKind.u8.wrap (a1 / 2 ^ 16))).set ((3 : Int)).toNat (IntKind.u8.wrap (a1 / 2 ^ 24)))), .dead, .fix 100 []]) (e' := [(0, .ifc 61 (.ptr 0 0)), (7, .ptr 3 0)]) (r := .tu []) rfl rfl rfl ?_
 change AO _ _ _ _ _
 refine AO.objs (obs' := [.fix 108 [.own 1, .d (di .i64 (0 : Int)), .d (di .i8 b0)], .grow 5 1 (List.map keS6 b1), .frame pv [(0, .ptr 0 0), (1, .own 1)], .fix 156 (List.map (fun z => SV.d (keS6 z)) (((([(0 : Int), (0 : Int), (0 : Int), (0 : Int)].set ((0 : Int)).toNat (IntKind.u8.wrap a1)).set ((1 : Int)).toNat (IntKind.u8.wrap (a1 / 2 ^ 8))).set ((2 : Int)).toNat (IntKind.u8.wrap (a1 / 2 ^ 16))).set ((3 : Int)).toNat (IntKind.u8.wrap (a1 / 2 ^ 24)))), .dead, .fix 100 []]) rfl ?_
 refine AO.nil (?_ : AC _ _ _ _)
 refine AC.seq ?_
 refine AC.drawC 5 mixed (by kernel_rfl) rfl ?_
 refine AD.op [0] rfl (by kernel_rfl) rfl rfl (fun _ _ h => AOp.move rfl rfl lb rfl h) ?_
 refine AD.op [7] rfl (by kernel_rfl) rfl rfl (fun _ _ h => AOp.sliceArr rfl rfl lb rfl ar156 ⟨_, _, rfl⟩ h) ?_
 refine AD.op [18] rfl (by kernel_rfl) rfl rfl (fun _ _ h => AOp.makeMeth rfl rfl lb rfl h) ?_
 refine AD.op [20] rfl (by kernel_rfl) rfl rfl (fun _ _ h => AOp.nilMeth rfl rfl lb rfl rfl nilm61_Write h) ?_
 refine AD.op [18] rfl (by kernel_rfl) rfl rfl (fun _ _ h => AOp.move rfl rfl lb rfl h) ?_
 refine AD.done ?_
 refine AO.subF 2 [0] rfl rfl ?_
 obtain ⟨q34, h0⟩ := need_elim h0
 obtain ⟨q35, h0⟩ := need_elim h0
 refine AO.op rfl (AOp.callW' (p := 0) (q := 1) (m := b1.length) (n := (((([(0 : Int), (0 : Int), (0 : Int), (0 : Int)].set ((0 : Int)).toNat (IntKind.u8.wrap a1)).set ((1 : Int)).toNat (IntKind.u8.wrap (a1 / 2 ^ 8))).set ((2 : Int)).toNat (IntKind.u8.wrap (a1 / 2 ^ 16))).set ((3 : Int)).toNat (IntKind.u8.wrap (a1 / 2 ^ 24))).length) (bs := (List.map keS6 b1)) (cs := (List.map keS6 (((([(0 : Int), (0 : Int), (0 : Int), (0 : Int)].set ((0 : Int)).toNat (IntKind.u8.wrap a1)).set ((1 : Int)).toNat (IntKind.u8.wrap (a1 / 2 ^ 8))).set ((2 : Int)).toNat (IntKind.u8.wrap (a1 / 2 ^ 16))).set ((3 : Int)).toNat (IntKind.u8.wrap (a1 / 2 ^ 24))))) (EntersS.meth (by kernel_rfl) rfl rfl rfl meth61_Write rfl rfl) bufW rfl lb rfl rfl (src_arr (f := keS6) rfl q34) rfl (isV_map (fun _ => rfl) _) (isV_map (fun _ => rfl) _) (one_map (fun _ => rfl) _) (one_map (fun _ => rfl) _) (len1 _ _) (len1 _ _) q35 (allNo (.cons rfl (.cons rfl (.cons rfl (.cons (noO2_fixl fun _ => rfl) (.cons rfl (.cons rfl .nil))))))) rfl (cat1 _ _ _) ?_)
 refine AO.nil ?_
 change AD _ _ _ _ _
 refine AD.op [23] rfl (by kernel_rfl) rfl rfl (fun _ _ h => AOp.move rfl rfl lb rfl h) ?_
 first | refine AD.op [17] rfl (by kernel_rfl) rfl rfl (fun _ _ h => AOp.extractD rfl rfl lb rfl rfl h) ?_ | refine AD.op [17] rfl (by kernel_rfl) rfl rfl (fun _ _ h => AOp.extract rfl rfl lb rfl rfl h) ?_
 first | refine AD.op [17] rfl (by kernel_rfl) rfl rfl (fun _ _ h => AOp.extractD rfl rfl lb rfl rfl h) ?_ | refine AD.op [17] rfl (by kernel_rfl) rfl rfl (fun _ _ h => AOp.extract rfl rfl lb rfl rfl h) ?_
 refine AD.op [24] rfl (by kernel_rfl) rfl rfl (fun _ _ h => AOp.assign rfl rfl lb rfl h) ?_
 refine AD.op [25] rfl (by kernel_rfl) rfl rfl (fun _ _ h => AOp.assign rfl rfl lb rfl h) ?_
 refine AD.done ?_
 refine AO.nS ?_
 refine AC.smn 2 rfl ?_
 obtain rfl := Option.some.inj h0
 refine AC.ret ?_
 change RetH _ _ _ _ _ _ .ret _
 refine reth (post := [.fix 108 [.own 1, .d (di .i64 (0 : Int)), .d (di .i8 (0 : Int))], .grow 5 1 (List.map keS6 (b1 ++ (((([(0 : Int), (0 : Int), (0 : Int), (0 : Int)].set ((0 : Int)).toNat (IntKind.u8.wrap a1)).set ((1 : Int)).toNat (IntKind.u8.wrap (a1 / 2 ^ 8))).set ((2 : Int)).toNat (IntKind.u8.wrap (a1 / 2 ^ 16))).set ((3 : Int)).toNat (IntKind.u8.wrap (a1 / 2 ^ 24)))))]) rfl rfl rfl rfl rfl ?_
 exact ⟨rfl, rfl⟩

set_option maxRecDepth 100000 in
set_option maxHeartbeats 4000000 in
theorem w_geom0_Empty (a0 : TGeom_geom0) (r0 : Bool) (h0 : p_geom0_Empty a0 = some r0) : FnD Tryz.prog 58 [.pt (c_TGeom_geom0 a0)] (fun r => r = dbool r0) := by
 refine FnD.of (by kernel_rfl) Tryz.func58 rfl Tryz.ntmps58 rfl (leb rfl) fun W ok => ?_
 unfold p_geom0_Empty at h0
 refine AC.smn 1 rfl ?_
 refine AC.sm 1 rfl ?_
 refine AO.op rfl (AOp.nilCheck rfl rfl lb rfl rfl ?_)
 refine AO.op rfl (AOp.fieldAddrPt rfl rfl lb rfl fo122_2 ?_)
 refine AO.op rfl (AOp.loadEp rfl rfl lb rfl agg22 rfl ?_)
 refine AO.op rfl (AOp.lenDs (n := a0.flatCoords.length) (cells := (List.map keS1 a0.flatCoords)) rfl rfl lb rfl el22 (by decide) (len1 _ _) ?_)
 refine AO.op rfl (AOp.ieql rfl rfl lb rfl rfl ?_)
 refine AO.mn 1 rfl ?_
 refine AC.ret ?_
 change RetQ _ _ _ .ret _
 obtain rfl := Option.some.inj h0
 refine retq rfl rfl

set_option maxRecDepth 100000 in
set_option maxHeartbeats 4000000 in
theorem w_geom0_Stride (a0 : TGeom_geom0) (r0 : Int) (h0 : p_geom0_Stride a0 = some r0) : FnD Tryz.prog 60 [.pt (c_TGeom_geom0 a0)] (fun r => r = di .i64 r0) := by
 refine FnD.of (by kernel_rfl) Tryz.func60 rfl Tryz.ntmps60 rfl (leb rfl) fun W ok => ?_
 unfold p_geom0_Stride at h0
 refine AC.smn 1 rfl ?_
 refine AC.sm 1 rfl ?_
 refine AO.op rfl (AOp.nilCheck rfl rfl lb rfl rfl ?_)
 refine AO.op rfl (AOp.fieldAddrPt rfl rfl lb rfl fo122_1 ?_)
 refine AO.op rfl (AOp.loadEp rfl rfl lb rfl agg3 rfl ?_)
 refine AO.mn 1 rfl ?_
 refine AC.ret ?_
 change RetQ _ _ _ .ret _
 obtain rfl := Option.some.inj h0
 refine retq rfl rfl

theorem callFromBits (x : Nat) (w : World) : (callFunc 86 #[.int .u64 x]).run Tryz.prog w = .ok (.value (.float .f64 x)) w := by
 rw [run_callFunc_extern Tryz.func86 (by kernel_rfl) (by kernel_rfl) (by kernel_rfl) (e := Extern.MathFloatBits.float64frombits) (by kernel_rfl), run_f64frombits Tryz.prog x]
 rfl

set_option maxRecDepth 100000 in
set_option maxHeartbeats 4000000 in
theorem w_PointEmptyCoord  (r0 : Nat) (h0 : p_PointEmptyCoord  = some r0) : FnD Tryz.prog 79 [] (fun r => r = dfl r0) := by
 refine FnD.of (by kernel_rfl) Tryz.func79 rfl Tryz.ntmps79 rfl (leb rfl) fun W ok => ?_
 unfold p_PointEmptyCoord at h0
 refine AC.smn 1 rfl ?_
 refine AC.sr ?_
 obtain ⟨q1, h0⟩ := need_elim h0
 refine AO.op rfl (AOp.callX [.int .u64 ((((9221120237041090560 : Int)).toNat : Nat) : Int)] rfl rfl lb (by rw [q1]; rfl) (callFromBits (((9221120237041090560 : Int)).toNat)) ?_)
 refine AO.mn 1 rfl ?_
 refine AC.ret ?_
 change RetQ _ _ _ .ret _
 obtain rfl := Option.some.inj h0
 refine retq rfl rfl

theorem callBits (x : Nat) (w : World) : (callFunc 88 #[.float .f64 x]).run Tryz.prog w = .ok (.value (.int .u64 x)) w := by
 rw [run_callFunc_extern Tryz.func88 (by kernel_rfl) (by kernel_rfl) (by kernel_rfl) (e := Extern.MathFloatBits.float64bits) (by kernel_rfl), run_f64bits Tryz.prog x]
 rfl

def RH_WriteFloatArray : (Int × (List Int)) → SV → List Ob → Prop
 | z => fun r post => r = .d (.v (.nilIface)) ∧ post = [.fix 108 [.own 1, .d (di .i64 (0 : Int)), .d (di .i8 z.1)], .grow 5 1 (List.map keS6 z.2)]
set_option maxRecDepth 100000 in
set_option maxHeartbeats 4000000 in
theorem wh_WriteFloatArray (F : Nat) (a0 : Bool) (a1 : (List Nat)) (b0 : Int) (b1 : (List Int)) (r0 : (Int × (List Int))) (h0 : p_WriteFloatArray F a0 a1 b0 b1 = some r0) : FnH Tryz.prog 80 [.ifc 61 (.ptr 0 0), .d (.ifc (bif a0 then 99 else 100) (.ag [])), .d (eS1 a1)] [.fix 108 [.own 1, .d (di .i64 (0 : Int)), .d (di .i8 b0)], .grow 5 1 (List.map keS6 b1)] [0] (RH_WriteFloatArray r0) := by
 refine FnH.of (by kernel_rfl) Tryz.func80 rfl Tryz.ntmps80 rfl (leb rfl) fun W ok may pv => ?_
 unfold p_WriteFloatArray at h0
 refine AC.smn 1 rfl ?_
 refine AC.sm 1 rfl ?_
 refine AO.op rfl (AOp.lenDs (n := a1.length) (cells := (List.map keS1 a1)) rfl rfl lb rfl el22 (by decide) (len1 _ _) ?_)
 obtain ⟨q1, h0⟩ := need_elim h0
 refine AO.op rfl (AOp.imul rfl rfl lb rfl rfl rfl q1.1 q1.2 ?_)
 obtain ⟨q2, h0⟩ := need_elim h0
 refine AO.op rfl (AOp.makeL (f := fun z => SV.d (keS6 z)) (z0 := (0 : Int)) rfl rfl lb rfl rfl el30 info5 rfl rfl (by decide) q2.1 q2.2 rfl ?_)
 refine AO.mn 1 rfl ?_
 refine AC.seq ?_
 refine AC.sm 1 rfl ?_
 refine AO.op rfl (AOp.lenDs (n := a1.length) (cells := (List.map keS1 a1)) rfl rfl lb rfl el22 (by decide) (len1 _ _) ?_)
 refine AO.mn 1 rfl ?_
 obtain ⟨o3, l4, h0⟩ := bind_elim h0
 refine AC.joinE (V := (List Int)) [0, 7] [] 4 (fun g5 => []) (fun g5 => [.fix 108 [.own 1, .d (di .i64 (0 : Int)), .d (di .i8 b0)], .grow 5 1 (List.map keS6 b1), .frame pv [(0, .ptr 0 0), (1, .own 1)], .fix 5 (List.map (fun z => SV.d (keS6 z)) g5)]) (fun g5 => (p_WriteFloatArray_k1 a1 b1) g5 = some r0) rfl ?_ ?_
 ·refine AC.block ?_
  refine AC.loopP (V := (Int × (List Int))) (p_WriteFloatArray_l2 a0 a1) o3 [0, 1, 7, 16, 17] [18] 4 (fun g8 => [(18, .d (di .i64 g8.1))]) (fun g8 => [.fix 108 [.own 1, .d (di .i64 (0 : Int)), .d (di .i8 b0)], .grow 5 1 (List.map keS6 b1), .frame pv [(0, .ptr 0 0), (1, .own 1)], .fix 5 (List.map (fun z => SV.d (keS6 z)) g8.2)]) F ((0 : Int), (List.replicate (((8 : Int) * ((a1.length : Nat) : Int))).toNat (0 : Int))) l4 rfl rfl (LeL.refl _) rfl (okU_mk rfl (okU_cons rfl (okU_cons rfl (okU_cons rfl (okU_cons (okU_fixl (fun _ => rfl)) okU_nil))))) ?_
  intro n10 g8 h1
  unfold p_WriteFloatArray_l2 at h1
  refine AC.sr ?_
  refine AO.op rfl (AOp.ilss rfl rfl lb rfl rfl ?_)
  refine AO.nS ?_
  refine AC.seq ?_
  refine AC.cond rfl (fun q11 => ?_) (fun q11 => ?_)
  ·replace h1 := cT h1 q11
   refine AC.skip ?_
   change AC _ _ _ _
   refine AC.seq ?_
   refine AC.block ?_
   refine AC.sm 1 rfl ?_
   obtain ⟨x12, q13, h1⟩ := idx_elim h1
   refine AO.op rfl (AOp.indexDs (cells := (List.map keS1 a1)) rfl rfl lb rfl rfl el22 (by decide) q13.1 (lt1 q13.2) ?_)
   refine AO.op rfl (AOp.loadEp rfl rfl lb rfl agg60 (at1 q13.2) ?_)
   refine AO.mn 2 rfl ?_
   refine AC.region ?_
   refine AO.mv 2 rfl ?_
   obtain ⟨q14, h1⟩ := need_elim h1
   refine AO.op rfl (AOp.imul rfl rfl lb rfl rfl rfl q14.1 q14.2 ?_)
   obtain ⟨q15, h1⟩ := need_elim h1
   refine AO.op rfl (AOp.sliceSl (cap := ((((8 : Int) * ((a1.length : Nat) : Int))).toNat)) rfl rfl lb rfl rfl el30 q15.1 q15.2 ?_)
   refine AO.mv 2 rfl ?_
   refine AO.op rfl (AOp.inl [0, 1, 7, 16, 17, 18] (by kernel_rfl) Tryz.func87 rfl Tryz.ntmps87 rfl rfl lb rfl (leb rfl) rfl ?_)
   intro fr16
   refine AC.sm 1 rfl ?_
   refine AO.op rfl (AOp.callX [.float .f64 x12] rfl rfl lb rfl (callBits x12) ?_)
   refine AO.mn 1 rfl ?_
   refine AC.dec a0 (fun q17 => ?_) (fun q17 => ?_)
   ·replace h1 := cT h1 q17
    refine AC.sub 1 rfl (SVLe.ifBT q17) ?_
    refine AC.region ?_
    refine AO.mv 3 rfl ?_
    refine AO.op rfl (AOp.inlE [] (EntersS.meth (by kernel_rfl) rfl rfl rfl meth99_PutUint64 rfl rfl) Tryz.func135 rfl Tryz.ntmps135 rfl lb (leb rfl) rfl ?_)
    intro fr18
    refine AC.sr ?_
    refine AO.op rfl (AOp.box rfl rfl lb rfl rfl ?_)
    refine AO.objs (obs' := [.fix 108 [.own 1, .d (di .i64 (0 : Int)), .d (di .i8 b0)], .grow 5 1 (List.map keS6 b1), .frame pv [(0, .ptr 0 0), (1, .own 1)], .fix 5 (List.map (fun z => SV.d (keS6 z)) g8.2), .frame fr16 [(0, .ifc 61 (.ptr 0 0)), (1, .d (.ifc (bif a0 then 99 else 100) (.ag []))), (7, .sl 3 1 0 ((((8 : Int) * ((a1.length : Nat) : Int))).toNat) ((((8 : Int) * ((a1.length : Nat) : Int))).toNat)), (16, .d (eS1 a1)), (17, .d (di .i64 ((a1.length : Nat) : Int))), (18, .d (di .i64 g8.1))], .frame fr18 [], .fix 99 []]) rfl ?_
    refine AO.nS ?_
    refine AC.sm 1 rfl ?_
    obtain ⟨q19, h1⟩ := need_elim h1
    refine AO.op rfl (AOp.indexSf (lo := ((8 : Int) * g8.1)) (n := (((8 : Int) * ((a1.length : Nat) : Int))).toNat) rfl rfl lb rfl rfl el30 q19 ?_)
    obtain ⟨x20, q21, h1⟩ := idx_elim h1
    refine AO.op rfl (AOp.load1 rfl rfl lb rfl agg5 rfl (atO q21.2) ?_)
    refine AO.nS ?_
    refine AC.sm 2 rfl ?_
    obtain ⟨q22, h1⟩ := need_elim h1
    refine AO.op rfl (AOp.ishr (n := 56) rfl rfl lb rfl rfl (by decide) q22 rfl ?_)
    refine AO.op rfl (AOp.i2i rfl rfl lb rfl Tryz.underlying59 Tryz.underlying5 rfl ?_)
    obtain ⟨q23, h1⟩ := need_elim h1
    refine AO.op rfl (AOp.indexSf (lo := ((8 : Int) * g8.1)) (n := (((8 : Int) * ((a1.length : Nat) : Int))).toNat) rfl rfl lb rfl rfl el30 q23 ?_)
    obtain ⟨q24, h1⟩ := need_elim h1
    refine AO.op rfl (AOp.storeL (f := fun z => SV.d (keS6 z)) (l := g8.2) (i := ((((8 : Int) * g8.1) + (0 : Int))).toNat) (v := (IntKind.u8.wrap (((x12 : Nat) : Int) / 2 ^ 56))) rfl rfl rfl rfl size5 rfl rfl rfl q24 ?_)
    refine AO.nS ?_
    refine AC.sm 2 rfl ?_
    obtain ⟨q25, h1⟩ := need_elim h1
    refine AO.op rfl (AOp.ishr (n := 48) rfl rfl lb rfl rfl (by decide) q25 rfl ?_)
    refine AO.op rfl (AOp.i2i rfl rfl lb rfl Tryz.underlying59 Tryz.underlying5 rfl ?_)
    obtain ⟨q26, h1⟩ := need_elim h1
    refine AO.op rfl (AOp.indexSf (lo := ((8 : Int) * g8.1)) (n := (((8 : Int) * ((a1.length : Nat) : Int))).toNat) rfl rfl lb rfl rfl el30 q26 ?_)
    obtain ⟨q27, h1⟩ := need_elim h1
    refine AO.op rfl (AOp.storeL (f := fun z => SV.d (keS6 z)) (l := (g8.2.set ((((8 : Int) * g8.1) + (0 : Int))).toNat (IntKind.u8.wrap (((x12 : Nat) : Int) / 2 ^ 56)))) (i := ((((8 : Int) * g8.1) + (1 : Int))).toNat) (v := (IntKind.u8.wrap (((x12 : Nat) : Int) / 2 ^ 48))) rfl rfl rfl rfl size5 rfl rfl rfl q27 ?_)
    refine AO.nS ?_
    refine AC.sm 2 rfl ?_
    obtain ⟨q28, h1⟩ := need_elim h1
    refine AO.op rfl (AOp.ishr (n := 40) rfl rfl lb rfl rfl (by decide) q28 rfl ?_)
    refine AO.op rfl (AOp.i2i rfl rfl lb rfl Tryz.underlying59 Tryz.underlying5 rfl ?_)
    obtain ⟨q29, h1⟩ := need_elim h1
    refine AO.op rfl (AOp.indexSf (lo := ((8 : Int) * g8.1)) (n := (((8 : Int) * ((a1.length : Nat) : Int))).toNat) rfl rfl lb rfl rfl el30 q29 ?_)
    obtain ⟨q30, h1⟩ := need_elim h1
    refine AO.op rfl (AOp.storeL (f := fun z => SV.d (keS6 z)) (l := ((g8.2.set ((((8 : Int) * g8.1) + (0 : Int))).toNat (IntKind.u8.wrap (((x12 : Nat) : Int) / 2 ^ 56))).set ((((8 : Int) * g8.1) + (1 : Int))).toNat (IntKind.u8.wrap (((x12 : Nat) : Int) / 2 ^ 48)))) (i := ((((8 : Int) * g8.1) + (2 : Int))).toNat) (v := (IntKind.u8.wrap (((x12 : Nat) : Int) / 2 ^ 40))) rfl rfl rfl rfl size5 rfl rfl rfl q30 ?_)
    refine AO.nS ?_
    refine AC.sm 2 rfl ?_
    obtain ⟨q31, h1⟩ := need_elim h1
    refine AO.op rfl (AOp.ishr (n := 32) rfl rfl lb rfl rfl (by decide) q31 rfl ?_)
    refine AO.op rfl (AOp.i2i rfl rfl lb rfl Tryz.underlying59 Tryz.underlying5 rfl ?_)
    obtain ⟨q32, h1⟩ := need_elim h1
    refine AO.op rfl (AOp.indexSf (lo := ((8 : Int) * g8.1)) (n := (((8 : Int) * ((a1.length : Nat) : Int))).toNat) rfl rfl lb rfl rfl el30 q32 ?_)
    obtain ⟨q33, h1⟩ := need_elim h1
    refine AO.op rfl (AOp.storeL (f := fun z => SV.d (keS6 z)) (l := (((g8.2.set ((((8 : Int) * g8.1) + (0 : Int))).toNat (IntKind.u8.wrap (((x12 : Nat) : Int) / 2 ^ 56))).set ((((8 : Int) * g8.1) + (1 : Int))).toNat (IntKind.u8.wrap (((x12 : Nat) : Int) / 2 ^ 48))).set ((((8 : Int) * g8.1) + (2 : Int))).toNat (IntKind.u8.wrap (((x12 : Nat) : Int) / 2 ^ 40)))) (i := ((((8 : Int) * g8.1) + (3 : Int))).toNat) (v := (IntKind.u8.wrap (((x12 : Nat) : Int) / 2 ^ 32))) rfl rfl rfl rfl size5 rfl rfl rfl q33 ?_)
    refine AO.nS ?_
    refine AC.sm 2 rfl ?_
    obtain ⟨q34, h1⟩ := need_elim h1
    refine AO.op rfl (AOp.ishr (n := 24) rfl rfl lb rfl rfl (by decide) q34 rfl ?_)
    refine AO.op rfl (AOp.i2i rfl rfl lb rfl Tryz.underlying59 Tryz.underlying5 rfl ?_)
    obtain ⟨q35, h1⟩ := need_elim h1
    refine AO.op rfl (AOp.indexSf (lo := ((8 : Int) * g8.1)) (n := (((8 : Int) * ((a1.length : Nat) : Int))).toNat) rfl rfl lb rfl rfl el30 q35 ?_)
    obtain ⟨q36, h1⟩ := need_elim h1
    refine AO.op rfl (AOp.storeL (f := fun z => SV.d (keS6 z)) (l := ((((g8.2.set ((((8 : Int) * g8.1) + (0 : Int))).toNat (IntKind.u8.wrap (((x12 : Nat) : Int) / 2 ^ 56))).set ((((8 : Int) * g8.1) + (1 : Int))).toNat (IntKind.u8.wrap (((x12 : Nat) : Int) / 2 ^ 48))).set ((((8 : Int) * g8.1) + (2 : Int))).toNat (IntKind.u8.wrap (((x12 : Nat) : Int) / 2 ^ 40))).set ((((8 : Int) * g8.1) + (3 : Int))).toNat (IntKind.u8.wrap (((x12 : Nat) : Int) / 2 ^ 32)))) (i := ((((8 : Int) * g8.1) + (4 : Int))).toNat) (v := (IntKind.u8.wrap (((x12 : Nat) : Int) / 2 ^ 24))) rfl rfl rfl rfl size5 rfl rfl rfl q36 ?_)
    refine AO.nS ?_
    refine AC.sm 2 rfl ?_
    obtain ⟨q37, h1⟩ := need_elim h1
    refine AO.op rfl (AOp.ishr (n := 16) rfl rfl lb rfl rfl (by decide) q37 rfl ?_)
    refine AO.op rfl (AOp.i2i rfl rfl lb rfl Tryz.underlying59 Tryz.underlying5 rfl ?_)
    obtain ⟨q38, h1⟩ := need_elim h1
    refine AO.op rfl (AOp.indexSf (lo := ((8 : Int) * g8.1)) (n := (((8 : Int) * ((a1.length : Nat) : Int))).toNat) rfl rfl lb rfl rfl el30 q38 ?_)
    obtain ⟨q39, h1⟩ := need_elim h1
    refine AO.op rfl (AOp.storeL (f := fun z => SV.d (keS6 z)) (l := (((((g8.2.set ((((8 : Int) * g8.1) + (0 : Int))).toNat (IntKind.u8.wrap (((x12 : Nat) : Int) / 2 ^ 56))).set ((((8 : Int) * g8.1) + (1 : Int))).toNat (IntKind.u8.wrap (((x12 : Nat) : Int) / 2 ^ 48))).set ((((8 : Int) * g8.1) + (2 : Int))).toNat (IntKind.u8.wrap (((x12 : Nat) : Int) / 2 ^ 40))).set ((((8 : Int) * g8.1) + (3 : Int))).toNat (IntKind.u8.wrap (((x12 : Nat) : Int) / 2 ^ 32))).set ((((8 : Int) * g8.1) + (4 : Int))).toNat (IntKind.u8.wrap (((x12 : Nat) : Int) / 2 ^ 24)))) (i := ((((8 : Int) * g8.1) + (5 : Int))).toNat) (v := (IntKind.u8.wrap (((x12 : Nat) : Int) / 2 ^ 16))) rfl rfl rfl rfl size5 rfl rfl rfl q39 ?_)
    refine AO.objs (obs' := [.fix 108 [.own 1, .d (di .i64 (0 : Int)), .d (di .i8 b0)], .grow 5 1 (List.map keS6 b1), .frame pv [(0, .ptr 0 0), (1, .own 1)], .fix 5 (List.map (fun z => SV.d (keS6 z)) ((((((g8.2.set ((((8 : Int) * g8.1) + (0 : Int))).toNat (IntKind.u8.wrap (((x12 : Nat) : Int) / 2 ^ 56))).set ((((8 : Int) * g8.1) + (1 : Int))).toNat (IntKind.u8.wrap (((x12 : Nat) : Int) / 2 ^ 48))).set ((((8 : Int) * g8.1) + (2 : Int))).toNat (IntKind.u8.wrap (((x12 : Nat) : Int) / 2 ^ 40))).set ((((8 : Int) * g8.1) + (3 : Int))).toNat (IntKind.u8.wrap (((x12 : Nat) : Int) / 2 ^ 32))).set ((((8 : Int) * g8.1) + (4 : Int))).toNat (IntKind.u8.wrap (((x12 : Nat) : Int) / 2 ^ 24))).set ((((8 : Int) * g8.1) + (5 : Int))).toNat (IntKind.u8.wrap (((x12 : Nat) : Int) / 2 ^ 16)))), .frame fr16 [(0, .ifc 61 (.ptr 0 0)), (1, .d (.ifc (bif a0 then 99 else 100) (.ag []))), (7, .sl 3 1 0 ((((8 : Int) * ((a1.length : Nat) : Int))).toNat) ((((8 : Int) * ((a1.length : Nat) : Int))).toNat)), (16, .d (eS1 a1)), (17, .d (di .i64 ((a1.length : Nat) : Int))), (18, .d (di .i64 g8.1))], .frame fr18 [], .fix 99 []]) rfl ?_
    refine AO.nS ?_
    refine AC.sm 2 rfl ?_
    obtain ⟨q40, h1⟩ := need_elim h1
    refine AO.op rfl (AOp.ishr (n := 8) rfl rfl lb rfl rfl (by decide) q40 rfl ?_)
    refine AO.op rfl (AOp.i2i rfl rfl lb rfl Tryz.underlying59 Tryz.underlying5 rfl ?_)
    obtain ⟨q41, h1⟩ := need_elim h1
    refine AO.op rfl (AOp.indexSf (lo := ((8 : Int) * g8.1)) (n := (((8 : Int) * ((a1.length : Nat) : Int))).toNat) rfl rfl lb rfl rfl el30 q41 ?_)
    obtain ⟨q42, h1⟩ := need_elim h1
    refine AO.op rfl (AOp.storeL (f := fun z => SV.d (keS6 z)) (l := ((((((g8.2.set ((((8 : Int) * g8.1) + (0 : Int))).toNat (IntKind.u8.wrap (((x12 : Nat) : Int) / 2 ^ 56))).set ((((8 : Int) * g8.1) + (1 : Int))).toNat (IntKind.u8.wrap (((x12 : Nat) : Int) / 2 ^ 48))).set ((((8 : Int) * g8.1) + (2 : Int))).toNat (IntKind.u8.wrap (((x12 : Nat) : Int) / 2 ^ 40))).set ((((8 : Int) * g8.1) + (3 : Int))).toNat (IntKind.u8.wrap (((x12 : Nat) : Int) / 2 ^ 32))).set ((((8 : Int) * g8.1) + (4 : Int))).toNat (IntKind.u8.wrap (((x12 : Nat) : Int) / 2 ^ 24))).set ((((8 : Int) * g8.1) + (5 : Int))).toNat (IntKind.u8.wrap (((x12 : Nat) : Int) / 2 ^ 16)))) (i := ((((8 : Int) * g8.1) + (6 : Int))).toNat) (v := (IntKind.u8.wrap (((x12 : Nat) : Int) / 2 ^ 8))) rfl rfl rfl rfl size5 rfl rfl rfl q42 ?_)
    refine AO.nS ?_
    refine AC.region ?_
    refine AO.mv 2 rfl ?_
    refine AO.op rfl (AOp.i2i rfl rfl lb rfl Tryz.underlying59 Tryz.underlying5 rfl ?_)
    obtain ⟨q43, h1⟩ := need_elim h1
    refine AO.op rfl (AOp.indexSf (lo := ((8 : Int) * g8.1)) (n := (((8 : Int) * ((a1.length : Nat) : Int))).toNat) rfl rfl lb rfl rfl el30 q43 ?_)
    obtain ⟨q44, h1⟩ := need_elim h1
    refine AO.op rfl (AOp.storeL (f := fun z => SV.d (keS6 z)) (l := (((((((g8.2.set ((((8 : Int) * g8.1) + (0 : Int))).toNat (IntKind.u8.wrap (((x12 : Nat) : Int) / 2 ^ 56))).set ((((8 : Int) * g8.1) + (1 : Int))).toNat (IntKind.u8.wrap (((x12 : Nat) : Int) / 2 ^ 48))).set ((((8 : Int) * g8.1) + (2 : Int))).toNat (IntKind.u8.wrap (((x12 : Nat) : Int) / 2 ^ 40))).set ((((8 : Int) * g8.1) + (3 : Int))).toNat (IntKind.u8.wrap (((x12 : Nat) : Int) / 2 ^ 32))).set ((((8 : Int) * g8.1) + (4 : Int))).toNat (IntKind.u8.wrap (((x12 : Nat) : Int) / 2 ^ 24))).set ((((8 : Int) * g8.1) + (5 : Int))).toNat (IntKind.u8.wrap (((x12 : Nat) : Int) / 2 ^ 16))).set ((((8 : Int) * g8.1) + (6 : Int))).toNat (IntKind.u8.wrap (((x12 : Nat) : Int) / 2 ^ 8)))) (i := ((((8 : Int) * g8.1) + (7 : Int))).toNat) (v := (IntKind.u8.wrap ((x12 : Nat) : Int))) rfl rfl rfl rfl size5 rfl rfl rfl q44 ?_)
    refine AO.nil ?_
    refine inlend (ob' := [.fix 108 [.own 1, .d (di .i64 (0 : Int)), .d (di .i8 b0)], .grow 5 1 (List.map keS6 b1), .frame pv [(0, .ptr 0 0), (1, .own 1)], .fix 5 (List.map (fun z => SV.d (keS6 z)) ((((((((g8.2.set ((((8 : Int) * g8.1) + (0 : Int))).toNat (IntKind.u8.wrap (((x12 : Nat) : Int) / 2 ^ 56))).set ((((8 : Int) * g8.1) + (1 : Int))).toNat (IntKind.u8.wrap (((x12 : Nat) : Int) / 2 ^ 48))).set ((((8 : Int) * g8.1) + (2 : Int))).toNat (IntKind.u8.wrap (((x12 : Nat) : Int) / 2 ^ 40))).set ((((8 : Int) * g8.1) + (3 : Int))).toNat (IntKind.u8.wrap (((x12 : Nat) : Int) / 2 ^ 32))).set ((((8 : Int) * g8.1) + (4 : Int))).toNat (IntKind.u8.wrap (((x12 : Nat) : Int) / 2 ^ 24))).set ((((8 : Int) * g8.1) + (5 : Int))).toNat (IntKind.u8.wrap (((x12 : Nat) : Int) / 2 ^ 16))).set ((((8 : Int) * g8.1) + (6 : Int))).toNat (IntKind.u8.wrap (((x12 : Nat) : Int) / 2 ^ 8))).set ((((8 : Int) * g8.1) + (7 : Int))).toNat (IntKind.u8.wrap ((x12 : Nat) : Int)))), .frame fr16 [(0, .ifc 61 (.ptr 0 0)), (1, .d (.ifc (bif a0 then 99 else 100) (.ag []))), (7, .sl 3 1 0 ((((8 : Int) * ((a1.length : Nat) : Int))).toNat) ((((8 : Int) * ((a1.length : Nat) : Int))).toNat)), (16, .d (eS1 a1)), (17, .d (di .i64 ((a1.length : Nat) : Int))), (18, .d (di .i64 g8.1))], .dead, .fix 99 []]) (e' := []) (r := .tu []) rfl rfl rfl ?_
    change AO _ _ _ _ _
    refine AO.objs (obs' := [.fix 108 [.own 1, .d (di .i64 (0 : Int)), .d (di .i8 b0)], .grow 5 1 (List.map keS6 b1), .frame pv [(0, .ptr 0 0), (1, .own 1)], .fix 5 (List.map (fun z => SV.d (keS6 z)) ((((((((g8.2.set ((((8 : Int) * g8.1) + (0 : Int))).toNat (IntKind.u8.wrap (((x12 : Nat) : Int) / 2 ^ 56))).set ((((8 : Int) * g8.1) + (1 : Int))).toNat (IntKind.u8.wrap (((x12 : Nat) : Int) / 2 ^ 48))).set ((((8 : Int) * g8.1) + (2 : Int))).toNat (IntKind.u8.wrap (((x12 : Nat) : Int) / 2 ^ 40))).set ((((8 : Int) * g8.1) + (3 : Int))).toNat (IntKind.u8.wrap (((x12 : Nat) : Int) / 2 ^ 32))).set ((((8 : Int) * g8.1) + (4 : Int))).toNat (IntKind.u8.wrap (((x12 : Nat) : Int) / 2 ^ 24))).set ((((8 : Int) * g8.1) + (5 : Int))).toNat (IntKind.u8.wrap (((x12 : Nat) : Int) / 2 ^ 16))).set ((((8 : Int) * g8.1) + (6 : Int))).toNat (IntKind.u8.wrap (((x12 : Nat) : Int) / 2 ^ 8))).set ((((8 : Int) * g8.1) + (7 : Int))).toNat (IntKind.u8.wrap ((x12 : Nat) : Int)))), .frame fr16 [(0, .ifc 61 (.ptr 0 0)), (1, .d (.ifc (bif a0 then 99 else 100) (.ag []))), (7, .sl 3 1 0 ((((8 : Int) * ((a1.length : Nat) : Int))).toNat) ((((8 : Int) * ((a1.length : Nat) : Int))).toNat)), (16, .d (eS1 a1)), (17, .d (di .i64 ((a1.length : Nat) : Int))), (18, .d (di .i64 g8.1))], .dead, .fix 99 []]) rfl ?_
    refine AO.nil ?_
    refine inlend (ob' := [.fix 108 [.own 1, .d (di .i64 (0 : Int)), .d (di .i8 b0)], .grow 5 1 (List.map keS6 b1), .frame pv [(0, .ptr 0 0), (1, .own 1)], .fix 5 (List.map (fun z => SV.d (keS6 z)) ((((((((g8.2.set ((((8 : Int) * g8.1) + (0 : Int))).toNat (IntKind.u8.wrap (((x12 : Nat) : Int) / 2 ^ 56))).set ((((8 : Int) * g8.1) + (1 : Int))).toNat (IntKind.u8.wrap (((x12 : Nat) : Int) / 2 ^ 48))).set ((((8 : Int) * g8.1) + (2 : Int))).toNat (IntKind.u8.wrap (((x12 : Nat) : Int) / 2 ^ 40))).set ((((8 : Int) * g8.1) + (3 : Int))).toNat (IntKind.u8.wrap (((x12 : Nat) : Int) / 2 ^ 32))).set ((((8 : Int) * g8.1) + (4 : Int))).toNat (IntKind.u8.wrap (((x12 : Nat) : Int) / 2 ^ 24))).set ((((8 : Int) * g8.1) + (5 : Int))).toNat (IntKind.u8.wrap (((x12 : Nat) : Int) / 2 ^ 16))).set ((((8 : Int) * g8.1) + (6 : Int))).toNat (IntKind.u8.wrap (((x12 : Nat) : Int) / 2 ^ 8))).set ((((8 : Int) * g8.1) + (7 : Int))).toNat (IntKind.u8.wrap ((x12 : Nat) : Int)))), .dead, .dead, .fix 99 []]) (e' := [(0, .ifc 61 (.ptr 0 0)), (1, .d (.ifc (bif a0 then 99 else 100) (.ag []))), (7, .sl 3 1 0 ((((8 : Int) * ((a1.length : Nat) : Int))).toNat) ((((8 : Int) * ((a1.length : Nat) : Int))).toNat)), (16, .d (eS1 a1)), (17, .d (di .i64 ((a1.length : Nat) : Int))), (18, .d (di .i64 g8.1))]) (r := .tu []) rfl rfl rfl ?_
    change AO _ _ _ _ _
    refine AO.objs (obs' := [.fix 108 [.own 1, .d (di .i64 (0 : Int)), .d (di .i8 b0)], .grow 5 1 (List.map keS6 b1), .frame pv [(0, .ptr 0 0), (1, .own 1)], .fix 5 (List.map (fun z => SV.d (keS6 z)) ((((((((g8.2.set ((((8 : Int) * g8.1) + (0 : Int))).toNat (IntKind.u8.wrap (((x12 : Nat) : Int) / 2 ^ 56))).set ((((8 : Int) * g8.1) + (1 : Int))).toNat (IntKind.u8.wrap (((x12 : Nat) : Int) / 2 ^ 48))).set ((((8 : Int) * g8.1) + (2 : Int))).toNat (IntKind.u8.wrap (((x12 : Nat) : Int) / 2 ^ 40))).set ((((8 : Int) * g8.1) + (3 : Int))).toNat (IntKind.u8.wrap (((x12 : Nat) : Int) / 2 ^ 32))).set ((((8 : Int) * g8.1) + (4 : Int))).toNat (IntKind.u8.wrap (((x12 : Nat) : Int) / 2 ^ 24))).set ((((8 : Int) * g8.1) + (5 : Int))).toNat (IntKind.u8.wrap (((x12 : Nat) : Int) / 2 ^ 16))).set ((((8 : Int) * g8.1) + (6 : Int))).toNat (IntKind.u8.wrap (((x12 : Nat) : Int) / 2 ^ 8))).set ((((8 : Int) * g8.1) + (7 : Int))).toNat (IntKind.u8.wrap ((x12 : Nat) : Int)))), .dead, .dead, .fix 99 []]) rfl ?_
    refine AO.nil (?_ : AC _ _ _ _)
    refine AC.region ?_
    obtain ⟨q45, h1⟩ := need_elim h1
    refine AO.op rfl (AOp.iadd rfl rfl lb rfl rfl rfl q45.1 q45.2 ?_)
    refine AO.mv 1 rfl ?_
    refine AO.nil ?_
    exact ⟨((g8.1 + (1 : Int)), ((((((((g8.2.set ((((8 : Int) * g8.1) + (0 : Int))).toNat (IntKind.u8.wrap (((x12 : Nat) : Int) / 2 ^ 56))).set ((((8 : Int) * g8.1) + (1 : Int))).toNat (IntKind.u8.wrap (((x12 : Nat) : Int) / 2 ^ 48))).set ((((8 : Int) * g8.1) + (2 : Int))).toNat (IntKind.u8.wrap (((x12 : Nat) : Int) / 2 ^ 40))).set ((((8 : Int) * g8.1) + (3 : Int))).toNat (IntKind.u8.wrap (((x12 : Nat) : Int) / 2 ^ 32))).set ((((8 : Int) * g8.1) + (4 : Int))).toNat (IntKind.u8.wrap (((x12 : Nat) : Int) / 2 ^ 24))).set ((((8 : Int) * g8.1) + (5 : Int))).toNat (IntKind.u8.wrap (((x12 : Nat) : Int) / 2 ^ 16))).set ((((8 : Int) * g8.1) + (6 : Int))).toNat (IntKind.u8.wrap (((x12 : Nat) : Int) / 2 ^ 8))).set ((((8 : Int) * g8.1) + (7 : Int))).toNat (IntKind.u8.wrap ((x12 : Nat) : Int)))), _, rfl, (LeL.refl _), rfl, (okU_mk rfl (okU_cons rfl (okU_cons rfl (okU_cons rfl (okU_cons (okU_fixl (fun _ => rfl)) okU_nil))))), h1⟩
   replace h1 := cF h1 q17
   refine AC.sub 1 rfl (SVLe.ifBF q17) ?_
   refine AC.region ?_
   refine AO.mv 3 rfl ?_
   refine AO.op rfl (AOp.inlE [] (EntersS.meth (by kernel_rfl) rfl rfl rfl meth100_PutUint64 rfl rfl) Tryz.func143 rfl Tryz.ntmps143 rfl lb (leb rfl) rfl ?_)
   intro fr46
   refine AC.sr ?_
   refine AO.op rfl (AOp.box rfl rfl lb rfl rfl ?_)
   refine AO.objs (obs' := [.fix 108 [.own 1, .d (di .i64 (0 : Int)), .d (di .i8 b0)], .grow 5 1 (List.map keS6 b1), .frame pv [(0, .ptr 0 0), (1, .own 1)], .fix 5 (List.map (fun z => SV.d (keS6 z)) g8.2), .frame fr16 [(0, .ifc 61 (.ptr 0 0)), (1, .d (.ifc (bif a0 then 99 else 100) (.ag []))), (7, .sl 3 1 0 ((((8 : Int) * ((a1.length : Nat) : Int))).toNat) ((((8 : Int) * ((a1.length : Nat) : Int))).toNat)), (16, .d (eS1 a1)), (17, .d (di .i64 ((a1.length : Nat) : Int))), (18, .d (di .i64 g8.1))], .frame fr46 [], .fix 100 []]) rfl ?_
   refine AO.nS ?_
   refine AC.sm 1 rfl ?_
   obtain ⟨q47, h1⟩ := need_elim h1
   refine AO.op rfl (AOp.indexSf (lo := ((8 : Int) * g8.1)) (n := (((8 : Int) * ((a1.length : Nat) : Int))).toNat) rfl rfl lb rfl rfl el30 q47 ?_)
   obtain ⟨x48, q49, h1⟩ := idx_elim h1
   refine AO.op rfl (AOp.load1 rfl rfl lb rfl agg5 rfl (atO q49.2) ?_)
   refine AO.nS ?_
   refine AC.sm 2 rfl ?_
   refine AO.op rfl (AOp.i2i rfl rfl lb rfl Tryz.underlying59 Tryz.underlying5 rfl ?_)
   obtain ⟨q50, h1⟩ := need_elim h1
   refine AO.op rfl (AOp.indexSf (lo := ((8 : Int) * g8.1)) (n := (((8 : Int) * ((a1.length : Nat) : Int))).toNat) rfl rfl lb rfl rfl el30 q50 ?_)
   obtain ⟨q51, h1⟩ := need_elim h1
   refine AO.op rfl (AOp.storeL (f := fun z => SV.d (keS6 z)) (l := g8.2) (i := ((((8 : Int) * g8.1) + (0 : Int))).toNat) (v := (IntKind.u8.wrap ((x12 : Nat) : Int))) rfl rfl rfl rfl size5 rfl rfl rfl q51 ?_)
   refine AO.nS ?_
   refine AC.sm 2 rfl ?_
   obtain ⟨q52, h1⟩ := need_elim h1
   refine AO.op rfl (AOp.ishr (n := 8) rfl rfl lb rfl rfl (by decide) q52 rfl ?_)
   refine AO.op rfl (AOp.i2i rfl rfl lb rfl Tryz.underlying59 Tryz.underlying5 rfl ?_)
   obtain ⟨q53, h1⟩ := need_elim h1
   refine AO.op rfl (AOp.indexSf (lo := ((8 : Int) * g8.1)) (n := (((8 : Int) * ((a1.length : Nat) : Int))).toNat) rfl rfl lb rfl rfl el30 q53 ?_)
   obtain ⟨q54, h1⟩ := need_elim h1
   refine AO.op rfl (AOp.storeL (f := fun z => SV.d (keS6 z)) (l := (g8.2.set ((((8 : Int) * g8.1) + (0 : Int))).toNat (IntKind.u8.wrap ((x12 : Nat) : Int)))) (i := ((((8 : Int) * g8.1) + (1 : Int))).toNat) (v := (IntKind.u8.wrap (((x12 : Nat) : Int) / 2 ^ 8))) rfl rfl rfl rfl size5 rfl rfl rfl q54 ?_)
   refine AO.nS ?_
   refine AC.sm 2 rfl ?_
   obtain ⟨q55, h1⟩ := need_elim h1
   refine AO.op rfl (AOp.ishr (n := 16) rfl rfl lb rfl rfl (by decide) q55 rfl ?_)
   refine AO.op rfl (AOp.i2i rfl rfl lb rfl Tryz.underlying59 Tryz.underlying5 rfl ?_)
   obtain ⟨q56, h1⟩ := need_elim h1
   refine AO.op rfl (AOp.indexSf (lo := ((8 : Int) * g8.1)) (n := (((8 : Int) * ((a1.length : Nat) : Int))).toNat) rfl rfl lb rfl rfl el30 q56 ?_)
   obtain ⟨q57, h1⟩ := need_elim h1
   refine AO.op rfl (AOp.storeL (f := fun z => SV.d (keS6 z)) (l := ((g8.2.set ((((8 : Int) * g8.1) + (0 : Int))).toNat (IntKind.u8.wrap ((x12 : Nat) : Int))).set ((((8 : Int) * g8.1) + (1 : Int))).toNat (IntKind.u8.wrap (((x12 : Nat) : Int) / 2 ^ 8)))) (i := ((((8 : Int) * g8.1) + (2 : Int))).toNat) (v := (IntKind.u8.wrap (((x12 : Nat) : Int) / 2 ^ 16))) rfl rfl rfl rfl size5 rfl rfl rfl q57 ?_)
   refine AO.nS ?_
   refine AC.sm 2 rfl ?_
   obtain ⟨q58, h1⟩ := need_elim h1
   refine AO.op rfl (AOp.ishr (n := 24) rfl rfl lb rfl rfl (by decide) q58 rfl ?_)
   refine AO.op rfl (AOp.i2i rfl rfl lb rfl Tryz.underlying59 Tryz.underlying5 rfl ?_)
   obtain ⟨q59, h1⟩ := need_elim h1
   refine AO.op rfl (AOp.indexSf (lo := ((8 : Int) * g8.1)) (n := (((8 : Int) * ((a1.length : Nat) : Int))).toNat) rfl rfl lb rfl rfl el30 q59 ?_)
   obtain ⟨q60, h1⟩ := need_elim h1
   refine AO.op rfl (AOp.storeL (f := fun z => SV.d (keS6 z)) (l := (((g8.2.set ((((8 : Int) * g8.1) + (0 : Int))).toNat (IntKind.u8.wrap ((x12 : Nat) : Int))).set ((((8 : Int) * g8.1) + (1 : Int))).toNat (IntKind.u8.wrap (((x12 : Nat) : Int) / 2 ^ 8))).set ((((8 : Int) * g8.1) + (2 : Int))).toNat (IntKind.u8.wrap (((x12 : Nat) : Int) / 2 ^ 16)))) (i := ((((8 : Int) * g8.1) + (3 : Int))).toNat) (v := (IntKind.u8.wrap (((x12 : Nat) : Int) / 2 ^ 24))) rfl rfl rfl rfl size5 rfl rfl rfl q60 ?_)
   refine AO.nS ?_
   refine AC.sm 2 rfl ?_
   obtain ⟨q61, h1⟩ := need_elim h1
   refine AO.op rfl (AOp.ishr (n := 32) rfl rfl lb rfl rfl (by decide) q61 rfl ?_)
   refine AO.op rfl (AOp.i2i rfl rfl lb rfl Tryz.underlying59 Tryz.underlying5 rfl ?_)
   obtain ⟨q62, h1⟩ := need_elim h1
   refine AO.op rfl (AOp.indexSf (lo := ((8 : Int) * g8.1)) (n := (((8 : Int) * ((a1.length : Nat) : Int))).toNat) rfl rfl lb rfl rfl el30 q62 ?_)
   obtain ⟨q63, h1⟩ := need_elim h1
   refine AO.op rfl (AOp.storeL (f := fun z => SV.d (keS6 z)) (l := ((((g8.2.set ((((8 : Int) * g8.1) + (0 : Int))).toNat (IntKind.u8.wrap ((x12 : Nat) : Int))).set ((((8 : Int) * g8.1) + (1 : Int))).toNat (IntKind.u8.wrap (((x12 : Nat) : Int) / 2 ^ 8))).set ((((8 : Int) * g8.1) + (2 : Int))).toNat (IntKind.u8.wrap (((x12 : Nat) : Int) / 2 ^ 16))).set ((((8 : Int) * g8.1) + (3 : Int))).toNat (IntKind.u8.wrap (((x12 : Nat) : Int) / 2 ^ 24)))) (i := ((((8 : Int) * g8.1) + (4 : Int))).toNat) (v := (IntKind.u8.wrap (((x12 : Nat) : Int) / 2 ^ 32))) rfl rfl rfl rfl size5 rfl rfl rfl q63 ?_)
   refine AO.nS ?_
   refine AC.sm 2 rfl ?_
   obtain ⟨q64, h1⟩ := need_elim h1
   refine AO.op rfl (AOp.ishr (n := 40) rfl rfl lb rfl rfl (by decide) q64 rfl ?_)
   refine AO.op rfl (AOp.i2i rfl rfl lb rfl Tryz.underlying59 Tryz.underlying5 rfl ?_)
   obtain ⟨q65, h1⟩ := need_elim h1
   refine AO.op rfl (AOp.indexSf (lo := ((8 : Int) * g8.1)) (n := (((8 : Int) * ((a1.length : Nat) : Int))).toNat) rfl rfl lb rfl rfl el30 q65 ?_)
   obtain ⟨q66, h1⟩ := need_elim h1
   refine AO.op rfl (AOp.storeL (f := fun z => SV.d (keS6 z)) (l := (((((g8.2.set ((((8 : Int) * g8.1) + (0 : Int))).toNat (IntKind.u8.wrap ((x12 : Nat) : Int))).set ((((8 : Int) * g8.1) + (1 : Int))).toNat (IntKind.u8.wrap (((x12 : Nat) : Int) / 2 ^ 8))).set ((((8 : Int) * g8.1) + (2 : Int))).toNat (IntKind.u8.wrap (((x12 : Nat) : Int) / 2 ^ 16))).set ((((8 : Int) * g8.1) + (3 : Int))).toNat (IntKind.u8.wrap (((x12 : Nat) : Int) / 2 ^ 24))).set ((((8 : Int) * g8.1) + (4 : Int))).toNat (IntKind.u8.wrap (((x12 : Nat) : Int) / 2 ^ 32)))) (i := ((((8 : Int) * g8.1) + (5 : Int))).toNat) (v := (IntKind.u8.wrap (((x12 : Nat) : Int) / 2 ^ 40))) rfl rfl rfl rfl size5 rfl rfl rfl q66 ?_)
   refine AO.objs (obs' := [.fix 108 [.own 1, .d (di .i64 (0 : Int)), .d (di .i8 b0)], .grow 5 1 (List.map keS6 b1), .frame pv [(0, .ptr 0 0), (1, .own 1)], .fix 5 (List.map (fun z => SV.d (keS6 z)) ((((((g8.2.set ((((8 : Int) * g8.1) + (0 : Int))).toNat (IntKind.u8.wrap ((x12 : Nat) : Int))).set ((((8 : Int) * g8.1) + (1 : Int))).toNat (IntKind.u8.wrap (((x12 : Nat) : Int) / 2 ^ 8))).set ((((8 : Int) * g8.1) + (2 : Int))).toNat (IntKind.u8.wrap (((x12 : Nat) : Int) / 2 ^ 16))).set ((((8 : Int) * g8.1) + (3 : Int))).toNat (IntKind.u8.wrap (((x12 : Nat) : Int) / 2 ^ 24))).set ((((8 : Int) * g8.1) + (4 : Int))).toNat (IntKind.u8.wrap (((x12 : Nat) : Int) / 2 ^ 32))).set ((((8 : Int) * g8.1) + (5 : Int))).toNat (IntKind.u8.wrap (((x12 : Nat) : Int) / 2 ^ 40)))), .frame fr16 [(0, .ifc 61 (.ptr 0 0)), (1, .d (.ifc (bif a0 then 99 else 100) (.ag []))), (7, .sl 3 1 0 ((((8 : Int) * ((a1.length : Nat) : Int))).toNat) ((((8 : Int) * ((a1.length : Nat) : Int))).toNat)), (16, .d (eS1 a1)), (17, .d (di .i64 ((a1.length : Nat) : Int))), (18, .d (di .i64 g8.1))], .frame fr46 [], .fix 100 []]) rfl ?_
   refine AO.nS ?_
   refine AC.sm 2 rfl ?_
   obtain ⟨q67, h1⟩ := need_elim h1
   refine AO.op rfl (AOp.ishr (n := 48) rfl rfl lb rfl rfl (by decide) q67 rfl ?_)
   refine AO.op rfl (AOp.i2i rfl rfl lb rfl Tryz.underlying59 Tryz.underlying5 rfl ?_)
   obtain ⟨q68, h1⟩ := need_elim h1
   refine AO.op rfl (AOp.indexSf (lo := ((8 : Int) * g8.1)) (n := (((8 : Int) * ((a1.length : Nat) : Int))).toNat) rfl rfl lb rfl rfl el30 q68 ?_)
   obtain ⟨q69, h1⟩ := need_elim h1
   refine AO.op rfl (AOp.storeL (f := fun z => SV.d (keS6 z)) (l := ((((((g8.2.set ((((8 : Int) * g8.1) + (0 : Int))).toNat (IntKind.u8.wrap ((x12 : Nat) : Int))).set ((((8 : Int) * g8.1) + (1 : Int))).toNat (IntKind.u8.wrap (((x12 : Nat) : Int) / 2 ^ 8))).set ((((8 : Int) * g8.1) + (2 : Int))).toNat (IntKind.u8.wrap (((x12 : Nat) : Int) / 2 ^ 16))).set ((((8 : Int) * g8.1) + (3 : Int))).toNat (IntKind.u8.wrap (((x12 : Nat) : Int) / 2 ^ 24))).set ((((8 : Int) * g8.1) + (4 : Int))).toNat (IntKind.u8.wrap (((x12 : Nat) : Int) / 2 ^ 32))).set ((((8 : Int) * g8.1) + (5 : Int))).toNat (IntKind.u8.wrap (((x12 : Nat) : Int) / 2 ^ 40)))) (i := ((((8 : Int) * g8.1) + (6 : Int))).toNat) (v := (IntKind.u8.wrap (((x12 : Nat) : Int) / 2 ^ 48))) rfl rfl rfl rfl size5 rfl rfl rfl q69 ?_)
   refine AO.nS ?_
   refine AC.region ?_
   refine AO.mv 2 rfl ?_
   obtain ⟨q70, h1⟩ := need_elim h1
   refine AO.op rfl (AOp.ishr (n := 56) rfl rfl lb rfl rfl (by decide) q70 rfl ?_)
   refine AO.op rfl (AOp.i2i rfl rfl lb rfl Tryz.underlying59 Tryz.underlying5 rfl ?_)
   obtain ⟨q71, h1⟩ := need_elim h1
   refine AO.op rfl (AOp.indexSf (lo := ((8 : Int) * g8.1)) (n := (((8 : Int) * ((a1.length : Nat) : Int))).toNat) rfl rfl lb rfl rfl el30 q71 ?_)
   obtain ⟨q72, h1⟩ := need_elim h1
   refine AO.op rfl (AOp.storeL (f := fun z => SV.d (keS6 z)) (l := (((((((g8.2.set ((((8 : Int) * g8.1) + (0 : Int))).toNat (IntKind.u8.wrap ((x12 : Nat) : Int))).set ((((8 : Int) * g8.1) + (1 : Int))).toNat (IntKind.u8.wrap (((x12 : Nat) : Int) / 2 ^ 8))).set ((((8 : Int) * g8.1) + (2 : Int))).toNat (IntKind.u8.wrap (((x12 : Nat) : Int) / 2 ^ 16))).set ((((8 : Int) * g8.1) + (3 : Int))).toNat (IntKind.u8.wrap (((x12 : Nat) : Int) / 2 ^ 24))).set ((((8 : Int) * g8.1) + (4 : Int))).toNat (IntKind.u8.wrap (((x12 : Nat) : Int) / 2 ^ 32))).set ((((8 : Int) * g8.1) + (5 : Int))).toNat (IntKind.u8.wrap (((x12 : Nat) : Int) / 2 ^ 40))).set ((((8 : Int) * g8.1) + (6 : Int))).toNat (IntKind.u8.wrap (((x12 : Nat) : Int) / 2 ^ 48)))) (i := ((((8 : Int) * g8.1) + (7 : Int))).toNat) (v := (IntKind.u8.wrap (((x12 : Nat) : Int) / 2 ^ 56))) rfl rfl rfl rfl size5 rfl rfl rfl q72 ?_)
   refine AO.nil ?_
   refine inlend (ob' := [.fix 108 [.own 1, .d (di .i64 (0 : Int)), .d (di .i8 b0)], .grow 5 1 (List.map keS6 b1), .frame pv [(0, .ptr 0 0), (1, .own 1)], .fix 5 (List.map (fun z => SV.d (keS6 z)) ((((((((g8.2.set ((((8 : Int) * g8.1) + (0 : Int))).toNat (IntKind.u8.wrap ((x12 : Nat) : Int))).set ((((8 : Int) * g8.1) + (1 : Int))).toNat (IntKind.u8.wrap (((x12 : Nat) : Int) / 2 ^ 8))).set ((((8 : Int) * g8.1) + (2 : Int))).toNat (IntKind.u8.wrap (((x12 : Nat) : Int) / 2 ^ 16))).set ((((8 : Int) * g8.1) + (3 : Int))).toNat (IntKind.u8.wrap (((x12 : Nat) : Int) / 2 ^ 24))).set ((((8 : Int) * g8.1) + (4 : Int))).toNat (IntKind.u8.wrap (((x12 : Nat) : Int) / 2 ^ 32))).set ((((8 : Int) * g8.1) + (5 : Int))).toNat (IntKind.u8.wrap (((x12 : Nat) : Int) / 2 ^ 40))).set ((((8 : Int) * g8.1) + (6 : Int))).toNat (IntKind.u8.wrap (((x12 : Nat) : Int) / 2 ^ 48))).set ((((8 : Int) * g8.1) + (7 : Int))).toNat (IntKind.u8.wrap (((x12 : Nat) : Int) / 2 ^ 56)))), .frame fr16 [(0, .ifc 61 (.ptr 0 0)), (1, .d (.ifc (bif a0 then 99 else 100) (.ag []))), (7, .sl 3 1 0 ((((8 : Int) * ((a1.length : Nat) : Int))).toNat) ((((8 : Int) * ((a1.length : Nat) : Int))).toNat)), (16, .d (eS1 a1)), (17, .d (di .i64 ((a1.length : Nat) : Int))), (18, .d (di .i64 g8.1))], .dead, .fix 100 []]) (e' := []) (r := .tu []) rfl rfl rfl ?_
   change AO _ _ _ _ _
   refine AO.objs (obs' := [.fix 108 [.own 1, .d (di .i64 (0 : Int)), .d (di .i8 b0)], .grow 5 1 (List.map keS6 b1), .frame pv [(0, .ptr 0 0), (1, .own 1)], .fix 5 (List.map (fun z => SV.d (keS6 z)) ((((((((g8.2.set ((((8 : Int) * g8.1) + (0 : Int))).toNat (IntKind.u8.wrap ((x12 : Nat) : Int))).set ((((8 : Int) * g8.1) + (1 : Int))).toNat (IntKind.u8.wrap (((x12 : Nat) : Int) / 2 ^ 8))).set ((((8 : Int) * g8.1) + (2 : Int))).toNat (IntKind.u8.wrap (((x12 : Nat) : Int) / 2 ^ 16))).set ((((8 : Int) * g8.1) + (3 : Int))).toNat (IntKind.u8.wrap (((x12 : Nat) : Int) / 2 ^ 24))).set ((((8 : Int) * g8.1) + (4 : Int))).toNat (IntKind.u8.wrap (((x12 : Nat) : Int) / 2 ^ 32))).set ((((8 : Int) * g8.1) + (5 : Int))).toNat (IntKind.u8.wrap (((x12 : Nat) : Int) / 2 ^ 40))).set ((((8 : Int) * g8.1) + (6 : Int))).toNat (IntKind.u8.wrap (((x12 : Nat) : Int) / 2 ^ 48))).set ((((8 : Int) * g8.1) + (7 : Int))).toNat (IntKind.u8.wrap (((x12 : Nat) : Int) / 2 ^ 56)))), .frame fr16 [(0, .ifc 61 (.ptr 0 0)), (1, .d (.ifc (bif a0 then 99 else 100) (.ag []))), (7, .sl 3 1 0 ((((8 : Int) * ((a1.length : Nat) : Int))).toNat) ((((8 : Int) * ((a1.length : Nat) : Int))).toNat)), (16, .d (eS1 a1)), (17, .d (di .i64 ((a1.length : Nat) : Int))), (18, .d (di .i64 g8.1))], .dead, .fix 100 []]) rfl ?_
   refine AO.nil ?_
   refine inlend (ob' := [.fix 108 [.own 1, .d (di .i64 (0 : Int)), .d (di .i8 b0)], .grow 5 1 (List.map keS6 b1), .frame pv [(0, .ptr 0 0), (1, .own 1)], .fix 5 (List.map (fun z => SV.d (keS6 z)) ((((((((g8.2.set ((((8 : Int) * g8.1) + (0 : Int))).toNat (IntKind.u8.wrap ((x12 : Nat) : Int))).set ((((8 : Int) * g8.1) + (1 : Int))).toNat (IntKind.u8.wrap (((x12 : Nat) : Int) / 2 ^ 8))).set ((((8 : Int) * g8.1) + (2 : Int))).toNat (IntKind.u8.wrap (((x12 : Nat) : Int) / 2 ^ 16))).set ((((8 : Int) * g8.1) + (3 : Int))).toNat (IntKind.u8.wrap (((x12 : Nat) : Int) / 2 ^ 24))).set ((((8 : Int) * g8.1) + (4 : Int))).toNat (IntKind.u8.wrap (((x12 : Nat) : Int) / 2 ^ 32))).set ((((8 : Int) * g8.1) + (5 : Int))).toNat (IntKind.u8.wrap (((x12 : Nat) : Int) / 2 ^ 40))).set ((((8 : Int) * g8.1) + (6 : Int))).toNat (IntKind.u8.wrap (((x12 : Nat) : Int) / 2 ^ 48))).set ((((8 : Int) * g8.1) + (7 : Int))).toNat (IntKind.u8.wrap (((x12 : Nat) : Int) / 2 ^ 56)))), .dead, .dead, .fix 100 []]) (e' := [(0, .ifc 61 (.ptr 0 0)), (1, .d (.ifc (bif a0 then 99 else 100) (.ag []))), (7, .sl 3 1 0 ((((8 : Int) * ((a1.length : Nat) : Int))).toNat) ((((8 : Int) * ((a1.length : Nat) : Int))).toNat)), (16, .d (eS1 a1)), (17, .d (di .i64 ((a1.length : Nat) : Int))), (18, .d (di .i64 g8.1))]) (r := .tu []) rfl rfl rfl ?_
   change AO _ _ _ _ _
   refine AO.objs (obs' := [.fix 108 [.own 1, .d (di .i64 (0 : Int)), .d (di .i8 b0)], .grow 5 1 (List.map keS6 b1), .frame pv [(0, .ptr 0 0), (1, .own 1)], .fix 5 (List.map (fun z => SV.d (keS6 z)) ((((((((g8.2.set ((((8 : Int) * g8.1) + (0 : Int))).toNat (IntKind.u8.wrap ((x12 : Nat) : Int))).set ((((8 : Int) * g8.1) + (1 : Int))).toNat (IntKind.u8.wrap (((x12 : Nat) : Int) / 2 ^ 8))).set ((((8 : Int) * g8.1) + (2 : Int))).toNat (IntKind.u8.wrap (((x12 : Nat) : Int) / 2 ^ 16))).set ((((8 : Int) * g8.1) + (3 : Int))).toNat (IntKind.u8.wrap (((x12 : Nat) : Int) / 2 ^ 24))).set ((((8 : Int) * g8.1) + (4 : Int))).toNat (IntKind.u8.wrap (((x12 : Nat) : Int) / 2 ^ 32))).set ((((8 : Int) * g8.1) + (5 : Int))).toNat (IntKind.u8.wrap (((x12 : Nat) : Int) / 2 ^ 40))).set ((((8 : Int) * g8.1) + (6 : Int))).toNat (IntKind.u8.wrap (((x12 : Nat) : Int) / 2 ^ 48))).set ((((8 : Int) * g8.1) + (7 : Int))).toNat (IntKind.u8.wrap (((x12 : Nat) : Int) / 2 ^ 56)))), .dead, .dead, .fix 100 []]) rfl ?_
   refine AO.nil (?_ : AC _ _ _ _)
   refine AC.region ?_
   obtain ⟨q73, h1⟩ := need_elim h1
   refine AO.op rfl (AOp.iadd rfl rfl lb rfl rfl rfl q73.1 q73.2 ?_)
   refine AO.mv 1 rfl ?_
   refine AO.nil ?_
   exact ⟨((g8.1 + (1 : Int)), ((((((((g8.2.set ((((8 : Int) * g8.1) + (0 : Int))).toNat (IntKind.u8.wrap ((x12 : Nat) : Int))).set ((((8 : Int) * g8.1) + (1 : Int))).toNat (IntKind.u8.wrap (((x12 : Nat) : Int) / 2 ^ 8))).set ((((8 : Int) * g8.1) + (2 : Int))).toNat (IntKind.u8.wrap (((x12 : Nat) : Int) / 2 ^ 16))).set ((((8 : Int) * g8.1) + (3 : Int))).toNat (IntKind.u8.wrap (((x12 : Nat) : Int) / 2 ^ 24))).set ((((8 : Int) * g8.1) + (4 : Int))).toNat (IntKind.u8.wrap (((x12 : Nat) : Int) / 2 ^ 32))).set ((((8 : Int) * g8.1) + (5 : Int))).toNat (IntKind.u8.wrap (((x12 : Nat) : Int) / 2 ^ 40))).set ((((8 : Int) * g8.1) + (6 : Int))).toNat (IntKind.u8.wrap (((x12 : Nat) : Int) / 2 ^ 48))).set ((((8 : Int) * g8.1) + (7 : Int))).toNat (IntKind.u8.wrap (((x12 : Nat) : Int) / 2 ^ 56)))), _, rfl, (LeL.refl _), rfl, (okU_mk rfl (okU_cons rfl (okU_cons rfl (okU_cons rfl (okU_cons (okU_fixl (fun _ => rfl)) okU_nil))))), h1⟩
  replace h1 := cF h1 q11
  refine AC.exit ?_
  obtain rfl := Option.some.inj h1
  exact ⟨g8.2, _, rfl, (LeL.refl _), rfl, (okU_mk rfl (okU_cons rfl (okU_cons rfl (okU_cons rfl (okU_cons (okU_fixl (fun _ => rfl)) okU_nil))))), aftL h0⟩
 intro g5 h0
 unfold p_WriteFloatArray_k1 at h0
 change AC _ _ _ _
 refine AC.sm 2 rfl ?_
 refine AO.subF 2 [0] rfl rfl ?_
 obtain ⟨q6, h0⟩ := need_elim h0
 obtain ⟨q7, h0⟩ := need_elim h0
 refine AO.op rfl (AOp.callW' (p := 0) (q := 1) (m := b1.length) (n := g5.length) (bs := (List.map keS6 b1)) (cs := (List.map keS6 g5)) (EntersS.meth (by kernel_rfl) rfl rfl rfl meth61_Write rfl rfl) bufW rfl lb rfl rfl (src_arr (f := keS6) rfl q6) rfl (isV_map (fun _ => rfl) _) (isV_map (fun _ => rfl) _) (one_map (fun _ => rfl) _) (one_map (fun _ => rfl) _) (len1 _ _) (len1 _ _) q7 (allNo (.cons rfl (.cons rfl (.cons rfl (.cons (noO2_fixl fun _ => rfl) .nil))))) rfl (cat1 _ _ _) ?_)
 refine AO.mn 5 rfl ?_
 refine AC.smn 2 rfl ?_
 obtain rfl := Option.some.inj h0
 refine AC.ret ?_
 change RetH _ _ _ _ _ _ .ret _
 refine reth (post := [.fix 108 [.own 1, .d (di .i64 (0 : Int)), .d (di .i8 (0 : Int))], .grow 5 1 (List.map keS6 (b1 ++ g5))]) rfl rfl rfl rfl rfl ?_
 exact ⟨rfl, rfl⟩

def RH_WriteFlatCoords0 : (Int × (List Int)) → SV → List Ob → Prop
 | z => fun r post => r = .d (.v (.nilIface)) ∧ post = [.fix 108 [.own 1, .d (di .i64 (0 : Int)), .d (di .i8 z.1)], .grow 5 1 (List.map keS6 z.2)]
set_option maxRecDepth 100000 in
set_option maxHeartbeats 4000000 in
theorem wh_WriteFlatCoords0 (F : Nat) (a0 : Bool) (a1 : (List Nat)) (b0 : Int) (b1 : (List Int)) (r0 : (Int × (List Int))) (h0 : p_WriteFlatCoords0 F a0 a1 b0 b1 = some r0) : FnH Tryz.prog 61 [.ifc 61 (.ptr 0 0), .d (.ifc (bif a0 then 99 else 100) (.ag [])), .d (eS1 a1)] [.fix 108 [.own 1, .d (di .i64 (0 : Int)), .d (di .i8 b0)], .grow 5 1 (List.map keS6 b1)] [0] (RH_WriteFlatCoords0 r0) := by
 refine FnH.of (by kernel_rfl) Tryz.func61 rfl Tryz.ntmps61 rfl (leb rfl) fun W ok may pv => ?_
 unfold p_WriteFlatCoords0 at h0
 refine AC.smn 1 rfl ?_
 refine AC.sm 3 rfl ?_
 refine AO.subF 2 [0] rfl rfl ?_
 obtain ⟨y1, q2, h0⟩ := bind_elim h0
 refine AO.op rfl (AOp.callH (hs := [0, 1]) (unp := [1]) (EntersS.call (by kernel_rfl) rfl rfl) (wh_WriteFloatArray F a0 a1 b0 b1 _ q2) lb (.cons (SVLe.refl _) (.cons (SVLe.refl _) (.cons (SVLe.refl _) .nil))) rfl rfl rfl (.cons rfl (.cons rfl .nil)) (.cons ⟨rfl, rfl⟩ (.cons ⟨rfl, rfl⟩ .nil)) rfl (.cons (.inl rfl) (.cons (.inl rfl) (.cons (.inr rfl) .nil))) rfl ?_)
 rintro _ _ ⟨rfl, rfl⟩
 refine ⟨.d (.v (.nilIface)), [.fix 108 [.own 1, .d (di .i64 (0 : Int)), .d (di .i8 y1.1)], .grow 5 1 (List.map keS6 y1.2)], rfl, (.cons rfl (.cons rfl .nil)), ?_⟩
 refine AO.objs (obs' := [.fix 108 [.own 1, .d (di .i64 (0 : Int)), .d (di .i8 y1.1)], .grow 5 1 (List.map keS6 y1.2), .frame pv [(0, .ptr 0 0)]]) rfl ?_
 refine AO.mn 1 rfl ?_
 obtain rfl := Option.some.inj h0
 refine AC.ret ?_
 change RetH _ _ _ _ _ _ .ret _
 refine reth (post := [.fix 108 [.own 1, .d (di .i64 (0 : Int)), .d (di .i8 y1.1)], .grow 5 1 (List.map keS6 y1.2)]) rfl rfl rfl rfl rfl ?_
 exact ⟨rfl, rfl⟩

def RH_WriteEmptyPointAsNaN : (Int × (List Int)) → SV → List Ob → Prop
 | z => fun r post => r = .d (.v (.nilIface)) ∧ post = [.fix 108 [.own 1, .d (di .i64 (0 : Int)), .d (di .i8 z.1)], .grow 5 1 (List.map keS6 z.2)]
set_option maxRecDepth 100000 in
set_option maxHeartbeats 4000000 in
theorem wh_WriteEmptyPointAsNaN (F : Nat) (a0 : Bool) (a1 : Int) (b0 : Int) (b1 : (List Int)) (r0 : (Int × (List Int))) (h0 : p_WriteEmptyPointAsNaN F a0 a1 b0 b1 = some r0) : FnH Tryz.prog 59 [.ifc 61 (.ptr 0 0), .d (.ifc (bif a0 then 99 else 100) (.ag [])), .d (di .i64 a1)] [.fix 108 [.own 1, .d (di .i64 (0 : Int)), .d (di .i8 b0)], .grow 5 1 (List.map keS6 b1)] [0] (RH_WriteEmptyPointAsNaN r0) := by
 refine FnH.of (by kernel_rfl) Tryz.func59 rfl Tryz.ntmps59 rfl (leb rfl) fun W ok may pv => ?_
 unfold p_WriteEmptyPointAsNaN at h0
 refine AC.smn 1 rfl ?_
 refine AC.sm 1 rfl ?_
 obtain ⟨q1, h0⟩ := need_elim h0
 refine AO.op rfl (AOp.makeL (f := fun z => SV.d (keS1 z)) (z0 := (0 : Nat)) rfl rfl lb rfl rfl el22 info60 rfl rfl (by decide) q1.1 q1.2 rfl ?_)
 refine AO.mn 1 rfl ?_
 refine AC.seq ?_
 refine AC.smn 2 rfl ?_
 obtain ⟨o2, l3, h0⟩ := bind_elim h0
 refine AC.joinE (V := (List Nat)) [0, 1, 7] [] 4 (fun g4 => []) (fun g4 => [.fix 108 [.own 1, .d (di .i64 (0 : Int)), .d (di .i8 b0)], .grow 5 1 (List.map keS6 b1), .frame pv [(0, .ptr 0 0), (1, .own 1)], .fix 60 (List.map (fun z => SV.d (keS1 z)) g4)]) (fun g4 => (p_WriteEmptyPointAsNaN_k1 a0 a1 b0 b1 F) g4 = some r0) rfl ?_ ?_
 ·refine AC.block ?_
  refine AC.loopP (V := (Int × (List Nat))) (p_WriteEmptyPointAsNaN_l2 a1) o2 [0, 1, 7, 11] [12] 4 (fun g9 => [(12, .d (di .i64 g9.1))]) (fun g9 => [.fix 108 [.own 1, .d (di .i64 (0 : Int)), .d (di .i8 b0)], .grow 5 1 (List.map keS6 b1), .frame pv [(0, .ptr 0 0), (1, .own 1)], .fix 60 (List.map (fun z => SV.d (keS1 z)) g9.2)]) F ((0 : Int), (List.replicate (a1).toNat (0 : Nat))) l3 rfl rfl (LeL.refl _) rfl (okU_mk rfl (okU_cons rfl (okU_cons rfl (okU_cons rfl (okU_cons (okU_fixl (fun _ => rfl)) okU_nil))))) ?_
  intro n11 g9 h1
  unfold p_WriteEmptyPointAsNaN_l2 at h1
  refine AC.sr ?_
  refine AO.op rfl (AOp.ilss rfl rfl lb rfl rfl ?_)
  refine AO.nS ?_
  refine AC.seq ?_
  refine AC.cond rfl (fun q12 => ?_) (fun q12 => ?_)
  ·replace h1 := cT h1 q12
   refine AC.skip ?_
   change AC _ _ _ _
   refine AC.seq ?_
   refine AC.block ?_
   refine AC.smn 2 rfl ?_
   refine AC.region ?_
   refine AO.mv 2 rfl ?_
   obtain ⟨y13, q14, h1⟩ := bind_elim h1
   refine AO.op rfl (AOp.callD rfl rfl lb rfl rfl (w_PointEmptyCoord  y13 q14) ?_)
   rintro _ rfl
   obtain ⟨q15, h1⟩ := need_elim h1
   refine AO.op rfl (AOp.indexSl rfl rfl lb rfl rfl el22 q15.1 q15.2 ?_)
   obtain ⟨q16, h1⟩ := need_elim h1
   refine AO.op rfl (AOp.storeL (f := fun z => SV.d (keS1 z)) (l := g9.2) (i := (g9.1).toNat) (v := y13) rfl rfl rfl rfl size60 rfl rfl rfl q16 ?_)
   refine AO.nil (?_ : AC _ _ _ _)
   refine AC.region ?_
   obtain ⟨q17, h1⟩ := need_elim h1
   refine AO.op rfl (AOp.iadd rfl rfl lb rfl rfl rfl q17.1 q17.2 ?_)
   refine AO.mv 1 rfl ?_
   refine AO.nil ?_
   exact ⟨((g9.1 + (1 : Int)), (g9.2.set (g9.1).toNat y13)), _, rfl, (LeL.refl _), rfl, (okU_mk rfl (okU_cons rfl (okU_cons rfl (okU_cons rfl (okU_cons (okU_fixl (fun _ => rfl)) okU_nil))))), h1⟩
  replace h1 := cF h1 q12
  refine AC.exit ?_
  obtain rfl := Option.some.inj h1
  exact ⟨g9.2, _, rfl, (LeL.refl _), rfl, (okU_mk rfl (okU_cons rfl (okU_cons rfl (okU_cons rfl (okU_cons (okU_fixl (fun _ => rfl)) okU_nil))))), aftL h0⟩
 intro g4 h0
 unfold p_WriteEmptyPointAsNaN_k1 at h0
 change AC _ _ _ _
 refine AC.sm 3 rfl ?_
 obtain ⟨q5, h0⟩ := need_elim h0
 refine AO.freezeF (ds := (List.map keS1 g4)) 22 3 rfl rfl rfl (by rw [List.map_map]; rfl) (lenq q5 (len1 _ _)) (Nat.le_refl _) ?_
 refine AO.subF 2 [0] rfl rfl ?_
 obtain ⟨y6, q7, h0⟩ := bind_elim h0
 refine AO.op rfl (AOp.callH (hs := [0, 1]) (unp := [1]) (EntersS.call (by kernel_rfl) rfl rfl) (wh_WriteFlatCoords0 F a0 g4 b0 b1 _ q7) lb (.cons (SVLe.refl _) (.cons (SVLe.refl _) (.cons (SVLe.refl _) .nil))) rfl rfl rfl (.cons rfl (.cons rfl .nil)) (.cons ⟨rfl, rfl⟩ (.cons ⟨rfl, rfl⟩ .nil)) rfl (.cons (.inl rfl) (.cons (.inl rfl) (.cons (.inr rfl) (.cons (.inr rfl) .nil)))) rfl ?_)
 rintro _ _ ⟨rfl, rfl⟩
 refine ⟨.d (.v (.nilIface)), [.fix 108 [.own 1, .d (di .i64 (0 : Int)), .d (di .i8 y6.1)], .grow 5 1 (List.map keS6 y6.2)], rfl, (.cons rfl (.cons rfl .nil)), ?_⟩
 refine AO.objs (obs' := [.fix 108 [.own 1, .d (di .i64 (0 : Int)), .d (di .i8 y6.1)], .grow 5 1 (List.map keS6 y6.2), .frame pv [(0, .ptr 0 0)], .dead]) rfl ?_
 refine AO.mn 1 rfl ?_
 obtain rfl := Option.some.inj h0
 refine AC.ret ?_
 change RetH _ _ _ _ _ _ .ret _
 refine reth (post := [.fix 108 [.own 1, .d (di .i64 (0 : Int)), .d (di .i8 y6.1)], .grow 5 1 (List.map keS6 y6.2)]) rfl rfl rfl rfl rfl ?_
 exact ⟨rfl, rfl⟩

set_option maxRecDepth 100000 in
set_option maxHeartbeats 4000000 in
theorem w_geom0_FlatCoords (a0 : TGeom_geom0) (r0 : (List Nat)) (h0 : p_geom0_FlatCoords a0 = some r0) : FnD Tryz.prog 62 [.pt (c_TGeom_geom0 a0)] (fun r => r = eS1 r0) := by
 refine FnD.of (by kernel_rfl) Tryz.func62 rfl Tryz.ntmps62 rfl (leb rfl) fun W ok => ?_
 unfold p_geom0_FlatCoords at h0
 refine AC.smn 1 rfl ?_
 refine AC.sm 1 rfl ?_
 refine AO.op rfl (AOp.nilCheck rfl rfl lb rfl rfl ?_)
 refine AO.op rfl (AOp.fieldAddrPt rfl rfl lb rfl fo122_2 ?_)
 refine AO.op rfl (AOp.loadEp rfl rfl lb rfl agg22 rfl ?_)
 refine AO.mn 1 rfl ?_
 refine AC.ret ?_
 change RetQ _ _ _ .ret _
 obtain rfl := Option.some.inj h0
 refine retq rfl rfl

def RH_Write_Point : (Int × (List Int)) → SV → List Ob → Prop
 | z => fun r post => r = .d (.v (.nilIface)) ∧ post = [.fix 108 [.own 1, .d (di .i64 (0 : Int)), .d (di .i8 z.1)], .grow 5 1 (List.map keS6 z.2)]
set_option maxRecDepth 100000 in
set_option maxHeartbeats 4000000 in
theorem wh_Write_Point (F : Nat) (a0 : Bool) (a1 : TGeom_Point) (b0 : Int) (b1 : (List Int)) (r0 : (Int × (List Int))) (h0 : p_Write_Point F a0 a1 b0 b1 = some r0) : FnH Tryz.prog 27 [.ifc 61 (.ptr 0 0), .d (.ifc (bif a0 then 99 else 100) (.ag [])), .ifc 67 (.d (.pt (c_TGeom_Point a1)))] [.fix 108 [.own 1, .d (di .i64 (0 : Int)), .d (di .i8 b0)], .grow 5 1 (List.map keS6 b1)] [0] (RH_Write_Point r0) := by
 refine FnH.of (by kernel_rfl) Tryz.func27 rfl Tryz.ntmps27 rfl (leb rfl) fun W ok may pv => ?_
 unfold p_Write_Point at h0
 refine AC.smn 1 rfl ?_
 refine AC.smn 1 rfl ?_
 refine AC.joinP (V := Int) [0, 1, 2] [7] 3 (fun g1 => [(7, .d (di .u8 g1))]) (fun g1 => [.fix 108 [.own 1, .d (di .i64 (0 : Int)), .d (di .i8 b0)], .grow 5 1 (List.map keS6 b1), .frame pv [(0, .ptr 0 0), (1, .own 1)]]) (fun g1 => (p_Write_Point_k1 a0 a1 b0 b1 F) g1 = some r0) rfl ?_ ?_
 ·refine AC.smn 1 rfl ?_
  refine AC.block ?_
  refine AC.sr ?_
  refine AO.op rfl (AOp.loadG0 rfl rfl lb agg99 size99 ?_)
  refine AO.op rfl (AOp.makeIfc rfl rfl lb rfl conc99 ?_)
  refine AO.op rfl (AOp.ifcEqT rfl rfl lb rfl rfl rfl rfl rfl cmpS99 imeth51 ?_)
  refine AO.mn 1 rfl ?_
  refine AC.cond rfl (fun q38 => ?_) (fun q38 => ?_)
  ·replace h0 := cT h0 q38
   refine AC.region ?_
   refine AO.mv 1 rfl ?_
   refine AO.nil ?_
   exact ⟨(0 : Int), _, rfl, (LeL.refl _), rfl, rfl, h0⟩
  replace h0 := cF h0 q38
  refine AC.sr ?_
  refine AO.op rfl (AOp.loadG0 rfl rfl lb agg100 size100 ?_)
  refine AO.op rfl (AOp.makeIfc rfl rfl lb rfl conc100 ?_)
  refine AO.op rfl (AOp.ifcEqF rfl rfl lb rfl rfl rfl rfl rfl cmpS100 imeth51 ?_)
  refine AO.mn 1 rfl ?_
  refine AC.cond rfl (fun q39 => ?_) (fun q39 => ?_)
  ·replace h0 := cT h0 q39
   refine AC.region ?_
   refine AO.mv 1 rfl ?_
   refine AO.nil ?_
   exact ⟨(1 : Int), _, rfl, (LeL.refl _), rfl, rfl, h0⟩
  replace h0 := cF h0 q39
  cases h0
 intro g1 h0
 unfold p_Write_Point_k1 at h0
 refine AC.seq ?_
 refine AC.sm 2 rfl ?_
 refine AO.subF 2 [0] rfl rfl ?_
 obtain ⟨y2, q3, h0⟩ := bind_elim h0
 refine AO.op rfl (AOp.callH (hs := [0, 1]) (unp := [1]) (EntersS.call (by kernel_rfl) rfl rfl) (wh_WriteByte g1 b0 b1 _ q3) lb (.cons (SVLe.refl _) (.cons (SVLe.refl _) .nil)) rfl rfl rfl (.cons rfl (.cons rfl .nil)) (.cons ⟨rfl, rfl⟩ (.cons ⟨rfl, rfl⟩ .nil)) rfl (.cons (.inl rfl) (.cons (.inl rfl) (.cons (.inr rfl) .nil))) rfl ?_)
 rintro _ _ ⟨rfl, rfl⟩
 refine ⟨.d (.v (.nilIface)), [.fix 108 [.own 1, .d (di .i64 (0 : Int)), .d (di .i8 y2.1)], .grow 5 1 (List.map keS6 y2.2)], rfl, (.cons rfl (.cons rfl .nil)), ?_⟩
 refine AO.objs (obs' := [.fix 108 [.own 1, .d (di .i64 (0 : Int)), .d (di .i8 y2.1)], .grow 5 1 (List.map keS6 y2.2), .frame pv [(0, .ptr 0 0)]]) rfl ?_
 refine AO.mn 1 rfl ?_
 refine AC.sm 1 rfl ?_
 refine AO.op rfl (AOp.nilNeq rfl rfl lb rfl imeth44 ?_)
 refine AO.nS ?_
 refine AC.condF rfl rfl ?_
 refine AC.skip ?_
 change AC _ _ _ _
 refine AC.smn 1 rfl ?_
 refine AC.seq ?_
 refine AC.smn 1 rfl ?_
 refine AC.block ?_
 refine AC.sr ?_
 refine AO.op rfl (AOp.assertYes rfl rfl lb rfl rfl pass67_67 rfl ?_)
 refine AO.mn 2 rfl ?_
 refine AC.condT rfl rfl ?_
 refine AC.region ?_
 refine AO.mv 1 rfl ?_
 refine AO.nil (?_ : AC _ _ _ _)
 refine AC.joinP (V := Int) [0, 1, 2] [9] 3 (fun g5 => [(9, .d (di .u32 g5))]) (fun g5 => [.fix 108 [.own 1, .d (di .i64 (0 : Int)), .d (di .i8 y2.1)], .grow 5 1 (List.map keS6 y2.2), .frame pv [(0, .ptr 0 0)]]) (fun g5 => (p_Write_Point_k2 a0 a1 F y2) g5 = some r0) rfl ?_ ?_
 ·refine AC.sm 1 rfl ?_
  obtain ⟨y31, q32, h0⟩ := bind_elim h0
  refine AO.op rfl (AOp.callE ((EntersS.meth (by kernel_rfl) rfl rfl rfl meth67_Layout rfl rfl).le (.cons (SVLe.epPt (n := 4) rfl) .nil)) rfl lb rfl rfl (w_geom0_Layout a1.geom0 y31 q32) ?_)
  rintro _ rfl
  refine AO.nS ?_
  refine AC.block ?_
  refine AC.sr ?_
  refine AO.op rfl (AOp.ieql rfl rfl lb rfl rfl ?_)
  refine AO.mn 1 rfl ?_
  refine AC.cond rfl (fun q33 => ?_) (fun q33 => ?_)
  ·replace h0 := cT h0 q33
   refine AC.sm 1 rfl ?_
   refine AO.op rfl (AOp.assertNo rfl rfl lb rfl rfl pass67_93 zero93 ?_)
   refine AO.mn 5 rfl ?_
   refine AC.sm 1 rfl ?_
   refine AO.op rfl (AOp.bnot rfl rfl lb rfl ?_)
   refine AO.mv 1 rfl ?_
   refine AO.guardN rfl rfl rfl lb rfl rfl ?_
   refine AO.guardN rfl rfl rfl lb rfl rfl ?_
   refine AO.guardN rfl rfl rfl lb rfl rfl ?_
   refine AO.op rfl (AOp.pick rfl rfl lb rfl rfl rfl ?_)
   refine AO.nS ?_
   cases h0
  replace h0 := cF h0 q33
  refine AC.sr ?_
  refine AO.op rfl (AOp.ieql rfl rfl lb rfl rfl ?_)
  refine AO.mn 1 rfl ?_
  refine AC.cond rfl (fun q34 => ?_) (fun q34 => ?_)
  ·replace h0 := cT h0 q34
   refine AC.skip ?_
   exact ⟨(1 : Int), _, rfl, (LeL.refl _), rfl, rfl, h0⟩
  replace h0 := cF h0 q34
  refine AC.sr ?_
  refine AO.op rfl (AOp.ieql rfl rfl lb rfl rfl ?_)
  refine AO.mn 1 rfl ?_
  refine AC.cond rfl (fun q35 => ?_) (fun q35 => ?_)
  ·replace h0 := cT h0 q35
   refine AC.region ?_
   refine AO.mv 1 rfl ?_
   refine AO.op rfl (AOp.ibits (by simp) rfl rfl lb rfl rfl rfl ?_)
   refine AO.mv 1 rfl ?_
   refine AO.nil ?_
   exact ⟨(bits .or .u32 (1 : Int) (2147483648 : Int)), _, rfl, (LeL.refl _), rfl, rfl, h0⟩
  replace h0 := cF h0 q35
  refine AC.sr ?_
  refine AO.op rfl (AOp.ieql rfl rfl lb rfl rfl ?_)
  refine AO.mn 1 rfl ?_
  refine AC.cond rfl (fun q36 => ?_) (fun q36 => ?_)
  ·replace h0 := cT h0 q36
   refine AC.region ?_
   refine AO.mv 1 rfl ?_
   refine AO.op rfl (AOp.ibits (by simp) rfl rfl lb rfl rfl rfl ?_)
   refine AO.mv 1 rfl ?_
   refine AO.nil ?_
   exact ⟨(bits .or .u32 (1 : Int) (1073741824 : Int)), _, rfl, (LeL.refl _), rfl, rfl, h0⟩
  replace h0 := cF h0 q36
  refine AC.sr ?_
  refine AO.op rfl (AOp.ieql rfl rfl lb rfl rfl ?_)
  refine AO.mn 1 rfl ?_
  refine AC.cond rfl (fun q37 => ?_) (fun q37 => ?_)
  ·replace h0 := cT h0 q37
   refine AC.region ?_
   refine AO.mv 1 rfl ?_
   refine AO.op rfl (AOp.ibits (by simp) rfl rfl lb rfl rfl rfl ?_)
   refine AO.mv 1 rfl ?_
   refine AO.nil ?_
   exact ⟨(bits .or .u32 (1 : Int) (3221225472 : Int)), _, rfl, (LeL.refl _), rfl, rfl, h0⟩
  replace h0 := cF h0 q37
  cases h0
 intro g5 h0
 unfold p_Write_Point_k2 at h0
 refine AC.sm 1 rfl ?_
 obtain ⟨y6, q7, h0⟩ := bind_elim h0
 refine AO.op rfl (AOp.callE ((EntersS.meth (by kernel_rfl) rfl rfl rfl meth67_SRID rfl rfl).le (.cons (SVLe.epPt (n := 4) rfl) .nil)) rfl lb rfl rfl (w_geom0_SRID a1.geom0 y6 q7) ?_)
 rintro _ rfl
 refine AO.mn 1 rfl ?_
 refine AC.joinP (V := Int) [0, 1, 2, 12] [9] 3 (fun g8 => [(9, .d (di .u32 g8))]) (fun g8 => [.fix 108 [.own 1, .d (di .i64 (0 : Int)), .d (di .i8 y2.1)], .grow 5 1 (List.map keS6 y2.2), .frame pv [(0, .ptr 0 0)]]) (fun g8 => (p_Write_Point_k3 a0 a1 F y2 y6) g8 = some r0) rfl ?_ ?_
 ·refine AC.sm 1 rfl ?_
  refine AO.op rfl (AOp.ineq rfl rfl lb rfl rfl ?_)
  refine AO.nS ?_
  refine AC.cond rfl (fun q30 => ?_) (fun q30 => ?_)
  ·replace h0 := cT h0 q30
   refine AC.region ?_
   refine AO.mv 1 rfl ?_
   refine AO.op rfl (AOp.ibits (by simp) rfl rfl lb rfl rfl rfl ?_)
   refine AO.mv 1 rfl ?_
   refine AO.nil ?_
   exact ⟨(bits .or .u32 g5 (536870912 : Int)), _, rfl, (LeL.refl _), rfl, rfl, h0⟩
  replace h0 := cF h0 q30
  refine AC.skip ?_
  exact ⟨g5, _, rfl, (LeL.refl _), rfl, rfl, h0⟩
 intro g8 h0
 unfold p_Write_Point_k3 at h0
 refine AC.seq ?_
 refine AC.sm 3 rfl ?_
 obtain ⟨y9, q10, h0⟩ := bind_elim h0
 refine AO.op rfl (AOp.callH (hs := [0, 1]) (unp := [1]) (EntersS.call (by kernel_rfl) rfl rfl) (wh_WriteUInt32 a0 g8 y2.1 y2.2 _ q10) lb (.cons (SVLe.refl _) (.cons (SVLe.refl _) (.cons (SVLe.refl _) .nil))) rfl rfl rfl (.cons rfl (.cons rfl .nil)) (.cons ⟨rfl, rfl⟩ (.cons ⟨rfl, rfl⟩ .nil)) rfl (.cons (.inl rfl) (.cons (.inl rfl) (.cons (.inr rfl) .nil))) rfl ?_)
 rintro _ _ ⟨rfl, rfl⟩
 refine ⟨.d (.v (.nilIface)), [.fix 108 [.own 1, .d (di .i64 (0 : Int)), .d (di .i8 y9.1)], .grow 5 1 (List.map keS6 y9.2)], rfl, (.cons rfl (.cons rfl .nil)), ?_⟩
 refine AO.objs (obs' := [.fix 108 [.own 1, .d (di .i64 (0 : Int)), .d (di .i8 y9.1)], .grow 5 1 (List.map keS6 y9.2), .frame pv [(0, .ptr 0 0)]]) rfl ?_
 refine AO.mn 1 rfl ?_
 refine AC.sm 1 rfl ?_
 refine AO.op rfl (AOp.nilNeq rfl rfl lb rfl imeth44 ?_)
 refine AO.nS ?_
 refine AC.condF rfl rfl ?_
 refine AC.skip ?_
 change AC _ _ _ _
 refine AC.joinP (V := (Int × (List Int))) [0, 1, 2] [] 3 (fun g12 => []) (fun g12 => [.fix 108 [.own 1, .d (di .i64 (0 : Int)), .d (di .i8 g12.1)], .grow 5 1 (List.map keS6 g12.2), .frame pv [(0, .ptr 0 0)]]) (fun g12 => (p_Write_Point_k4 a0 a1 F) g12 = some r0) rfl ?_ ?_
 ·refine AC.sm 1 rfl ?_
  refine AO.op rfl (AOp.ibits (by simp) rfl rfl lb rfl rfl rfl ?_)
  refine AO.op rfl (AOp.ineq rfl rfl lb rfl rfl ?_)
  refine AO.nS ?_
  refine AC.cond rfl (fun q26 => ?_) (fun q26 => ?_)
  ·replace h0 := cT h0 q26
   refine AC.sm 3 rfl ?_
   refine AO.op rfl (AOp.i2i rfl rfl lb rfl Tryz.underlying3 Tryz.underlying36 rfl ?_)
   obtain ⟨y27, q28, h0⟩ := bind_elim h0
   refine AO.op rfl (AOp.callH (hs := [0, 1]) (unp := [1]) (EntersS.call (by kernel_rfl) rfl rfl) (wh_WriteUInt32 a0 (IntKind.u32.wrap y6) y9.1 y9.2 _ q28) lb (.cons (SVLe.refl _) (.cons (SVLe.refl _) (.cons (SVLe.refl _) .nil))) rfl rfl rfl (.cons rfl (.cons rfl .nil)) (.cons ⟨rfl, rfl⟩ (.cons ⟨rfl, rfl⟩ .nil)) rfl (.cons (.inl rfl) (.cons (.inl rfl) (.cons (.inr rfl) .nil))) rfl ?_)
   rintro _ _ ⟨rfl, rfl⟩
   refine ⟨.d (.v (.nilIface)), [.fix 108 [.own 1, .d (di .i64 (0 : Int)), .d (di .i8 y27.1)], .grow 5 1 (List.map keS6 y27.2)], rfl, (.cons rfl (.cons rfl .nil)), ?_⟩
   refine AO.objs (obs' := [.fix 108 [.own 1, .d (di .i64 (0 : Int)), .d (di .i8 y27.1)], .grow 5 1 (List.map keS6 y27.2), .frame pv [(0, .ptr 0 0)]]) rfl ?_
   refine AO.mn 1 rfl ?_
   refine AC.sm 1 rfl ?_
   refine AO.op rfl (AOp.nilNeq rfl rfl lb rfl imeth44 ?_)
   refine AO.nS ?_
   refine AC.condF rfl rfl ?_
   refine AC.skip ?_
   exact ⟨(y27.1, y27.2), _, rfl, (LeL.refl _), rfl, rfl, h0⟩
  replace h0 := cF h0 q26
  refine AC.skip ?_
  exact ⟨(y9.1, y9.2), _, rfl, (LeL.refl _), rfl, rfl, h0⟩
 intro g12 h0
 unfold p_Write_Point_k4 at h0
 refine AC.smn 1 rfl ?_
 refine AC.block ?_
 refine AC.sr ?_
 refine AO.op rfl (AOp.assertYes rfl rfl lb rfl rfl pass67_67 rfl ?_)
 refine AO.mn 2 rfl ?_
 refine AC.condT rfl rfl ?_
 refine AC.smn 1 rfl ?_
 refine AC.seq ?_
 refine AC.sm 1 rfl ?_
 refine AO.op rfl (AOp.nilCheck rfl rfl lb rfl rfl ?_)
 refine AO.op rfl (AOp.fieldAddrPt rfl rfl lb rfl fo124_0 ?_)
 obtain ⟨y13, q14, h0⟩ := bind_elim h0
 refine AO.op rfl (AOp.callE ((EntersS.call (by kernel_rfl) rfl rfl).le (.cons (SVLe.epPt (n := 4) rfl) .nil)) rfl lb rfl rfl (w_geom0_Empty a1.geom0 y13 q14) ?_)
 rintro _ rfl
 refine AO.nS ?_
 refine AC.cond rfl (fun q15 => ?_) (fun q15 => ?_)
 ·replace h0 := cT h0 q15
  refine AC.sm 3 rfl ?_
  refine AO.op rfl (AOp.nilCheck rfl rfl lb rfl rfl ?_)
  refine AO.op rfl (AOp.fieldAddrPt rfl rfl lb rfl fo124_0 ?_)
  obtain ⟨y16, q17, h0⟩ := bind_elim h0
  refine AO.op rfl (AOp.callE ((EntersS.call (by kernel_rfl) rfl rfl).le (.cons (SVLe.epPt (n := 4) rfl) .nil)) rfl lb rfl rfl (w_geom0_Stride a1.geom0 y16 q17) ?_)
  rintro _ rfl
  obtain ⟨y18, q19, h0⟩ := bind_elim h0
  refine AO.op rfl (AOp.callH (hs := [0, 1]) (unp := [1]) (EntersS.call (by kernel_rfl) rfl rfl) (wh_WriteEmptyPointAsNaN F a0 y16 g12.1 g12.2 _ q19) lb (.cons (SVLe.refl _) (.cons (SVLe.refl _) (.cons (SVLe.refl _) .nil))) rfl rfl rfl (.cons rfl (.cons rfl .nil)) (.cons ⟨rfl, rfl⟩ (.cons ⟨rfl, rfl⟩ .nil)) rfl (.cons (.inl rfl) (.cons (.inl rfl) (.cons (.inr rfl) .nil))) rfl ?_)
  rintro _ _ ⟨rfl, rfl⟩
  refine ⟨.d (.v (.nilIface)), [.fix 108 [.own 1, .d (di .i64 (0 : Int)), .d (di .i8 y18.1)], .grow 5 1 (List.map keS6 y18.2)], rfl, (.cons rfl (.cons rfl .nil)), ?_⟩
  refine AO.objs (obs' := [.fix 108 [.own 1, .d (di .i64 (0 : Int)), .d (di .i8 y18.1)], .grow 5 1 (List.map keS6 y18.2), .frame pv [(0, .ptr 0 0)]]) rfl ?_
  refine AO.mn 1 rfl ?_
  obtain rfl := Option.some.inj h0
  refine AC.ret ?_
  change RetH _ _ _ _ _ _ .ret _
  refine reth (post := [.fix 108 [.own 1, .d (di .i64 (0 : Int)), .d (di .i8 y18.1)], .grow 5 1 (List.map keS6 y18.2)]) rfl rfl rfl rfl rfl ?_
  exact ⟨rfl, rfl⟩
 replace h0 := cF h0 q15
 refine AC.skip ?_
 change AC _ _ _ _
 refine AC.sm 3 rfl ?_
 refine AO.op rfl (AOp.nilCheck rfl rfl lb rfl rfl ?_)
 refine AO.op rfl (AOp.fieldAddrPt rfl rfl lb rfl fo124_0 ?_)
 obtain ⟨y21, q22, h0⟩ := bind_elim h0
 refine AO.op rfl (AOp.callE ((EntersS.call (by kernel_rfl) rfl rfl).le (.cons (SVLe.epPt (n := 4) rfl) .nil)) rfl lb rfl rfl (w_geom0_FlatCoords a1.geom0 y21 q22) ?_)
 rintro _ rfl
 obtain ⟨y23, q24, h0⟩ := bind_elim h0
 refine AO.op rfl (AOp.callH (hs := [0, 1]) (unp := [1]) (EntersS.call (by kernel_rfl) rfl rfl) (wh_WriteFlatCoords0 F a0 y21 g12.1 g12.2 _ q24) lb (.cons (SVLe.refl _) (.cons (SVLe.refl _) (.cons (SVLe.refl _) .nil))) rfl rfl rfl (.cons rfl (.cons rfl .nil)) (.cons ⟨rfl, rfl⟩ (.cons ⟨rfl, rfl⟩ .nil)) rfl (.cons (.inl rfl) (.cons (.inl rfl) (.cons (.inr rfl) .nil))) rfl ?_)
 rintro _ _ ⟨rfl, rfl⟩
 refine ⟨.d (.v (.nilIface)), [.fix 108 [.own 1, .d (di .i64 (0 : Int)), .d (di .i8 y23.1)], .grow 5 1 (List.map keS6 y23.2)], rfl, (.cons rfl (.cons rfl .nil)), ?_⟩
 refine AO.objs (obs' := [.fix 108 [.own 1, .d (di .i64 (0 : Int)), .d (di .i8 y23.1)], .grow 5 1 (List.map keS6 y23.2), .frame pv [(0, .ptr 0 0)]]) rfl ?_
 refine AO.mn 1 rfl ?_
 obtain rfl := Option.some.inj h0
 refine AC.ret ?_
 change RetH _ _ _ _ _ _ .ret _
 refine reth (post := [.fix 108 [.own 1, .d (di .i64 (0 : Int)), .d (di .i8 y23.1)], .grow 5 1 (List.map keS6 y23.2)]) rfl rfl rfl rfl rfl ?_
 exact ⟨rfl, rfl⟩

def RH_WriteFlatCoords1 : (Int × (List Int)) → SV → List Ob → Prop
 | z => fun r post => r = .d (.v (.nilIface)) ∧ post = [.fix 108 [.own 1, .d (di .i64 (0 : Int)), .d (di .i8 z.1)], .grow 5 1 (List.map keS6 z.2)]
set_option maxRecDepth 100000 in
set_option maxHeartbeats 4000000 in
theorem wh_WriteFlatCoords1 (F : Nat) (a0 : Bool) (a1 : (List Nat)) (a2 : Int) (b0 : Int) (b1 : (List Int)) (r0 : (Int × (List Int))) (h0 : p_WriteFlatCoords1 F a0 a1 a2 b0 b1 = some r0) : FnH Tryz.prog 63 [.ifc 61 (.ptr 0 0), .d (.ifc (bif a0 then 99 else 100) (.ag [])), .d (eS1 a1), .d (di .i64 a2)] [.fix 108 [.own 1, .d (di .i64 (0 : Int)), .d (di .i8 b0)], .grow 5 1 (List.map keS6 b1)] [0] (RH_WriteFlatCoords1 r0) := by
 refine FnH.of (by kernel_rfl) Tryz.func63 rfl Tryz.ntmps63 rfl (leb rfl) fun W ok may pv => ?_
 unfold p_WriteFlatCoords1 at h0
 refine AC.smn 1 rfl ?_
 refine AC.seq ?_
 refine AC.sm 3 rfl ?_
 refine AO.op rfl (AOp.lenDs (n := a1.length) (cells := (List.map keS1 a1)) rfl rfl lb rfl el22 (by decide) (len1 _ _) ?_)
 refine AO.mv 1 rfl ?_
 obtain ⟨q1, h0⟩ := need_elim h0
 refine AO.op rfl (AOp.iquo rfl rfl lb rfl rfl q1.1 rfl q1.2.1 q1.2.2 ?_)
 refine AO.op rfl (AOp.i2i rfl rfl lb rfl Tryz.underlying3 Tryz.underlying36 rfl ?_)
 refine AO.subF 2 [0] rfl rfl ?_
 obtain ⟨y2, q3, h0⟩ := bind_elim h0
 refine AO.op rfl (AOp.callH (hs := [0, 1]) (unp := [1]) (EntersS.call (by kernel_rfl) rfl rfl) (wh_WriteUInt32 a0 (IntKind.u32.wrap (Int.tdiv ((a1.length : Nat) : Int) a2)) b0 b1 _ q3) lb (.cons (SVLe.refl _) (.cons (SVLe.refl _) (.cons (SVLe.refl _) .nil))) rfl rfl rfl (.cons rfl (.cons rfl .nil)) (.cons ⟨rfl, rfl⟩ (.cons ⟨rfl, rfl⟩ .nil)) rfl (.cons (.inl rfl) (.cons (.inl rfl) (.cons (.inr rfl) .nil))) rfl ?_)
 rintro _ _ ⟨rfl, rfl⟩
 refine ⟨.d (.v (.nilIface)), [.fix 108 [.own 1, .d (di .i64 (0 : Int)), .d (di .i8 y2.1)], .grow 5 1 (List.map keS6 y2.2)], rfl, (.cons rfl (.cons rfl .nil)), ?_⟩
 refine AO.objs (obs' := [.fix 108 [.own 1, .d (di .i64 (0 : Int)), .d (di .i8 y2.1)], .grow 5 1 (List.map keS6 y2.2), .frame pv [(0, .ptr 0 0)]]) rfl ?_
 refine AO.mn 1 rfl ?_
 refine AC.sm 1 rfl ?_
 refine AO.op rfl (AOp.nilNeq rfl rfl lb rfl imeth44 ?_)
 refine AO.nS ?_
 refine AC.condF rfl rfl ?_
 refine AC.skip ?_
 change AC _ _ _ _
 refine AC.sm 3 rfl ?_
 obtain ⟨y5, q6, h0⟩ := bind_elim h0
 refine AO.op rfl (AOp.callH (hs := [0, 1]) (unp := [1]) (EntersS.call (by kernel_rfl) rfl rfl) (wh_WriteFloatArray F a0 a1 y2.1 y2.2 _ q6) lb (.cons (SVLe.refl _) (.cons (SVLe.refl _) (.cons (SVLe.refl _) .nil))) rfl rfl rfl (.cons rfl (.cons rfl .nil)) (.cons ⟨rfl, rfl⟩ (.cons ⟨rfl, rfl⟩ .nil)) rfl (.cons (.inl rfl) (.cons (.inl rfl) (.cons (.inr rfl) .nil))) rfl ?_)
 rintro _ _ ⟨rfl, rfl⟩
 refine ⟨.d (.v (.nilIface)), [.fix 108 [.own 1, .d (di .i64 (0 : Int)), .d (di .i8 y5.1)], .grow 5 1 (List.map keS6 y5.2)], rfl, (.cons rfl (.cons rfl .nil)), ?_⟩
 refine AO.objs (obs' := [.fix 108 [.own 1, .d (di .i64 (0 : Int)), .d (di .i8 y5.1)], .grow 5 1 (List.map keS6 y5.2), .frame pv [(0, .ptr 0 0)]]) rfl ?_
 refine AO.mn 1 rfl ?_
 obtain rfl := Option.some.inj h0
 refine AC.ret ?_
 change RetH _ _ _ _ _ _ .ret _
 refine reth (post := [.fix 108 [.own 1, .d (di .i64 (0 : Int)), .d (di .i8 y5.1)], .grow 5 1 (List.map keS6 y5.2)]) rfl rfl rfl rfl rfl ?_
 exact ⟨rfl, rfl⟩

def RH_Write_LineString : (Int × (List Int)) → SV → List Ob → Prop
 | z => fun r post => r = .d (.v (.nilIface)) ∧ post = [.fix 108 [.own 1, .d (di .i64 (0 : Int)), .d (di .i8 z.1)], .grow 5 1 (List.map keS6 z.2)]
set_option maxRecDepth 100000 in
set_option maxHeartbeats 4000000 in
theorem wh_Write_LineString (F : Nat) (a0 : Bool) (a1 : TGeom_LineString) (b0 : Int) (b1 : (List Int)) (r0 : (Int × (List Int))) (h0 : p_Write_LineString F a0 a1 b0 b1 = some r0) : FnH Tryz.prog 27 [.ifc 61 (.ptr 0 0), .d (.ifc (bif a0 then 99 else 100) (.ag [])), .ifc 70 (.d (.pt (c_TGeom_LineString a1)))] [.fix 108 [.own 1, .d (di .i64 (0 : Int)), .d (di .i8 b0)], .grow 5 1 (List.map keS6 b1)] [0] (RH_Write_LineString r0) := by
 refine FnH.of (by kernel_rfl) Tryz.func27 rfl Tryz.ntmps27 rfl (leb rfl) fun W ok may pv => ?_
 unfold p_Write_LineString at h0
 refine AC.smn 1 rfl ?_
 refine AC.smn 1 rfl ?_
 refine AC.joinP (V := Int) [0, 1, 2] [7] 3 (fun g1 => [(7, .d (di .u8 g1))]) (fun g1 => [.fix 108 [.own 1, .d (di .i64 (0 : Int)), .d (di .i8 b0)], .grow 5 1 (List.map keS6 b1), .frame pv [(0, .ptr 0 0), (1, .own 1)]]) (fun g1 => (p_Write_LineString_k1 a0 a1 b0 b1 F) g1 = some r0) rfl ?_ ?_
 ·refine AC.smn 1 rfl ?_
  refine AC.block ?_
  refine AC.sr ?_
  refine AO.op rfl (AOp.loadG0 rfl rfl lb agg99 size99 ?_)
  refine AO.op rfl (AOp.makeIfc rfl rfl lb rfl conc99 ?_)
  refine AO.op rfl (AOp.ifcEqT rfl rfl lb rfl rfl rfl rfl rfl cmpS99 imeth51 ?_)
  refine AO.mn 1 rfl ?_
  refine AC.cond rfl (fun q32 => ?_) (fun q32 => ?_)
  ·replace h0 := cT h0 q32
   refine AC.region ?_
   refine AO.mv 1 rfl ?_
   refine AO.nil ?_
   exact ⟨(0 : Int), _, rfl, (LeL.refl _), rfl, rfl, h0⟩
  replace h0 := cF h0 q32
  refine AC.sr ?_
  refine AO.op rfl (AOp.loadG0 rfl rfl lb agg100 size100 ?_)
  refine AO.op rfl (AOp.makeIfc rfl rfl lb rfl conc100 ?_)
  refine AO.op rfl (AOp.ifcEqF rfl rfl lb rfl rfl rfl rfl rfl cmpS100 imeth51 ?_)
  refine AO.mn 1 rfl ?_
  refine AC.cond rfl (fun q33 => ?_) (fun q33 => ?_)
  ·replace h0 := cT h0 q33
   refine AC.region ?_
   refine AO.mv 1 rfl ?_
   refine AO.nil ?_
   exact ⟨(1 : Int), _, rfl, (LeL.refl _), rfl, rfl, h0⟩
  replace h0 := cF h0 q33
  cases h0
 intro g1 h0
 unfold p_Write_LineString_k1 at h0
 refine AC.seq ?_
 refine AC.sm 2 rfl ?_
 refine AO.subF 2 [0] rfl rfl ?_
 obtain ⟨y2, q3, h0⟩ := bind_elim h0
 refine AO.op rfl (AOp.callH (hs := [0, 1]) (unp := [1]) (EntersS.call (by kernel_rfl) rfl rfl) (wh_WriteByte g1 b0 b1 _ q3) lb (.cons (SVLe.refl _) (.cons (SVLe.refl _) .nil)) rfl rfl rfl (.cons rfl (.cons rfl .nil)) (.cons ⟨rfl, rfl⟩ (.cons ⟨rfl, rfl⟩ .nil)) rfl (.cons (.inl rfl) (.cons (.inl rfl) (.cons (.inr rfl) .nil))) rfl ?_)
 rintro _ _ ⟨rfl, rfl⟩
 refine ⟨.d (.v (.nilIface)), [.fix 108 [.own 1, .d (di .i64 (0 : Int)), .d (di .i8 y2.1)], .grow 5 1 (List.map keS6 y2.2)], rfl, (.cons rfl (.cons rfl .nil)), ?_⟩
 refine AO.objs (obs' := [.fix 108 [.own 1, .d (di .i64 (0 : Int)), .d (di .i8 y2.1)], .grow 5 1 (List.map keS6 y2.2), .frame pv [(0, .ptr 0 0)]]) rfl ?_
 refine AO.mn 1 rfl ?_
 refine AC.sm 1 rfl ?_
 refine AO.op rfl (AOp.nilNeq rfl rfl lb rfl imeth44 ?_)
 refine AO.nS ?_
 refine AC.condF rfl rfl ?_
 refine AC.skip ?_
 change AC _ _ _ _
 refine AC.smn 1 rfl ?_
 refine AC.seq ?_
 refine AC.smn 1 rfl ?_
 refine AC.block ?_
 refine AC.sr ?_
 refine AO.op rfl (AOp.assertNo rfl rfl lb rfl rfl pass70_67 zero67 ?_)
 refine AO.mn 2 rfl ?_
 refine AC.condF rfl rfl ?_
 refine AC.sr ?_
 refine AO.op rfl (AOp.assertYes rfl rfl lb rfl rfl pass70_70 rfl ?_)
 refine AO.mn 2 rfl ?_
 refine AC.condT rfl rfl ?_
 refine AC.region ?_
 refine AO.mv 1 rfl ?_
 refine AO.nil (?_ : AC _ _ _ _)
 refine AC.joinP (V := Int) [0, 1, 2] [9] 3 (fun g5 => [(9, .d (di .u32 g5))]) (fun g5 => [.fix 108 [.own 1, .d (di .i64 (0 : Int)), .d (di .i8 y2.1)], .grow 5 1 (List.map keS6 y2.2), .frame pv [(0, .ptr 0 0)]]) (fun g5 => (p_Write_LineString_k2 a0 a1 F y2) g5 = some r0) rfl ?_ ?_
 ·refine AC.sm 1 rfl ?_
  obtain ⟨y25, q26, h0⟩ := bind_elim h0
  refine AO.op rfl (AOp.callE ((EntersS.meth (by kernel_rfl) rfl rfl rfl meth70_Layout rfl rfl).le (.cons (SVLe.epPt (n := 4) rfl) .nil)) rfl lb rfl rfl (w_geom0_Layout a1.geom1.geom0 y25 q26) ?_)
  rintro _ rfl
  refine AO.nS ?_
  refine AC.block ?_
  refine AC.sr ?_
  refine AO.op rfl (AOp.ieql rfl rfl lb rfl rfl ?_)
  refine AO.mn 1 rfl ?_
  refine AC.cond rfl (fun q27 => ?_) (fun q27 => ?_)
  ·replace h0 := cT h0 q27
   refine AC.sm 1 rfl ?_
   refine AO.op rfl (AOp.assertNo rfl rfl lb rfl rfl pass70_93 zero93 ?_)
   refine AO.mn 5 rfl ?_
   refine AC.sm 1 rfl ?_
   refine AO.op rfl (AOp.bnot rfl rfl lb rfl ?_)
   refine AO.mv 1 rfl ?_
   refine AO.guardN rfl rfl rfl lb rfl rfl ?_
   refine AO.guardN rfl rfl rfl lb rfl rfl ?_
   refine AO.guardN rfl rfl rfl lb rfl rfl ?_
   refine AO.op rfl (AOp.pick rfl rfl lb rfl rfl rfl ?_)
   refine AO.nS ?_
   cases h0
  replace h0 := cF h0 q27
  refine AC.sr ?_
  refine AO.op rfl (AOp.ieql rfl rfl lb rfl rfl ?_)
  refine AO.mn 1 rfl ?_
  refine AC.cond rfl (fun q28 => ?_) (fun q28 => ?_)
  ·replace h0 := cT h0 q28
   refine AC.skip ?_
   exact ⟨(2 : Int), _, rfl, (LeL.refl _), rfl, rfl, h0⟩
  replace h0 := cF h0 q28
  refine AC.sr ?_
  refine AO.op rfl (AOp.ieql rfl rfl lb rfl rfl ?_)
  refine AO.mn 1 rfl ?_
  refine AC.cond rfl (fun q29 => ?_) (fun q29 => ?_)
  ·replace h0 := cT h0 q29
   refine AC.region ?_
   refine AO.mv 1 rfl ?_
   refine AO.op rfl (AOp.ibits (by simp) rfl rfl lb rfl rfl rfl ?_)
   refine AO.mv 1 rfl ?_
   refine AO.nil ?_
   exact ⟨(bits .or .u32 (2 : Int) (2147483648 : Int)), _, rfl, (LeL.refl _), rfl, rfl, h0⟩
  replace h0 := cF h0 q29
  refine AC.sr ?_
  refine AO.op rfl (AOp.ieql rfl rfl lb rfl rfl ?_)
  refine AO.mn 1 rfl ?_
  refine AC.cond rfl (fun q30 => ?_) (fun q30 => ?_)
  ·replace h0 := cT h0 q30
   refine AC.region ?_
   refine AO.mv 1 rfl ?_
   refine AO.op rfl (AOp.ibits (by simp) rfl rfl lb rfl rfl rfl ?_)
   refine AO.mv 1 rfl ?_
   refine AO.nil ?_
   exact ⟨(bits .or .u32 (2 : Int) (1073741824 : Int)), _, rfl, (LeL.refl _), rfl, rfl, h0⟩
  replace h0 := cF h0 q30
  refine AC.sr ?_
  refine AO.op rfl (AOp.ieql rfl rfl lb rfl rfl ?_)
  refine AO.mn 1 rfl ?_
  refine AC.cond rfl (fun q31 => ?_) (fun q31 => ?_)
  ·replace h0 := cT h0 q31
   refine AC.region ?_
   refine AO.mv 1 rfl ?_
   refine AO.op rfl (AOp.ibits (by simp) rfl rfl lb rfl rfl rfl ?_)
   refine AO.mv 1 rfl ?_
   refine AO.nil ?_
   exact ⟨(bits .or .u32 (2 : Int) (3221225472 : Int)), _, rfl, (LeL.refl _), rfl, rfl, h0⟩
  replace h0 := cF h0 q31
  cases h0
 intro g5 h0
 unfold p_Write_LineString_k2 at h0
 refine AC.sm 1 rfl ?_
 obtain ⟨y6, q7, h0⟩ := bind_elim h0
 refine AO.op rfl (AOp.callE ((EntersS.meth (by kernel_rfl) rfl rfl rfl meth70_SRID rfl rfl).le (.cons (SVLe.epPt (n := 4) rfl) .nil)) rfl lb rfl rfl (w_geom0_SRID a1.geom1.geom0 y6 q7) ?_)
 rintro _ rfl
 refine AO.mn 1 rfl ?_
 refine AC.joinP (V := Int) [0, 1, 2, 12] [9] 3 (fun g8 => [(9, .d (di .u32 g8))]) (fun g8 => [.fix 108 [.own 1, .d (di .i64 (0 : Int)), .d (di .i8 y2.1)], .grow 5 1 (List.map keS6 y2.2), .frame pv [(0, .ptr 0 0)]]) (fun g8 => (p_Write_LineString_k3 a0 a1 F y2 y6) g8 = some r0) rfl ?_ ?_
 ·refine AC.sm 1 rfl ?_
  refine AO.op rfl (AOp.ineq rfl rfl lb rfl rfl ?_)
  refine AO.nS ?_
  refine AC.cond rfl (fun q24 => ?_) (fun q24 => ?_)
  ·replace h0 := cT h0 q24
   refine AC.region ?_
   refine AO.mv 1 rfl ?_
   refine AO.op rfl (AOp.ibits (by simp) rfl rfl lb rfl rfl rfl ?_)
   refine AO.mv 1 rfl ?_
   refine AO.nil ?_
   exact ⟨(bits .or .u32 g5 (536870912 : Int)), _, rfl, (LeL.refl _), rfl, rfl, h0⟩
  replace h0 := cF h0 q24
  refine AC.skip ?_
  exact ⟨g5, _, rfl, (LeL.refl _), rfl, rfl, h0⟩
 intro g8 h0
 unfold p_Write_LineString_k3 at h0
 refine AC.seq ?_
 refine AC.sm 3 rfl ?_
 obtain ⟨y9, q10, h0⟩ := bind_elim h0
 refine AO.op rfl (AOp.callH (hs := [0, 1]) (unp := [1]) (EntersS.call (by kernel_rfl) rfl rfl) (wh_WriteUInt32 a0 g8 y2.1 y2.2 _ q10) lb (.cons (SVLe.refl _) (.cons (SVLe.refl _) (.cons (SVLe.refl _) .nil))) rfl rfl rfl (.cons rfl (.cons rfl .nil)) (.cons ⟨rfl, rfl⟩ (.cons ⟨rfl, rfl⟩ .nil)) rfl (.cons (.inl rfl) (.cons (.inl rfl) (.cons (.inr rfl) .nil))) rfl ?_)
 rintro _ _ ⟨rfl, rfl⟩
 refine ⟨.d (.v (.nilIface)), [.fix 108 [.own 1, .d (di .i64 (0 : Int)), .d (di .i8 y9.1)], .grow 5 1 (List.map keS6 y9.2)], rfl, (.cons rfl (.cons rfl .nil)), ?_⟩
 refine AO.objs (obs' := [.fix 108 [.own 1, .d (di .i64 (0 : Int)), .d (di .i8 y9.1)], .grow 5 1 (List.map keS6 y9.2), .frame pv [(0, .ptr 0 0)]]) rfl ?_
 refine AO.mn 1 rfl ?_
 refine AC.sm 1 rfl ?_
 refine AO.op rfl (AOp.nilNeq rfl rfl lb rfl imeth44 ?_)
 refine AO.nS ?_
 refine AC.condF rfl rfl ?_
 refine AC.skip ?_
 change AC _ _ _ _
 refine AC.joinP (V := (Int × (List Int))) [0, 1, 2] [] 3 (fun g12 => []) (fun g12 => [.fix 108 [.own 1, .d (di .i64 (0 : Int)), .d (di .i8 g12.1)], .grow 5 1 (List.map keS6 g12.2), .frame pv [(0, .ptr 0 0)]]) (fun g12 => (p_Write_LineString_k4 a0 a1 F) g12 = some r0) rfl ?_ ?_
 ·refine AC.sm 1 rfl ?_
  refine AO.op rfl (AOp.ibits (by simp) rfl rfl lb rfl rfl rfl ?_)
  refine AO.op rfl (AOp.ineq rfl rfl lb rfl rfl ?_)
  refine AO.nS ?_
  refine AC.cond rfl (fun q20 => ?_) (fun q20 => ?_)
  ·replace h0 := cT h0 q20
   refine AC.sm 3 rfl ?_
   refine AO.op rfl (AOp.i2i rfl rfl lb rfl Tryz.underlying3 Tryz.underlying36 rfl ?_)
   obtain ⟨y21, q22, h0⟩ := bind_elim h0
   refine AO.op rfl (AOp.callH (hs := [0, 1]) (unp := [1]) (EntersS.call (by kernel_rfl) rfl rfl) (wh_WriteUInt32 a0 (IntKind.u32.wrap y6) y9.1 y9.2 _ q22) lb (.cons (SVLe.refl _) (.cons (SVLe.refl _) (.cons (SVLe.refl _) .nil))) rfl rfl rfl (.cons rfl (.cons rfl .nil)) (.cons ⟨rfl, rfl⟩ (.cons ⟨rfl, rfl⟩ .nil)) rfl (.cons (.inl rfl) (.cons (.inl rfl) (.cons (.inr rfl) .nil))) rfl ?_)
   rintro _ _ ⟨rfl, rfl⟩
   refine ⟨.d (.v (.nilIface)), [.fix 108 [.own 1, .d (di .i64 (0 : Int)), .d (di .i8 y21.1)], .grow 5 1 (List.map keS6 y21.2)], rfl, (.cons rfl (.cons rfl .nil)), ?_⟩
   refine AO.objs (obs' := [.fix 108 [.own 1, .d (di .i64 (0 : Int)), .d (di .i8 y21.1)], .grow 5 1 (List.map keS6 y21.2), .frame pv [(0, .ptr 0 0)]]) rfl ?_
   refine AO.mn 1 rfl ?_
   refine AC.sm 1 rfl ?_
   refine AO.op rfl (AOp.nilNeq rfl rfl lb rfl imeth44 ?_)
   refine AO.nS ?_
   refine AC.condF rfl rfl ?_
   refine AC.skip ?_
   exact ⟨(y21.1, y21.2), _, rfl, (LeL.refl _), rfl, rfl, h0⟩
  replace h0 := cF h0 q20
  refine AC.skip ?_
  exact ⟨(y9.1, y9.2), _, rfl, (LeL.refl _), rfl, rfl, h0⟩
 intro g12 h0
 unfold p_Write_LineString_k4 at h0
 refine AC.smn 1 rfl ?_
 refine AC.block ?_
 refine AC.sr ?_
 refine AO.op rfl (AOp.assertNo rfl rfl lb rfl rfl pass70_67 zero67 ?_)
 refine AO.mn 2 rfl ?_
 refine AC.condF rfl rfl ?_
 refine AC.sr ?_
 refine AO.op rfl (AOp.assertYes rfl rfl lb rfl rfl pass70_70 rfl ?_)
 refine AO.mn 2 rfl ?_
 refine AC.condT rfl rfl ?_
 refine AC.smn 1 rfl ?_
 refine AC.seq ?_
 refine AC.draw 12 mixed (by kernel_rfl) ?_
 refine AD.op [0] rfl (by kernel_rfl) rfl rfl (fun _ _ h => AOp.move rfl rfl lb rfl h) ?_
 refine AD.op [1] rfl (by kernel_rfl) rfl rfl (fun _ _ h => AOp.move rfl rfl lb rfl h) ?_
 refine AD.op [16] rfl (by kernel_rfl) rfl rfl (fun _ _ h => AOp.move rfl rfl lb rfl h) ?_
 refine AD.op [171] rfl (by kernel_rfl) rfl rfl (fun _ _ h => AOp.nilCheck rfl rfl lb rfl rfl h) ?_
 refine AD.op [172] rfl (by kernel_rfl) rfl rfl (fun _ _ h => AOp.fieldAddrPt rfl rfl lb rfl fo131_0 h) ?_
 refine AD.op [173] rfl (by kernel_rfl) rfl rfl (fun _ _ h => AOp.fieldAddrEp rfl rfl lb rfl fo129_0 h) ?_
 obtain ⟨y13, q14, h0⟩ := bind_elim h0
 refine AD.op [174] rfl (by kernel_rfl) rfl rfl (fun _ _ h => AOp.callE ((EntersS.call (by kernel_rfl) rfl rfl).le (.cons (SVLe.epPt (n := 4) rfl) .nil)) rfl lb rfl rfl (w_geom0_FlatCoords a1.geom1.geom0 y13 q14) (by rintro _ rfl; exact h)) ?_
 refine AD.op [16] rfl (by kernel_rfl) rfl rfl (fun _ _ h => AOp.move rfl rfl lb rfl h) ?_
 refine AD.op [176] rfl (by kernel_rfl) rfl rfl (fun _ _ h => AOp.nilCheck rfl rfl lb rfl rfl h) ?_
 refine AD.op [177] rfl (by kernel_rfl) rfl rfl (fun _ _ h => AOp.fieldAddrPt rfl rfl lb rfl fo131_0 h) ?_
 refine AD.op [178] rfl (by kernel_rfl) rfl rfl (fun _ _ h => AOp.fieldAddrEp rfl rfl lb rfl fo129_0 h) ?_
 obtain ⟨y15, q16, h0⟩ := bind_elim h0
 refine AD.op [179] rfl (by kernel_rfl) rfl rfl (fun _ _ h => AOp.callE ((EntersS.call (by kernel_rfl) rfl rfl).le (.cons (SVLe.epPt (n := 4) rfl) .nil)) rfl lb rfl rfl (w_geom0_Stride a1.geom1.geom0 y15 q16) (by rintro _ rfl; exact h)) ?_
 refine AD.done ?_
 obtain ⟨y17, q18, h0⟩ := bind_elim h0
 refine AO.op rfl (AOp.callH (hs := [0, 1]) (unp := [1]) (EntersS.call (by kernel_rfl) rfl rfl) (wh_WriteFlatCoords1 F a0 y13 y15 g12.1 g12.2 _ q18) lb (.cons (SVLe.refl _) (.cons (SVLe.refl _) (.cons (SVLe.refl _) (.cons (SVLe.refl _) .nil)))) rfl rfl rfl (.cons rfl (.cons rfl .nil)) (.cons ⟨rfl, rfl⟩ (.cons ⟨rfl, rfl⟩ .nil)) rfl (.cons (.inl rfl) (.cons (.inl rfl) (.cons (.inr rfl) .nil))) rfl ?_)
 rintro _ _ ⟨rfl, rfl⟩
 refine ⟨.d (.v (.nilIface)), [.fix 108 [.own 1, .d (di .i64 (0 : Int)), .d (di .i8 y17.1)], .grow 5 1 (List.map keS6 y17.2)], rfl, (.cons rfl (.cons rfl .nil)), ?_⟩
 refine AO.objs (obs' := [.fix 108 [.own 1, .d (di .i64 (0 : Int)), .d (di .i8 y17.1)], .grow 5 1 (List.map keS6 y17.2), .frame pv [(0, .ptr 0 0)]]) rfl ?_
 refine AO.mn 1 rfl ?_
 obtain rfl := Option.some.inj h0
 refine AC.ret ?_
 change RetH _ _ _ _ _ _ .ret _
 refine reth (post := [.fix 108 [.own 1, .d (di .i64 (0 : Int)), .d (di .i8 y17.1)], .grow 5 1 (List.map keS6 y17.2)]) rfl rfl rfl rfl rfl ?_
 exact ⟨rfl, rfl⟩

set_option maxRecDepth 100000 in
set_option maxHeartbeats 4000000 in
theorem w_geom2_Ends (a0 : TGeom_geom2) (r0 : (List Int)) (h0 : p_geom2_Ends a0 = some r0) : FnD Tryz.prog 65 [.pt (c_TGeom_geom2 a0)] (fun r => r = eS2 r0) := by
 refine FnD.of (by kernel_rfl) Tryz.func65 rfl Tryz.ntmps65 rfl (leb rfl) fun W ok => ?_
 unfold p_geom2_Ends at h0
 refine AC.smn 1 rfl ?_
 refine AC.sm 1 rfl ?_
 refine AO.op rfl (AOp.nilCheck rfl rfl lb rfl rfl ?_)
 refine AO.op rfl (AOp.fieldAddrPt rfl rfl lb rfl fo134_1 ?_)
 refine AO.op rfl (AOp.loadEp rfl rfl lb rfl agg23 rfl ?_)
 refine AO.mn 1 rfl ?_
 refine AC.ret ?_
 change RetQ _ _ _ .ret _
 obtain rfl := Option.some.inj h0
 refine retq rfl rfl

def RH_WriteFlatCoords2 : (Int × (List Int)) → SV → List Ob → Prop
 | z => fun r post => r = .d (.v (.nilIface)) ∧ post = [.fix 108 [.own 1, .d (di .i64 (0 : Int)), .d (di .i8 z.1)], .grow 5 1 (List.map keS6 z.2)]
set_option maxRecDepth 100000 in
set_option maxHeartbeats 4000000 in
theorem wh_WriteFlatCoords2 (F : Nat) (a0 : Bool) (a1 : (List Nat)) (a2 : (List Int)) (a3 : Int) (b0 : Int) (b1 : (List Int)) (r0 : (Int × (List Int))) (h0 : p_WriteFlatCoords2 F a0 a1 a2 a3 b0 b1 = some r0) : FnH Tryz.prog 64 [.ifc 61 (.ptr 0 0), .d (.ifc (bif a0 then 99 else 100) (.ag [])), .d (eS1 a1), .d (eS2 a2), .d (di .i64 a3)] [.fix 108 [.own 1, .d (di .i64 (0 : Int)), .d (di .i8 b0)], .grow 5 1 (List.map keS6 b1)] [0] (RH_WriteFlatCoords2 r0) := by
 refine FnH.of (by kernel_rfl) Tryz.func64 rfl Tryz.ntmps64 rfl (leb rfl) fun W ok may pv => ?_
 unfold p_WriteFlatCoords2 at h0
 refine AC.smn 1 rfl ?_
 refine AC.seq ?_
 refine AC.sm 3 rfl ?_
 refine AO.op rfl (AOp.lenDs (n := a2.length) (cells := (List.map keS2 a2)) rfl rfl lb rfl el23 (by decide) (len1 _ _) ?_)
 refine AO.op rfl (AOp.i2i rfl rfl lb rfl Tryz.underlying3 Tryz.underlying36 rfl ?_)
 refine AO.subF 2 [0] rfl rfl ?_
 obtain ⟨y1, q2, h0⟩ := bind_elim h0
 refine AO.op rfl (AOp.callH (hs := [0, 1]) (unp := [1]) (EntersS.call (by kernel_rfl) rfl rfl) (wh_WriteUInt32 a0 (IntKind.u32.wrap ((a2.length : Nat) : Int)) b0 b1 _ q2) lb (.cons (SVLe.refl _) (.cons (SVLe.refl _) (.cons (SVLe.refl _) .nil))) rfl rfl rfl (.cons rfl (.cons rfl .nil)) (.cons ⟨rfl, rfl⟩ (.cons ⟨rfl, rfl⟩ .nil)) rfl (.cons (.inl rfl) (.cons (.inl rfl) (.cons (.inr rfl) .nil))) rfl ?_)
 rintro _ _ ⟨rfl, rfl⟩
 refine ⟨.d (.v (.nilIface)), [.fix 108 [.own 1, .d (di .i64 (0 : Int)), .d (di .i8 y1.1)], .grow 5 1 (List.map keS6 y1.2)], rfl, (.cons rfl (.cons rfl .nil)), ?_⟩
 refine AO.objs (obs' := [.fix 108 [.own 1, .d (di .i64 (0 : Int)), .d (di .i8 y1.1)], .grow 5 1 (List.map keS6 y1.2), .frame pv [(0, .ptr 0 0)]]) rfl ?_
 refine AO.mn 1 rfl ?_
 refine AC.sm 1 rfl ?_
 refine AO.op rfl (AOp.nilNeq rfl rfl lb rfl imeth44 ?_)
 refine AO.nS ?_
 refine AC.condF rfl rfl ?_
 refine AC.skip ?_
 change AC _ _ _ _
 refine AC.smn 1 rfl ?_
 refine AC.seq ?_
 refine AC.sm 1 rfl ?_
 refine AO.op rfl (AOp.lenDs (n := a2.length) (cells := (List.map keS2 a2)) rfl rfl lb rfl el23 (by decide) (len1 _ _) ?_)
 refine AO.mn 1 rfl ?_
 obtain ⟨o4, l5, h0⟩ := bind_elim h0
 refine AC.joinE (V := (Int × (List Int))) [] [] 3 (fun g6 => []) (fun g6 => [.fix 108 [.own 1, .d (di .i64 (0 : Int)), .d (di .i8 g6.1)], .grow 5 1 (List.map keS6 g6.2), .frame pv [(0, .ptr 0 0)]]) (fun g6 => p_WriteFlatCoords2_k1 g6 = some r0) rfl ?_ ?_
 ·refine AC.block ?_
  refine AC.loopP (V := (Int × Int × Int × (List Int))) (p_WriteFlatCoords2_l2 a0 a1 a2 a3 F) o4 [0, 1, 2, 4, 25, 26] [12, 27] 3 (fun g7 => [(12, .d (di .i64 g7.1)), (27, .d (di .i64 g7.2.1))]) (fun g7 => [.fix 108 [.own 1, .d (di .i64 (0 : Int)), .d (di .i8 g7.2.2.1)], .grow 5 1 (List.map keS6 g7.2.2.2), .frame pv [(0, .ptr 0 0)]]) F ((0 : Int), (0 : Int), y1.1, y1.2) l5 rfl rfl (LeL.refl _) rfl rfl ?_
  intro n9 g7 h1
  unfold p_WriteFlatCoords2_l2 at h1
  refine AC.sr ?_
  refine AO.op rfl (AOp.ilss rfl rfl lb rfl rfl ?_)
  refine AO.nS ?_
  refine AC.seq ?_
  refine AC.cond rfl (fun q10 => ?_) (fun q10 => ?_)
  ·replace h1 := cT h1 q10
   refine AC.skip ?_
   change AC _ _ _ _
   refine AC.seq ?_
   refine AC.block ?_
   refine AC.sr ?_
   obtain ⟨x11, q12, h1⟩ := idx_elim h1
   refine AO.op rfl (AOp.indexDs (cells := (List.map keS2 a2)) rfl rfl lb rfl rfl el23 (by decide) q12.1 (lt1 q12.2) ?_)
   refine AO.op rfl (AOp.loadEp rfl rfl lb rfl agg3 (at1 q12.2) ?_)
   refine AO.mn 1 rfl ?_
   refine AC.seq ?_
   refine AC.sm 5 rfl ?_
   obtain ⟨q13, h1⟩ := need_elim h1
   refine AO.op rfl (AOp.sliceD (cells := (List.map keS1 a1)) (n := a1.length) (l := (g7.1).toNat) (hh := (x11).toNat) rfl rfl lb rfl (.inr ⟨_, _, _, rfl, rfl, q13.1.1, rfl⟩) (.inr ⟨_, _, _, rfl, rfl, q13.1.2, rfl⟩) el22 (by decide) (len1 _ _) q13.2.1 q13.2.2 (sub1 _ _ _ _) ?_)
   refine AO.mv 1 rfl ?_
   obtain ⟨y14, q15, h1⟩ := bind_elim h1
   refine AO.op rfl (AOp.callH (hs := [0, 1]) (unp := [1]) (EntersS.call (by kernel_rfl) rfl rfl) (wh_WriteFlatCoords1 F a0 ((a1.drop (g7.1).toNat).take ((x11).toNat - (g7.1).toNat)) a3 g7.2.2.1 g7.2.2.2 _ q15) lb (.cons (SVLe.refl _) (.cons (SVLe.refl _) (.cons (SVLe.refl _) (.cons (SVLe.refl _) .nil)))) rfl rfl rfl (.cons rfl (.cons rfl .nil)) (.cons ⟨rfl, rfl⟩ (.cons ⟨rfl, rfl⟩ .nil)) rfl (.cons (.inl rfl) (.cons (.inl rfl) (.cons (.inr rfl) .nil))) rfl ?_)
   rintro _ _ ⟨rfl, rfl⟩
   refine ⟨.d (.v (.nilIface)), [.fix 108 [.own 1, .d (di .i64 (0 : Int)), .d (di .i8 y14.1)], .grow 5 1 (List.map keS6 y14.2)], rfl, (.cons rfl (.cons rfl .nil)), ?_⟩
   refine AO.objs (obs' := [.fix 108 [.own 1, .d (di .i64 (0 : Int)), .d (di .i8 y14.1)], .grow 5 1 (List.map keS6 y14.2), .frame pv [(0, .ptr 0 0)]]) rfl ?_
   refine AO.mn 1 rfl ?_
   refine AC.sm 1 rfl ?_
   refine AO.op rfl (AOp.nilNeq rfl rfl lb rfl imeth44 ?_)
   refine AO.nS ?_
   refine AC.condF rfl rfl ?_
   refine AC.skip ?_
   change AC _ _ _ _
   refine AC.region ?_
   refine AO.mv 2 rfl ?_
   refine AO.nil (?_ : AC _ _ _ _)
   refine AC.region ?_
   obtain ⟨q17, h1⟩ := need_elim h1
   refine AO.op rfl (AOp.iadd rfl rfl lb rfl rfl rfl q17.1 q17.2 ?_)
   refine AO.mv 1 rfl ?_
   refine AO.nil ?_
   exact ⟨(x11, (g7.2.1 + (1 : Int)), y14.1, y14.2), _, rfl, (LeL.refl _), rfl, rfl, h1⟩
  replace h1 := cF h1 q10
  refine AC.exit ?_
  obtain rfl := Option.some.inj h1
  exact ⟨(g7.2.2.1, g7.2.2.2), _, rfl, (LeL.refl _), rfl, rfl, aftL h0⟩
 intro g6 h0
 unfold p_WriteFlatCoords2_k1 at h0
 change AC _ _ _ _
 refine AC.smn 1 rfl ?_
 obtain rfl := Option.some.inj h0
 refine AC.ret ?_
 change RetH _ _ _ _ _ _ .ret _
 refine reth (post := [.fix 108 [.own 1, .d (di .i64 (0 : Int)), .d (di .i8 g6.1)], .grow 5 1 (List.map keS6 g6.2)]) rfl rfl rfl rfl rfl ?_
 exact ⟨rfl, rfl⟩

def RH_Write_Polygon : (Int × (List Int)) → SV → List Ob → Prop
 | z => fun r post => r = .d (.v (.nilIface)) ∧ post = [.fix 108 [.own 1, .d (di .i64 (0 : Int)), .d (di .i8 z.1)], .grow 5 1 (List.map keS6 z.2)]
set_option maxRecDepth 100000 in
set_option maxHeartbeats 4000000 in
theorem wh_Write_Polygon (F : Nat) (a0 : Bool) (a1 : TGeom_Polygon) (b0 : Int) (b1 : (List Int)) (r0 : (Int × (List Int))) (h0 : p_Write_Polygon F a0 a1 b0 b1 = some r0) : FnH Tryz.prog 27 [.ifc 61 (.ptr 0 0), .d (.ifc (bif a0 then 99 else 100) (.ag [])), .ifc 76 (.d (.pt (c_TGeom_Polygon a1)))] [.fix 108 [.own 1, .d (di .i64 (0 : Int)), .d (di .i8 b0)], .grow 5 1 (List.map keS6 b1)] [0] (RH_Write_Polygon r0) := by
 refine FnH.of (by kernel_rfl) Tryz.func27 rfl Tryz.ntmps27 rfl (leb rfl) fun W ok may pv => ?_
 unfold p_Write_Polygon at h0
 refine AC.smn 1 rfl ?_
 refine AC.smn 1 rfl ?_
 refine AC.joinP (V := Int) [0, 1, 2] [7] 3 (fun g1 => [(7, .d (di .u8 g1))]) (fun g1 => [.fix 108 [.own 1, .d (di .i64 (0 : Int)), .d (di .i8 b0)], .grow 5 1 (List.map keS6 b1), .frame pv [(0, .ptr 0 0), (1, .own 1)]]) (fun g1 => (p_Write_Polygon_k1 a0 a1 b0 b1 F) g1 = some r0) rfl ?_ ?_
 ·refine AC.smn 1 rfl ?_
  refine AC.block ?_
  refine AC.sr ?_
  refine AO.op rfl (AOp.loadG0 rfl rfl lb agg99 size99 ?_)
  refine AO.op rfl (AOp.makeIfc rfl rfl lb rfl conc99 ?_)
  refine AO.op rfl (AOp.ifcEqT rfl rfl lb rfl rfl rfl rfl rfl cmpS99 imeth51 ?_)
  refine AO.mn 1 rfl ?_
  refine AC.cond rfl (fun q34 => ?_) (fun q34 => ?_)
  ·replace h0 := cT h0 q34
   refine AC.region ?_
   refine AO.mv 1 rfl ?_
   refine AO.nil ?_
   exact ⟨(0 : Int), _, rfl, (LeL.refl _), rfl, rfl, h0⟩
  replace h0 := cF h0 q34
  refine AC.sr ?_
  refine AO.op rfl (AOp.loadG0 rfl rfl lb agg100 size100 ?_)
  refine AO.op rfl (AOp.makeIfc rfl rfl lb rfl conc100 ?_)
  refine AO.op rfl (AOp.ifcEqF rfl rfl lb rfl rfl rfl rfl rfl cmpS100 imeth51 ?_)
  refine AO.mn 1 rfl ?_
  refine AC.cond rfl (fun q35 => ?_) (fun q35 => ?_)
  ·replace h0 := cT h0 q35
   refine AC.region ?_
   refine AO.mv 1 rfl ?_
   refine AO.nil ?_
   exact ⟨(1 : Int), _, rfl, (LeL.refl _), rfl, rfl, h0⟩
  replace h0 := cF h0 q35
  cases h0
 intro g1 h0
 unfold p_Write_Polygon_k1 at h0
 refine AC.seq ?_
 refine AC.sm 2 rfl ?_
 refine AO.subF 2 [0] rfl rfl ?_
 obtain ⟨y2, q3, h0⟩ := bind_elim h0
 refine AO.op rfl (AOp.callH (hs := [0, 1]) (unp := [1]) (EntersS.call (by kernel_rfl) rfl rfl) (wh_WriteByte g1 b0 b1 _ q3) lb (.cons (SVLe.refl _) (.cons (SVLe.refl _) .nil)) rfl rfl rfl (.cons rfl (.cons rfl .nil)) (.cons ⟨rfl, rfl⟩ (.cons ⟨rfl, rfl⟩ .nil)) rfl (.cons (.inl rfl) (.cons (.inl rfl) (.cons (.inr rfl) .nil))) rfl ?_)
 rintro _ _ ⟨rfl, rfl⟩
 refine ⟨.d (.v (.nilIface)), [.fix 108 [.own 1, .d (di .i64 (0 : Int)), .d (di .i8 y2.1)], .grow 5 1 (List.map keS6 y2.2)], rfl, (.cons rfl (.cons rfl .nil)), ?_⟩
 refine AO.objs (obs' := [.fix 108 [.own 1, .d (di .i64 (0 : Int)), .d (di .i8 y2.1)], .grow 5 1 (List.map keS6 y2.2), .frame pv [(0, .ptr 0 0)]]) rfl ?_
 refine AO.mn 1 rfl ?_
 refine AC.sm 1 rfl ?_
 refine AO.op rfl (AOp.nilNeq rfl rfl lb rfl imeth44 ?_)
 refine AO.nS ?_
 refine AC.condF rfl rfl ?_
 refine AC.skip ?_
 change AC _ _ _ _
 refine AC.smn 1 rfl ?_
 refine AC.seq ?_
 refine AC.smn 1 rfl ?_
 refine AC.block ?_
 refine AC.sr ?_
 refine AO.op rfl (AOp.assertNo rfl rfl lb rfl rfl pass76_67 zero67 ?_)
 refine AO.mn 2 rfl ?_
 refine AC.condF rfl rfl ?_
 refine AC.sr ?_
 refine AO.op rfl (AOp.assertNo rfl rfl lb rfl rfl pass76_70 zero70 ?_)
 refine AO.mn 2 rfl ?_
 refine AC.condF rfl rfl ?_
 refine AC.sr ?_
 refine AO.op rfl (AOp.assertYes rfl rfl lb rfl rfl pass76_76 rfl ?_)
 refine AO.mn 2 rfl ?_
 refine AC.condT rfl rfl ?_
 refine AC.region ?_
 refine AO.mv 1 rfl ?_
 refine AO.nil (?_ : AC _ _ _ _)
 refine AC.joinP (V := Int) [0, 1, 2] [9] 3 (fun g5 => [(9, .d (di .u32 g5))]) (fun g5 => [.fix 108 [.own 1, .d (di .i64 (0 : Int)), .d (di .i8 y2.1)], .grow 5 1 (List.map keS6 y2.2), .frame pv [(0, .ptr 0 0)]]) (fun g5 => (p_Write_Polygon_k2 a0 a1 F y2) g5 = some r0) rfl ?_ ?_
 ·refine AC.sm 1 rfl ?_
  obtain ⟨y27, q28, h0⟩ := bind_elim h0
  refine AO.op rfl (AOp.callE ((EntersS.meth (by kernel_rfl) rfl rfl rfl meth76_Layout rfl rfl).le (.cons (SVLe.epPt (n := 4) rfl) .nil)) rfl lb rfl rfl (w_geom0_Layout a1.geom2.geom1.geom0 y27 q28) ?_)
  rintro _ rfl
  refine AO.nS ?_
  refine AC.block ?_
  refine AC.sr ?_
  refine AO.op rfl (AOp.ieql rfl rfl lb rfl rfl ?_)
  refine AO.mn 1 rfl ?_
  refine AC.cond rfl (fun q29 => ?_) (fun q29 => ?_)
  ·replace h0 := cT h0 q29
   refine AC.sm 1 rfl ?_
   refine AO.op rfl (AOp.assertNo rfl rfl lb rfl rfl pass76_93 zero93 ?_)
   refine AO.mn 5 rfl ?_
   refine AC.sm 1 rfl ?_
   refine AO.op rfl (AOp.bnot rfl rfl lb rfl ?_)
   refine AO.mv 1 rfl ?_
   refine AO.guardN rfl rfl rfl lb rfl rfl ?_
   refine AO.guardN rfl rfl rfl lb rfl rfl ?_
   refine AO.guardN rfl rfl rfl lb rfl rfl ?_
   refine AO.op rfl (AOp.pick rfl rfl lb rfl rfl rfl ?_)
   refine AO.nS ?_
   cases h0
  replace h0 := cF h0 q29
  refine AC.sr ?_
  refine AO.op rfl (AOp.ieql rfl rfl lb rfl rfl ?_)
  refine AO.mn 1 rfl ?_
  refine AC.cond rfl (fun q30 => ?_) (fun q30 => ?_)
  ·replace h0 := cT h0 q30
   refine AC.skip ?_
   exact ⟨(3 : Int), _, rfl, (LeL.refl _), rfl, rfl, h0⟩
  replace h0 := cF h0 q30
  refine AC.sr ?_
  refine AO.op rfl (AOp.ieql rfl rfl lb rfl rfl ?_)
  refine AO.mn 1 rfl ?_
  refine AC.cond rfl (fun q31 => ?_) (fun q31 => ?_)
  ·replace h0 := cT h0 q31
   refine AC.region ?_
   refine AO.mv 1 rfl ?_
   refine AO.op rfl (AOp.ibits (by simp) rfl rfl lb rfl rfl rfl ?_)
   refine AO.mv 1 rfl ?_
   refine AO.nil ?_
   exact ⟨(bits .or .u32 (3 : Int) (2147483648 : Int)), _, rfl, (LeL.refl _), rfl, rfl, h0⟩
  replace h0 := cF h0 q31
  refine AC.sr ?_
  refine AO.op rfl (AOp.ieql rfl rfl lb rfl rfl ?_)
  refine AO.mn 1 rfl ?_
  refine AC.cond rfl (fun q32 => ?_) (fun q32 => ?_)
  ·replace h0 := cT h0 q32
   refine AC.region ?_
   refine AO.mv 1 rfl ?_
   refine AO.op rfl (AOp.ibits (by simp) rfl rfl lb rfl rfl rfl ?_)
   refine AO.mv 1 rfl ?_
   refine AO.nil ?_
   exact ⟨(bits .or .u32 (3 : Int) (1073741824 : Int)), _, rfl, (LeL.refl _), rfl, rfl, h0⟩
  replace h0 := cF h0 q32
  refine AC.sr ?_
  refine AO.op rfl (AOp.ieql rfl rfl lb rfl rfl ?_)
  refine AO.mn 1 rfl ?_
  refine AC.cond rfl (fun q33 => ?_) (fun q33 => ?_)
  ·replace h0 := cT h0 q33
   refine AC.region ?_
   refine AO.mv 1 rfl ?_
   refine AO.op rfl (AOp.ibits (by simp) rfl rfl lb rfl rfl rfl ?_)
   refine AO.mv 1 rfl ?_
   refine AO.nil ?_
   exact ⟨(bits .or .u32 (3 : Int) (3221225472 : Int)), _, rfl, (LeL.refl _), rfl, rfl, h0⟩
  replace h0 := cF h0 q33
  cases h0
 intro g5 h0
 unfold p_Write_Polygon_k2 at h0
 refine AC.sm 1 rfl ?_
 obtain ⟨y6, q7, h0⟩ := bind_elim h0
 refine AO.op rfl (AOp.callE ((EntersS.meth (by kernel_rfl) rfl rfl rfl meth76_SRID rfl rfl).le (.cons (SVLe.epPt (n := 4) rfl) .nil)) rfl lb rfl rfl (w_geom0_SRID a1.geom2.geom1.geom0 y6 q7) ?_)
 rintro _ rfl
 refine AO.mn 1 rfl ?_
 refine AC.joinP (V := Int) [0, 1, 2, 12] [9] 3 (fun g8 => [(9, .d (di .u32 g8))]) (fun g8 => [.fix 108 [.own 1, .d (di .i64 (0 : Int)), .d (di .i8 y2.1)], .grow 5 1 (List.map keS6 y2.2), .frame pv [(0, .ptr 0 0)]]) (fun g8 => (p_Write_Polygon_k3 a0 a1 F y2 y6) g8 = some r0) rfl ?_ ?_
 ·refine AC.sm 1 rfl ?_
  refine AO.op rfl (AOp.ineq rfl rfl lb rfl rfl ?_)
  refine AO.nS ?_
  refine AC.cond rfl (fun q26 => ?_) (fun q26 => ?_)
  ·replace h0 := cT h0 q26
   refine AC.region ?_
   refine AO.mv 1 rfl ?_
   refine AO.op rfl (AOp.ibits (by simp) rfl rfl lb rfl rfl rfl ?_)
   refine AO.mv 1 rfl ?_
   refine AO.nil ?_
   exact ⟨(bits .or .u32 g5 (536870912 : Int)), _, rfl, (LeL.refl _), rfl, rfl, h0⟩
  replace h0 := cF h0 q26
  refine AC.skip ?_
  exact ⟨g5, _, rfl, (LeL.refl _), rfl, rfl, h0⟩
 intro g8 h0
 unfold p_Write_Polygon_k3 at h0
 refine AC.seq ?_
 refine AC.sm 3 rfl ?_
 obtain ⟨y9, q10, h0⟩ := bind_elim h0
 refine AO.op rfl (AOp.callH (hs := [0, 1]) (unp := [1]) (EntersS.call (by kernel_rfl) rfl rfl) (wh_WriteUInt32 a0 g8 y2.1 y2.2 _ q10) lb (.cons (SVLe.refl _) (.cons (SVLe.refl _) (.cons (SVLe.refl _) .nil))) rfl rfl rfl (.cons rfl (.cons rfl .nil)) (.cons ⟨rfl, rfl⟩ (.cons ⟨rfl, rfl⟩ .nil)) rfl (.cons (.inl rfl) (.cons (.inl rfl) (.cons (.inr rfl) .nil))) rfl ?_)
 rintro _ _ ⟨rfl, rfl⟩
 refine ⟨.d (.v (.nilIface)), [.fix 108 [.own 1, .d (di .i64 (0 : Int)), .d (di .i8 y9.1)], .grow 5 1 (List.map keS6 y9.2)], rfl, (.cons rfl (.cons rfl .nil)), ?_⟩
 refine AO.objs (obs' := [.fix 108 [.own 1, .d (di .i64 (0 : Int)), .d (di .i8 y9.1)], .grow 5 1 (List.map keS6 y9.2), .frame pv [(0, .ptr 0 0)]]) rfl ?_
 refine AO.mn 1 rfl ?_
 refine AC.sm 1 rfl ?_
 refine AO.op rfl (AOp.nilNeq rfl rfl lb rfl imeth44 ?_)
 refine AO.nS ?_
 refine AC.condF rfl rfl ?_
 refine AC.skip ?_
 change AC _ _ _ _
 refine AC.joinP (V := (Int × (List Int))) [0, 1, 2] [] 3 (fun g12 => []) (fun g12 => [.fix 108 [.own 1, .d (di .i64 (0 : Int)), .d (di .i8 g12.1)], .grow 5 1 (List.map keS6 g12.2), .frame pv [(0, .ptr 0 0)]]) (fun g12 => (p_Write_Polygon_k4 a0 a1 F) g12 = some r0) rfl ?_ ?_
 ·refine AC.sm 1 rfl ?_
  refine AO.op rfl (AOp.ibits (by simp) rfl rfl lb rfl rfl rfl ?_)
  refine AO.op rfl (AOp.ineq rfl rfl lb rfl rfl ?_)
  refine AO.nS ?_
  refine AC.cond rfl (fun q22 => ?_) (fun q22 => ?_)
  ·replace h0 := cT h0 q22
   refine AC.sm 3 rfl ?_
   refine AO.op rfl (AOp.i2i rfl rfl lb rfl Tryz.underlying3 Tryz.underlying36 rfl ?_)
   obtain ⟨y23, q24, h0⟩ := bind_elim h0
   refine AO.op rfl (AOp.callH (hs := [0, 1]) (unp := [1]) (EntersS.call (by kernel_rfl) rfl rfl) (wh_WriteUInt32 a0 (IntKind.u32.wrap y6) y9.1 y9.2 _ q24) lb (.cons (SVLe.refl _) (.cons (SVLe.refl _) (.cons (SVLe.refl _) .nil))) rfl rfl rfl (.cons rfl (.cons rfl .nil)) (.cons ⟨rfl, rfl⟩ (.cons ⟨rfl, rfl⟩ .nil)) rfl (.cons (.inl rfl) (.cons (.inl rfl) (.cons (.inr rfl) .nil))) rfl ?_)
   rintro _ _ ⟨rfl, rfl⟩
   refine ⟨.d (.v (.nilIface)), [.fix 108 [.own 1, .d (di .i64 (0 : Int)), .d (di .i8 y23.1)], .grow 5 1 (List.map keS6 y23.2)], rfl, (.cons rfl (.cons rfl .nil)), ?_⟩
   refine AO.objs (obs' := [.fix 108 [.own 1, .d (di .i64 (0 : Int)), .d (di .i8 y23.1)], .grow 5 1 (List.map keS6 y23.2), .frame pv [(0, .ptr 0 0)]]) rfl ?_
   refine AO.mn 1 rfl ?_
   refine AC.sm 1 rfl ?_
   refine AO.op rfl (AOp.nilNeq rfl rfl lb rfl imeth44 ?_)
   refine AO.nS ?_
   refine AC.condF rfl rfl ?_
   refine AC.skip ?_
   exact ⟨(y23.1, y23.2), _, rfl, (LeL.refl _), rfl, rfl, h0⟩
  replace h0 := cF h0 q22
  refine AC.skip ?_
  exact ⟨(y9.1, y9.2), _, rfl, (LeL.refl _), rfl, rfl, h0⟩
 intro g12 h0
 unfold p_Write_Polygon_k4 at h0
 refine AC.smn 1 rfl ?_
 refine AC.block ?_
 refine AC.sr ?_
 refine AO.op rfl (AOp.assertNo rfl rfl lb rfl rfl pass76_67 zero67 ?_)
 refine AO.mn 2 rfl ?_
 refine AC.condF rfl rfl ?_
 refine AC.sr ?_
 refine AO.op rfl (AOp.assertNo rfl rfl lb rfl rfl pass76_70 zero70 ?_)
 refine AO.mn 2 rfl ?_
 refine AC.condF rfl rfl ?_
 refine AC.sr ?_
 refine AO.op rfl (AOp.assertYes rfl rfl lb rfl rfl pass76_76 rfl ?_)
 refine AO.mn 2 rfl ?_
 refine AC.condT rfl rfl ?_
 refine AC.smn 1 rfl ?_
 refine AC.seq ?_
 refine AC.draw 18 mixed (by kernel_rfl) ?_
 refine AD.op [0] rfl (by kernel_rfl) rfl rfl (fun _ _ h => AOp.move rfl rfl lb rfl h) ?_
 refine AD.op [1] rfl (by kernel_rfl) rfl rfl (fun _ _ h => AOp.move rfl rfl lb rfl h) ?_
 refine AD.op [17] rfl (by kernel_rfl) rfl rfl (fun _ _ h => AOp.move rfl rfl lb rfl h) ?_
 refine AD.op [187] rfl (by kernel_rfl) rfl rfl (fun _ _ h => AOp.nilCheck rfl rfl lb rfl rfl h) ?_
 refine AD.op [188] rfl (by kernel_rfl) rfl rfl (fun _ _ h => AOp.fieldAddrPt rfl rfl lb rfl fo136_0 h) ?_
 refine AD.op [189] rfl (by kernel_rfl) rfl rfl (fun _ _ h => AOp.fieldAddrEp rfl rfl lb rfl fo134_0 h) ?_
 refine AD.op [190] rfl (by kernel_rfl) rfl rfl (fun _ _ h => AOp.fieldAddrEp rfl rfl lb rfl fo129_0 h) ?_
 obtain ⟨y13, q14, h0⟩ := bind_elim h0
 refine AD.op [191] rfl (by kernel_rfl) rfl rfl (fun _ _ h => AOp.callE ((EntersS.call (by kernel_rfl) rfl rfl).le (.cons (SVLe.epPt (n := 4) rfl) .nil)) rfl lb rfl rfl (w_geom0_FlatCoords a1.geom2.geom1.geom0 y13 q14) (by rintro _ rfl; exact h)) ?_
 refine AD.op [17] rfl (by kernel_rfl) rfl rfl (fun _ _ h => AOp.move rfl rfl lb rfl h) ?_
 refine AD.op [193] rfl (by kernel_rfl) rfl rfl (fun _ _ h => AOp.nilCheck rfl rfl lb rfl rfl h) ?_
 refine AD.op [194] rfl (by kernel_rfl) rfl rfl (fun _ _ h => AOp.fieldAddrPt rfl rfl lb rfl fo136_0 h) ?_
 obtain ⟨y15, q16, h0⟩ := bind_elim h0
 refine AD.op [195] rfl (by kernel_rfl) rfl rfl (fun _ _ h => AOp.callE ((EntersS.call (by kernel_rfl) rfl rfl).le (.cons (SVLe.epPt (n := 5) rfl) .nil)) rfl lb rfl rfl (w_geom2_Ends a1.geom2 y15 q16) (by rintro _ rfl; exact h)) ?_
 refine AD.op [17] rfl (by kernel_rfl) rfl rfl (fun _ _ h => AOp.move rfl rfl lb rfl h) ?_
 refine AD.op [197] rfl (by kernel_rfl) rfl rfl (fun _ _ h => AOp.nilCheck rfl rfl lb rfl rfl h) ?_
 refine AD.op [198] rfl (by kernel_rfl) rfl rfl (fun _ _ h => AOp.fieldAddrPt rfl rfl lb rfl fo136_0 h) ?_
 refine AD.op [199] rfl (by kernel_rfl) rfl rfl (fun _ _ h => AOp.fieldAddrEp rfl rfl lb rfl fo134_0 h) ?_
 refine AD.op [200] rfl (by kernel_rfl) rfl rfl (fun _ _ h => AOp.fieldAddrEp rfl rfl lb rfl fo129_0 h) ?_
 obtain ⟨y17, q18, h0⟩ := bind_elim h0
 refine AD.op [201] rfl (by kernel_rfl) rfl rfl (fun _ _ h => AOp.callE ((EntersS.call (by kernel_rfl) rfl rfl).le (.cons (SVLe.epPt (n := 4) rfl) .nil)) rfl lb rfl rfl (w_geom0_Stride a1.geom2.geom1.geom0 y17 q18) (by rintro _ rfl; exact h)) ?_
 refine AD.done ?_
 obtain ⟨y19, q20, h0⟩ := bind_elim h0
 refine AO.op rfl (AOp.callH (hs := [0, 1]) (unp := [1]) (EntersS.call (by kernel_rfl) rfl rfl) (wh_WriteFlatCoords2 F a0 y13 y15 y17 g12.1 g12.2 _ q20) lb (.cons (SVLe.refl _) (.cons (SVLe.refl _) (.cons (SVLe.refl _) (.cons (SVLe.refl _) (.cons (SVLe.refl _) .nil))))) rfl rfl rfl (.cons rfl (.cons rfl .nil)) (.cons ⟨rfl, rfl⟩ (.cons ⟨rfl, rfl⟩ .nil)) rfl (.cons (.inl rfl) (.cons (.inl rfl) (.cons (.inr rfl) .nil))) rfl ?_)
 rintro _ _ ⟨rfl, rfl⟩
 refine ⟨.d (.v (.nilIface)), [.fix 108 [.own 1, .d (di .i64 (0 : Int)), .d (di .i8 y19.1)], .grow 5 1 (List.map keS6 y19.2)], rfl, (.cons rfl (.cons rfl .nil)), ?_⟩
 refine AO.objs (obs' := [.fix 108 [.own 1, .d (di .i64 (0 : Int)), .d (di .i8 y19.1)], .grow 5 1 (List.map keS6 y19.2), .frame pv [(0, .ptr 0 0)]]) rfl ?_
 refine AO.mn 1 rfl ?_
 obtain rfl := Option.some.inj h0
 refine AC.ret ?_
 change RetH _ _ _ _ _ _ .ret _
 refine reth (post := [.fix 108 [.own 1, .d (di .i64 (0 : Int)), .d (di .i8 y19.1)], .grow 5 1 (List.map keS6 y19.2)]) rfl rfl rfl rfl rfl ?_
 exact ⟨rfl, rfl⟩

set_option maxRecDepth 100000 in
set_option maxHeartbeats 4000000 in
theorem w_MultiPoint_NumPoints (a0 : TGeom_Polygon) (r0 : Int) (h0 : p_MultiPoint_NumPoints a0 = some r0) : FnD Tryz.prog 66 [.pt (c_TGeom_Polygon a0)] (fun r => r = di .i64 r0) := by
 refine FnD.of (by kernel_rfl) Tryz.func66 rfl Tryz.ntmps66 rfl (leb rfl) fun W ok => ?_
 unfold p_MultiPoint_NumPoints at h0
 refine AC.smn 1 rfl ?_
 refine AC.sm 1 rfl ?_
 refine AO.op rfl (AOp.nilCheck rfl rfl lb rfl rfl ?_)
 refine AO.op rfl (AOp.fieldAddrPt rfl rfl lb rfl fo141_0 ?_)
 refine AO.op rfl (AOp.fieldAddrEp rfl rfl lb rfl fo134_1 ?_)
 refine AO.op rfl (AOp.loadEp rfl rfl lb rfl agg23 rfl ?_)
 refine AO.op rfl (AOp.lenDs (n := a0.geom2.ends.length) (cells := (List.map keS2 a0.geom2.ends)) rfl rfl lb rfl el23 (by decide) (len1 _ _) ?_)
 refine AO.mn 1 rfl ?_
 refine AC.ret ?_
 change RetQ _ _ _ .ret _
 obtain rfl := Option.some.inj h0
 refine retq rfl rfl

set_option maxRecDepth 100000 in
set_option maxHeartbeats 4000000 in
theorem w_MultiPoint_Coord (a0 : TGeom_Polygon) (a1 : Int) (r0 : (List Nat)) (h0 : p_MultiPoint_Coord a0 a1 = some r0) : FnD Tryz.prog 81 [.pt (c_TGeom_Polygon a0), di .i64 a1] (fun r => r = eS1 r0) := by
 refine FnD.of (by kernel_rfl) Tryz.func81 rfl Tryz.ntmps81 rfl (leb rfl) fun W ok => ?_
 unfold p_MultiPoint_Coord at h0
 refine AC.smn 1 rfl ?_
 refine AC.smn 1 rfl ?_
 refine AC.joinP (V := Int) [0, 1] [5] 0 (fun g1 => [(5, .d (di .i64 g1))]) (fun g1 => []) (fun g1 => (p_MultiPoint_Coord_k1 a0 a1) g1 = some r0) rfl ?_ ?_
 ·refine AC.sm 1 rfl ?_
  refine AO.op rfl (AOp.igtr rfl rfl lb rfl rfl ?_)
  refine AO.nS ?_
  refine AC.cond rfl (fun q8 => ?_) (fun q8 => ?_)
  ·replace h0 := cT h0 q8
   refine AC.region ?_
   refine AO.mv 1 rfl ?_
   refine AO.op rfl (AOp.nilCheck rfl rfl lb rfl rfl ?_)
   refine AO.op rfl (AOp.fieldAddrPt rfl rfl lb rfl fo141_0 ?_)
   refine AO.op rfl (AOp.fieldAddrEp rfl rfl lb rfl fo134_1 ?_)
   refine AO.op rfl (AOp.loadEp rfl rfl lb rfl agg23 rfl ?_)
   refine AO.mv 1 rfl ?_
   obtain ⟨q9, h0⟩ := need_elim h0
   refine AO.op rfl (AOp.isub rfl rfl lb rfl rfl rfl q9.1 q9.2 ?_)
   obtain ⟨x10, q11, h0⟩ := idx_elim h0
   refine AO.op rfl (AOp.indexDs (cells := (List.map keS2 a0.geom2.ends)) rfl rfl lb rfl rfl el23 (by decide) q11.1 (lt1 q11.2) ?_)
   refine AO.op rfl (AOp.loadEp rfl rfl lb rfl agg3 (at1 q11.2) ?_)
   refine AO.mv 1 rfl ?_
   refine AO.nil ?_
   exact ⟨x10, _, rfl, (LeL.refl _), rfl, rfl, h0⟩
  replace h0 := cF h0 q8
  refine AC.skip ?_
  exact ⟨(0 : Int), _, rfl, (LeL.refl _), rfl, rfl, h0⟩
 intro g1 h0
 unfold p_MultiPoint_Coord_k1 at h0
 refine AC.seq ?_
 refine AC.sm 1 rfl ?_
 refine AO.op rfl (AOp.nilCheck rfl rfl lb rfl rfl ?_)
 refine AO.op rfl (AOp.fieldAddrPt rfl rfl lb rfl fo141_0 ?_)
 refine AO.op rfl (AOp.fieldAddrEp rfl rfl lb rfl fo134_1 ?_)
 refine AO.op rfl (AOp.loadEp rfl rfl lb rfl agg23 rfl ?_)
 refine AO.mv 1 rfl ?_
 obtain ⟨x2, q3, h0⟩ := idx_elim h0
 refine AO.op rfl (AOp.indexDs (cells := (List.map keS2 a0.geom2.ends)) rfl rfl lb rfl rfl el23 (by decide) q3.1 (lt1 q3.2) ?_)
 refine AO.op rfl (AOp.loadEp rfl rfl lb rfl agg3 (at1 q3.2) ?_)
 refine AO.mv 1 rfl ?_
 refine AO.op rfl (AOp.ieql rfl rfl lb rfl rfl ?_)
 refine AO.nS ?_
 refine AC.cond rfl (fun q4 => ?_) (fun q4 => ?_)
 ·replace h0 := cT h0 q4
  refine AC.smn 1 rfl ?_
  refine AC.sub 4 rfl (SVLe.nil 1) ?_
  refine AC.ret ?_
  change RetQ _ _ _ .ret _
  obtain rfl := Option.some.inj h0
  refine retq rfl rfl
 replace h0 := cF h0 q4
 refine AC.skip ?_
 change AC _ _ _ _
 refine AC.seq ?_
 refine AC.draw 18 mixed (by kernel_rfl) ?_
 refine AD.op [0] rfl (by kernel_rfl) rfl rfl (fun _ _ h => AOp.move rfl rfl lb rfl h) ?_
 refine AD.op [27] rfl (by kernel_rfl) rfl rfl (fun _ _ h => AOp.nilCheck rfl rfl lb rfl rfl h) ?_
 refine AD.op [28] rfl (by kernel_rfl) rfl rfl (fun _ _ h => AOp.fieldAddrPt rfl rfl lb rfl fo141_0 h) ?_
 refine AD.op [29] rfl (by kernel_rfl) rfl rfl (fun _ _ h => AOp.fieldAddrEp rfl rfl lb rfl fo134_0 h) ?_
 refine AD.op [30] rfl (by kernel_rfl) rfl rfl (fun _ _ h => AOp.fieldAddrEp rfl rfl lb rfl fo129_0 h) ?_
 refine AD.op [31] rfl (by kernel_rfl) rfl rfl (fun _ _ h => AOp.fieldAddrEp rfl rfl lb rfl fo122_2 h) ?_
 refine AD.op [32] rfl (by kernel_rfl) rfl rfl (fun _ _ h => AOp.loadEp rfl rfl lb rfl agg22 rfl h) ?_
 refine AD.op [5] rfl (by kernel_rfl) rfl rfl (fun _ _ h => AOp.move rfl rfl lb rfl h) ?_
 refine AD.op [0] rfl (by kernel_rfl) rfl rfl (fun _ _ h => AOp.move rfl rfl lb rfl h) ?_
 refine AD.op [35] rfl (by kernel_rfl) rfl rfl (fun _ _ h => AOp.nilCheck rfl rfl lb rfl rfl h) ?_
 refine AD.op [36] rfl (by kernel_rfl) rfl rfl (fun _ _ h => AOp.fieldAddrPt rfl rfl lb rfl fo141_0 h) ?_
 refine AD.op [37] rfl (by kernel_rfl) rfl rfl (fun _ _ h => AOp.fieldAddrEp rfl rfl lb rfl fo134_1 h) ?_
 refine AD.op [38] rfl (by kernel_rfl) rfl rfl (fun _ _ h => AOp.loadEp rfl rfl lb rfl agg23 rfl h) ?_
 refine AD.op [1] rfl (by kernel_rfl) rfl rfl (fun _ _ h => AOp.move rfl rfl lb rfl h) ?_
 obtain ⟨x5, q6, h0⟩ := idx_elim h0
 refine AD.op [39, 40] rfl (by kernel_rfl) rfl rfl (fun _ _ h => AOp.indexDs (cells := (List.map keS2 a0.geom2.ends)) rfl rfl lb rfl rfl el23 (by decide) q6.1 (lt1 q6.2) h) ?_
 refine AD.op [41] rfl (by kernel_rfl) rfl rfl (fun _ _ h => AOp.loadEp rfl rfl lb rfl agg3 (at1 q6.2) h) ?_
 obtain ⟨q7, h0⟩ := need_elim h0
 refine AD.op [33, 34, 42] rfl (by kernel_rfl) rfl rfl (fun _ _ h => AOp.sliceD (cells := (List.map keS1 a0.geom2.geom1.geom0.flatCoords)) (n := a0.geom2.geom1.geom0.flatCoords.length) (l := (g1).toNat) (hh := (x5).toNat) rfl rfl lb rfl (.inr ⟨_, _, _, rfl, rfl, q7.1.1, rfl⟩) (.inr ⟨_, _, _, rfl, rfl, q7.1.2, rfl⟩) el22 (by decide) (len1 _ _) q7.2.1 q7.2.2 (sub1 _ _ _ _) h) ?_
 refine AD.op [43] rfl (by kernel_rfl) rfl rfl (fun _ _ h => AOp.assign rfl rfl lb rfl h) ?_
 refine AD.done ?_
 refine AO.nS ?_
 refine AC.ret ?_
 change RetQ _ _ _ .ret _
 obtain rfl := Option.some.inj h0
 refine retq rfl rfl

set_option maxRecDepth 100000 in
set_option maxHeartbeats 4000000 in
theorem w_NewPointEmpty (a0 : Int) (r0 : TGeom_Point) (h0 : p_NewPointEmpty a0 = some r0) : FnD Tryz.prog 82 [di .i64 a0] (fun r => r = .pt (c_TGeom_Point r0)) := by
 refine FnD.of (by kernel_rfl) Tryz.func82 rfl Tryz.ntmps82 rfl (leb rfl) fun W ok => ?_
 unfold p_NewPointEmpty at h0
 refine AC.smn 1 rfl ?_
 refine AC.sm 1 rfl ?_
 obtain ⟨y1, q2, h0⟩ := bind_elim h0
 refine AO.op rfl (AOp.callA rfl rfl lb rfl rfl ((wa_NewPointFlat a0 [] y1 q2).nils (.cons (.nils .nil))) ?_)
 refine AO.mn 1 rfl ?_
 refine AC.ret ?_
 change RetQ _ _ _ .ret _
 obtain rfl := Option.some.inj h0
 refine retq rfl rfl

set_option maxRecDepth 100000 in
set_option maxHeartbeats 4000000 in
theorem w_MultiPoint_Point (a0 : TGeom_Polygon) (a1 : Int) (r0 : TGeom_Point) (h0 : p_MultiPoint_Point a0 a1 = some r0) : FnD Tryz.prog 67 [.pt (c_TGeom_Polygon a0), di .i64 a1] (fun r => r = .pt (c_TGeom_Point r0)) := by
 refine FnD.of (by kernel_rfl) Tryz.func67 rfl Tryz.ntmps67 rfl (leb rfl) fun W ok => ?_
 unfold p_MultiPoint_Point at h0
 refine AC.smn 1 rfl ?_
 refine AC.sm 2 rfl ?_
 obtain ⟨y1, q2, h0⟩ := bind_elim h0
 refine AO.op rfl (AOp.callD rfl rfl lb rfl rfl (w_MultiPoint_Coord a0 a1 y1 q2) ?_)
 rintro _ rfl
 refine AO.mn 1 rfl ?_
 refine AC.seq ?_
 refine AC.sm 1 rfl ?_
 refine AO.op rfl (AOp.nilEqlU (f := eS1) (x0 := (some y1)) Tryz.underlying161 rfl rfl lb rfl rfl (fun _ _ => ⟨_, _, _, rfl⟩) fun b3 hb4 => ?_)
 cases b3
 ·replace h0 := agr_f h0 hb4
  refine AO.nS ?_
  refine AC.condF rfl rfl ?_
  refine AC.skip ?_
  change AC _ _ _ _
  refine AC.sm 1 rfl ?_
  refine AO.op rfl (AOp.nilCheck rfl rfl lb rfl rfl ?_)
  refine AO.op rfl (AOp.fieldAddrPt rfl rfl lb rfl fo141_0 ?_)
  refine AO.op rfl (AOp.fieldAddrEp rfl rfl lb rfl fo134_0 ?_)
  refine AO.op rfl (AOp.fieldAddrEp rfl rfl lb rfl fo129_0 ?_)
  refine AO.op rfl (AOp.fieldAddrEp rfl rfl lb rfl fo122_0 ?_)
  refine AO.op rfl (AOp.loadEp rfl rfl lb rfl agg65 rfl ?_)
  refine AO.mv 1 rfl ?_
  obtain ⟨y5, q6, h0⟩ := bind_elim h0
  refine AO.op rfl (AOp.callA rfl rfl lb rfl rfl (wa_NewPointFlat a0.geom2.geom1.geom0.layout y1 y5 q6) ?_)
  refine AO.mn 1 rfl ?_
  refine AC.ret ?_
  change RetQ _ _ _ .ret _
  obtain rfl := Option.some.inj h0
  refine retq rfl rfl
 replace h0 := agr_t h0 hb4
 refine AO.nS ?_
 refine AC.condT rfl rfl ?_
 refine AC.sm 1 rfl ?_
 refine AO.op rfl (AOp.nilCheck rfl rfl lb rfl rfl ?_)
 refine AO.op rfl (AOp.fieldAddrPt rfl rfl lb rfl fo141_0 ?_)
 refine AO.op rfl (AOp.fieldAddrEp rfl rfl lb rfl fo134_0 ?_)
 refine AO.op rfl (AOp.fieldAddrEp rfl rfl lb rfl fo129_0 ?_)
 refine AO.op rfl (AOp.fieldAddrEp rfl rfl lb rfl fo122_0 ?_)
 refine AO.op rfl (AOp.loadEp rfl rfl lb rfl agg65 rfl ?_)
 obtain ⟨y7, q8, h0⟩ := bind_elim h0
 refine AO.op rfl (AOp.callD rfl rfl lb rfl rfl (w_NewPointEmpty a0.geom2.geom1.geom0.layout y7 q8) ?_)
 rintro _ rfl
 refine AO.mn 1 rfl ?_
 refine AC.ret ?_
 change RetQ _ _ _ .ret _
 obtain rfl := Option.some.inj h0
 refine retq rfl rfl

def RH_Write_MultiPoint : (Int × (List Int)) → SV → List Ob → Prop
 | z => fun r post => r = .d (.v (.nilIface)) ∧ post = [.fix 108 [.own 1, .d (di .i64 (0 : Int)), .d (di .i8 z.1)], .grow 5 1 (List.map keS6 z.2)]
set_option maxRecDepth 100000 in
set_option maxHeartbeats 4000000 in
theorem wh_Write_MultiPoint (F : Nat) (a0 : Bool) (a1 : TGeom_Polygon) (b0 : Int) (b1 : (List Int)) (r0 : (Int × (List Int))) (h0 : p_Write_MultiPoint F a0 a1 b0 b1 = some r0) : FnH Tryz.prog 27 [.ifc 61 (.ptr 0 0), .d (.ifc (bif a0 then 99 else 100) (.ag [])), .ifc 80 (.d (.pt (c_TGeom_Polygon a1)))] [.fix 108 [.own 1, .d (di .i64 (0 : Int)), .d (di .i8 b0)], .grow 5 1 (List.map keS6 b1)] [0] (RH_Write_MultiPoint r0) := by
 refine FnH.of (by kernel_rfl) Tryz.func27 rfl Tryz.ntmps27 rfl (leb rfl) fun W ok may pv => ?_
 unfold p_Write_MultiPoint at h0
 refine AC.smn 1 rfl ?_
 refine AC.smn 1 rfl ?_
 refine AC.joinP (V := Int) [0, 1, 2] [7] 3 (fun g1 => [(7, .d (di .u8 g1))]) (fun g1 => [.fix 108 [.own 1, .d (di .i64 (0 : Int)), .d (di .i8 b0)], .grow 5 1 (List.map keS6 b1), .frame pv [(0, .ptr 0 0), (1, .own 1)]]) (fun g1 => (p_Write_MultiPoint_k1 a0 a1 b0 b1 F) g1 = some r0) rfl ?_ ?_
 ·refine AC.smn 1 rfl ?_
  refine AC.block ?_
  refine AC.sr ?_
  refine AO.op rfl (AOp.loadG0 rfl rfl lb agg99 size99 ?_)
  refine AO.op rfl (AOp.makeIfc rfl rfl lb rfl conc99 ?_)
  refine AO.op rfl (AOp.ifcEqT rfl rfl lb rfl rfl rfl rfl rfl cmpS99 imeth51 ?_)
  refine AO.mn 1 rfl ?_
  refine AC.cond rfl (fun q43 => ?_) (fun q43 => ?_)
  ·replace h0 := cT h0 q43
   refine AC.region ?_
   refine AO.mv 1 rfl ?_
   refine AO.nil ?_
   exact ⟨(0 : Int), _, rfl, (LeL.refl _), rfl, rfl, h0⟩
  replace h0 := cF h0 q43
  refine AC.sr ?_
  refine AO.op rfl (AOp.loadG0 rfl rfl lb agg100 size100 ?_)
  refine AO.op rfl (AOp.makeIfc rfl rfl lb rfl conc100 ?_)
  refine AO.op rfl (AOp.ifcEqF rfl rfl lb rfl rfl rfl rfl rfl cmpS100 imeth51 ?_)
  refine AO.mn 1 rfl ?_
  refine AC.cond rfl (fun q44 => ?_) (fun q44 => ?_)
  ·replace h0 := cT h0 q44
   refine AC.region ?_
   refine AO.mv 1 rfl ?_
   refine AO.nil ?_
   exact ⟨(1 : Int), _, rfl, (LeL.refl _), rfl, rfl, h0⟩
  replace h0 := cF h0 q44
  cases h0
 intro g1 h0
 unfold p_Write_MultiPoint_k1 at h0
 refine AC.seq ?_
 refine AC.sm 2 rfl ?_
 refine AO.subF 2 [0] rfl rfl ?_
 obtain ⟨y2, q3, h0⟩ := bind_elim h0
 refine AO.op rfl (AOp.callH (hs := [0, 1]) (unp := [1]) (EntersS.call (by kernel_rfl) rfl rfl) (wh_WriteByte g1 b0 b1 _ q3) lb (.cons (SVLe.refl _) (.cons (SVLe.refl _) .nil)) rfl rfl rfl (.cons rfl (.cons rfl .nil)) (.cons ⟨rfl, rfl⟩ (.cons ⟨rfl, rfl⟩ .nil)) rfl (.cons (.inl rfl) (.cons (.inl rfl) (.cons (.inr rfl) .nil))) rfl ?_)
 rintro _ _ ⟨rfl, rfl⟩
 refine ⟨.d (.v (.nilIface)), [.fix 108 [.own 1, .d (di .i64 (0 : Int)), .d (di .i8 y2.1)], .grow 5 1 (List.map keS6 y2.2)], rfl, (.cons rfl (.cons rfl .nil)), ?_⟩
 refine AO.objs (obs' := [.fix 108 [.own 1, .d (di .i64 (0 : Int)), .d (di .i8 y2.1)], .grow 5 1 (List.map keS6 y2.2), .frame pv [(0, .ptr 0 0)]]) rfl ?_
 refine AO.mn 1 rfl ?_
 refine AC.sm 1 rfl ?_
 refine AO.op rfl (AOp.nilNeq rfl rfl lb rfl imeth44 ?_)
 refine AO.nS ?_
 refine AC.condF rfl rfl ?_
 refine AC.skip ?_
 change AC _ _ _ _
 refine AC.smn 1 rfl ?_
 refine AC.seq ?_
 refine AC.smn 1 rfl ?_
 refine AC.block ?_
 refine AC.sr ?_
 refine AO.op rfl (AOp.assertNo rfl rfl lb rfl rfl pass80_67 zero67 ?_)
 refine AO.mn 2 rfl ?_
 refine AC.condF rfl rfl ?_
 refine AC.sr ?_
 refine AO.op rfl (AOp.assertNo rfl rfl lb rfl rfl pass80_70 zero70 ?_)
 refine AO.mn 2 rfl ?_
 refine AC.condF rfl rfl ?_
 refine AC.sr ?_
 refine AO.op rfl (AOp.assertNo rfl rfl lb rfl rfl pass80_76 zero76 ?_)
 refine AO.mn 2 rfl ?_
 refine AC.condF rfl rfl ?_
 refine AC.sr ?_
 refine AO.op rfl (AOp.assertYes rfl rfl lb rfl rfl pass80_80 rfl ?_)
 refine AO.mn 2 rfl ?_
 refine AC.condT rfl rfl ?_
 refine AC.region ?_
 refine AO.mv 1 rfl ?_
 refine AO.nil (?_ : AC _ _ _ _)
 refine AC.joinP (V := Int) [0, 1, 2] [9] 3 (fun g5 => [(9, .d (di .u32 g5))]) (fun g5 => [.fix 108 [.own 1, .d (di .i64 (0 : Int)), .d (di .i8 y2.1)], .grow 5 1 (List.map keS6 y2.2), .frame pv [(0, .ptr 0 0)]]) (fun g5 => (p_Write_MultiPoint_k2 a0 a1 F y2) g5 = some r0) rfl ?_ ?_
 ·refine AC.sm 1 rfl ?_
  obtain ⟨y36, q37, h0⟩ := bind_elim h0
  refine AO.op rfl (AOp.callE ((EntersS.meth (by kernel_rfl) rfl rfl rfl meth80_Layout rfl rfl).le (.cons (SVLe.epPt (n := 4) rfl) .nil)) rfl lb rfl rfl (w_geom0_Layout a1.geom2.geom1.geom0 y36 q37) ?_)
  rintro _ rfl
  refine AO.nS ?_
  refine AC.block ?_
  refine AC.sr ?_
  refine AO.op rfl (AOp.ieql rfl rfl lb rfl rfl ?_)
  refine AO.mn 1 rfl ?_
  refine AC.cond rfl (fun q38 => ?_) (fun q38 => ?_)
  ·replace h0 := cT h0 q38
   refine AC.sm 1 rfl ?_
   refine AO.op rfl (AOp.assertNo rfl rfl lb rfl rfl pass80_93 zero93 ?_)
   refine AO.mn 5 rfl ?_
   refine AC.sm 1 rfl ?_
   refine AO.op rfl (AOp.bnot rfl rfl lb rfl ?_)
   refine AO.mv 1 rfl ?_
   refine AO.guardN rfl rfl rfl lb rfl rfl ?_
   refine AO.guardN rfl rfl rfl lb rfl rfl ?_
   refine AO.guardN rfl rfl rfl lb rfl rfl ?_
   refine AO.op rfl (AOp.pick rfl rfl lb rfl rfl rfl ?_)
   refine AO.nS ?_
   cases h0
  replace h0 := cF h0 q38
  refine AC.sr ?_
  refine AO.op rfl (AOp.ieql rfl rfl lb rfl rfl ?_)
  refine AO.mn 1 rfl ?_
  refine AC.cond rfl (fun q39 => ?_) (fun q39 => ?_)
  ·replace h0 := cT h0 q39
   refine AC.skip ?_
   exact ⟨(4 : Int), _, rfl, (LeL.refl _), rfl, rfl, h0⟩
  replace h0 := cF h0 q39
  refine AC.sr ?_
  refine AO.op rfl (AOp.ieql rfl rfl lb rfl rfl ?_)
  refine AO.mn 1 rfl ?_
  refine AC.cond rfl (fun q40 => ?_) (fun q40 => ?_)
  ·replace h0 := cT h0 q40
   refine AC.region ?_
   refine AO.mv 1 rfl ?_
   refine AO.op rfl (AOp.ibits (by simp) rfl rfl lb rfl rfl rfl ?_)
   refine AO.mv 1 rfl ?_
   refine AO.nil ?_
   exact ⟨(bits .or .u32 (4 : Int) (2147483648 : Int)), _, rfl, (LeL.refl _), rfl, rfl, h0⟩
  replace h0 := cF h0 q40
  refine AC.sr ?_
  refine AO.op rfl (AOp.ieql rfl rfl lb rfl rfl ?_)
  refine AO.mn 1 rfl ?_
  refine AC.cond rfl (fun q41 => ?_) (fun q41 => ?_)
  ·replace h0 := cT h0 q41
   refine AC.region ?_
   refine AO.mv 1 rfl ?_
   refine AO.op rfl (AOp.ibits (by simp) rfl rfl lb rfl rfl rfl ?_)
   refine AO.mv 1 rfl ?_
   refine AO.nil ?_
   exact ⟨(bits .or .u32 (4 : Int) (1073741824 : Int)), _, rfl, (LeL.refl _), rfl, rfl, h0⟩
  replace h0 := cF h0 q41
  refine AC.sr ?_
  refine AO.op rfl (AOp.ieql rfl rfl lb rfl rfl ?_)
  refine AO.mn 1 rfl ?_
  refine AC.cond rfl (fun q42 => ?_) (fun q42 => ?_)
  ·replace h0 := cT h0 q42
   refine AC.region ?_
   refine AO.mv 1 rfl ?_
   refine AO.op rfl (AOp.ibits (by simp) rfl rfl lb rfl rfl rfl ?_)
   refine AO.mv 1 rfl ?_
   refine AO.nil ?_
   exact ⟨(bits .or .u32 (4 : Int) (3221225472 : Int)), _, rfl, (LeL.refl _), rfl, rfl, h0⟩
  replace h0 := cF h0 q42
  cases h0
 intro g5 h0
 unfold p_Write_MultiPoint_k2 at h0
 refine AC.sm 1 rfl ?_
 obtain ⟨y6, q7, h0⟩ := bind_elim h0
 refine AO.op rfl (AOp.callE ((EntersS.meth (by kernel_rfl) rfl rfl rfl meth80_SRID rfl rfl).le (.cons (SVLe.epPt (n := 4) rfl) .nil)) rfl lb rfl rfl (w_geom0_SRID a1.geom2.geom1.geom0 y6 q7) ?_)
 rintro _ rfl
 refine AO.mn 1 rfl ?_
 refine AC.joinP (V := Int) [0, 1, 2, 12] [9] 3 (fun g8 => [(9, .d (di .u32 g8))]) (fun g8 => [.fix 108 [.own 1, .d (di .i64 (0 : Int)), .d (di .i8 y2.1)], .grow 5 1 (List.map keS6 y2.2), .frame pv [(0, .ptr 0 0)]]) (fun g8 => (p_Write_MultiPoint_k3 a0 a1 F y2 y6) g8 = some r0) rfl ?_ ?_
 ·refine AC.sm 1 rfl ?_
  refine AO.op rfl (AOp.ineq rfl rfl lb rfl rfl ?_)
  refine AO.nS ?_
  refine AC.cond rfl (fun q35 => ?_) (fun q35 => ?_)
  ·replace h0 := cT h0 q35
   refine AC.region ?_
   refine AO.mv 1 rfl ?_
   refine AO.op rfl (AOp.ibits (by simp) rfl rfl lb rfl rfl rfl ?_)
   refine AO.mv 1 rfl ?_
   refine AO.nil ?_
   exact ⟨(bits .or .u32 g5 (536870912 : Int)), _, rfl, (LeL.refl _), rfl, rfl, h0⟩
  replace h0 := cF h0 q35
  refine AC.skip ?_
  exact ⟨g5, _, rfl, (LeL.refl _), rfl, rfl, h0⟩
 intro g8 h0
 unfold p_Write_MultiPoint_k3 at h0
 refine AC.seq ?_
 refine AC.sm 3 rfl ?_
 obtain ⟨y9, q10, h0⟩ := bind_elim h0
 refine AO.op rfl (AOp.callH (hs := [0, 1]) (unp := [1]) (EntersS.call (by kernel_rfl) rfl rfl) (wh_WriteUInt32 a0 g8 y2.1 y2.2 _ q10) lb (.cons (SVLe.refl _) (.cons (SVLe.refl _) (.cons (SVLe.refl _) .nil))) rfl rfl rfl (.cons rfl (.cons rfl .nil)) (.cons ⟨rfl, rfl⟩ (.cons ⟨rfl, rfl⟩ .nil)) rfl (.cons (.inl rfl) (.cons (.inl rfl) (.cons (.inr rfl) .nil))) rfl ?_)
 rintro _ _ ⟨rfl, rfl⟩
 refine ⟨.d (.v (.nilIface)), [.fix 108 [.own 1, .d (di .i64 (0 : Int)), .d (di .i8 y9.1)], .grow 5 1 (List.map keS6 y9.2)], rfl, (.cons rfl (.cons rfl .nil)), ?_⟩
 refine AO.objs (obs' := [.fix 108 [.own 1, .d (di .i64 (0 : Int)), .d (di .i8 y9.1)], .grow 5 1 (List.map keS6 y9.2), .frame pv [(0, .ptr 0 0)]]) rfl ?_
 refine AO.mn 1 rfl ?_
 refine AC.sm 1 rfl ?_
 refine AO.op rfl (AOp.nilNeq rfl rfl lb rfl imeth44 ?_)
 refine AO.nS ?_
 refine AC.condF rfl rfl ?_
 refine AC.skip ?_
 change AC _ _ _ _
 refine AC.joinP (V := (Int × (List Int))) [0, 1, 2] [] 3 (fun g12 => []) (fun g12 => [.fix 108 [.own 1, .d (di .i64 (0 : Int)), .d (di .i8 g12.1)], .grow 5 1 (List.map keS6 g12.2), .frame pv [(0, .ptr 0 0)]]) (fun g12 => (p_Write_MultiPoint_k4 a0 a1 F) g12 = some r0) rfl ?_ ?_
 ·refine AC.sm 1 rfl ?_
  refine AO.op rfl (AOp.ibits (by simp) rfl rfl lb rfl rfl rfl ?_)
  refine AO.op rfl (AOp.ineq rfl rfl lb rfl rfl ?_)
  refine AO.nS ?_
  refine AC.cond rfl (fun q31 => ?_) (fun q31 => ?_)
  ·replace h0 := cT h0 q31
   refine AC.sm 3 rfl ?_
   refine AO.op rfl (AOp.i2i rfl rfl lb rfl Tryz.underlying3 Tryz.underlying36 rfl ?_)
   obtain ⟨y32, q33, h0⟩ := bind_elim h0
   refine AO.op rfl (AOp.callH (hs := [0, 1]) (unp := [1]) (EntersS.call (by kernel_rfl) rfl rfl) (wh_WriteUInt32 a0 (IntKind.u32.wrap y6) y9.1 y9.2 _ q33) lb (.cons (SVLe.refl _) (.cons (SVLe.refl _) (.cons (SVLe.refl _) .nil))) rfl rfl rfl (.cons rfl (.cons rfl .nil)) (.cons ⟨rfl, rfl⟩ (.cons ⟨rfl, rfl⟩ .nil)) rfl (.cons (.inl rfl) (.cons (.inl rfl) (.cons (.inr rfl) .nil))) rfl ?_)
   rintro _ _ ⟨rfl, rfl⟩
   refine ⟨.d (.v (.nilIface)), [.fix 108 [.own 1, .d (di .i64 (0 : Int)), .d (di .i8 y32.1)], .grow 5 1 (List.map keS6 y32.2)], rfl, (.cons rfl (.cons rfl .nil)), ?_⟩
   refine AO.objs (obs' := [.fix 108 [.own 1, .d (di .i64 (0 : Int)), .d (di .i8 y32.1)], .grow 5 1 (List.map keS6 y32.2), .frame pv [(0, .ptr 0 0)]]) rfl ?_
   refine AO.mn 1 rfl ?_
   refine AC.sm 1 rfl ?_
   refine AO.op rfl (AOp.nilNeq rfl rfl lb rfl imeth44 ?_)
   refine AO.nS ?_
   refine AC.condF rfl rfl ?_
   refine AC.skip ?_
   exact ⟨(y32.1, y32.2), _, rfl, (LeL.refl _), rfl, rfl, h0⟩
  replace h0 := cF h0 q31
  refine AC.skip ?_
  exact ⟨(y9.1, y9.2), _, rfl, (LeL.refl _), rfl, rfl, h0⟩
 intro g12 h0
 unfold p_Write_MultiPoint_k4 at h0
 refine AC.smn 1 rfl ?_
 refine AC.block ?_
 refine AC.sr ?_
 refine AO.op rfl (AOp.assertNo rfl rfl lb rfl rfl pass80_67 zero67 ?_)
 refine AO.mn 2 rfl ?_
 refine AC.condF rfl rfl ?_
 refine AC.sr ?_
 refine AO.op rfl (AOp.assertNo rfl rfl lb rfl rfl pass80_70 zero70 ?_)
 refine AO.mn 2 rfl ?_
 refine AC.condF rfl rfl ?_
 refine AC.sr ?_
 refine AO.op rfl (AOp.assertNo rfl rfl lb rfl rfl pass80_76 zero76 ?_)
 refine AO.mn 2 rfl ?_
 refine AC.condF rfl rfl ?_
 refine AC.sr ?_
 refine AO.op rfl (AOp.assertYes rfl rfl lb rfl rfl pass80_80 rfl ?_)
 refine AO.mn 2 rfl ?_
 refine AC.condT rfl rfl ?_
 refine AC.smn 1 rfl ?_
 refine AC.sm 1 rfl ?_
 obtain ⟨y13, q14, h0⟩ := bind_elim h0
 refine AO.op rfl (AOp.callD rfl rfl lb rfl rfl (w_MultiPoint_NumPoints a1 y13 q14) ?_)
 rintro _ rfl
 refine AO.mn 1 rfl ?_
 refine AC.seq ?_
 refine AC.sm 3 rfl ?_
 refine AO.op rfl (AOp.i2i rfl rfl lb rfl Tryz.underlying3 Tryz.underlying36 rfl ?_)
 obtain ⟨y15, q16, h0⟩ := bind_elim h0
 refine AO.op rfl (AOp.callH (hs := [0, 1]) (unp := [1]) (EntersS.call (by kernel_rfl) rfl rfl) (wh_WriteUInt32 a0 (IntKind.u32.wrap y13) g12.1 g12.2 _ q16) lb (.cons (SVLe.refl _) (.cons (SVLe.refl _) (.cons (SVLe.refl _) .nil))) rfl rfl rfl (.cons rfl (.cons rfl .nil)) (.cons ⟨rfl, rfl⟩ (.cons ⟨rfl, rfl⟩ .nil)) rfl (.cons (.inl rfl) (.cons (.inl rfl) (.cons (.inr rfl) .nil))) rfl ?_)
 rintro _ _ ⟨rfl, rfl⟩
 refine ⟨.d (.v (.nilIface)), [.fix 108 [.own 1, .d (di .i64 (0 : Int)), .d (di .i8 y15.1)], .grow 5 1 (List.map keS6 y15.2)], rfl, (.cons rfl (.cons rfl .nil)), ?_⟩
 refine AO.objs (obs' := [.fix 108 [.own 1, .d (di .i64 (0 : Int)), .d (di .i8 y15.1)], .grow 5 1 (List.map keS6 y15.2), .frame pv [(0, .ptr 0 0)]]) rfl ?_
 refine AO.mn 1 rfl ?_
 refine AC.sm 1 rfl ?_
 refine AO.op rfl (AOp.nilNeq rfl rfl lb rfl imeth44 ?_)
 refine AO.nS ?_
 refine AC.condF rfl rfl ?_
 refine AC.skip ?_
 change AC _ _ _ _
 refine AC.seq ?_
 refine AC.smn 2 rfl ?_
 obtain ⟨o18, l19, h0⟩ := bind_elim h0
 refine AC.joinE (V := (Int × (List Int))) [] [] 3 (fun g20 => []) (fun g20 => [.fix 108 [.own 1, .d (di .i64 (0 : Int)), .d (di .i8 g20.1)], .grow 5 1 (List.map keS6 g20.2), .frame pv [(0, .ptr 0 0)]]) (fun g20 => p_Write_MultiPoint_k5 g20 = some r0) rfl ?_ ?_
 ·refine AC.block ?_
  refine AC.loopP (V := (Int × Int × (List Int))) (p_Write_MultiPoint_l6 a0 a1 F y13) o18 [0, 1, 18, 217] [218] 3 (fun g21 => [(218, .d (di .i64 g21.1))]) (fun g21 => [.fix 108 [.own 1, .d (di .i64 (0 : Int)), .d (di .i8 g21.2.1)], .grow 5 1 (List.map keS6 g21.2.2), .frame pv [(0, .ptr 0 0)]]) F ((0 : Int), y15.1, y15.2) l19 rfl rfl (LeL.refl _) rfl rfl ?_
  intro n23 g21 h1
  unfold p_Write_MultiPoint_l6 at h1
  refine AC.sr ?_
  refine AO.op rfl (AOp.ilss rfl rfl lb rfl rfl ?_)
  refine AO.nS ?_
  refine AC.seq ?_
  refine AC.cond rfl (fun q24 => ?_) (fun q24 => ?_)
  ·replace h1 := cT h1 q24
   refine AC.skip ?_
   change AC _ _ _ _
   refine AC.seq ?_
   refine AC.block ?_
   refine AC.smn 2 rfl ?_
   refine AC.sm 4 rfl ?_
   obtain ⟨y25, q26, h1⟩ := bind_elim h1
   refine AO.op rfl (AOp.callD rfl rfl lb rfl rfl (w_MultiPoint_Point a1 g21.1 y25 q26) ?_)
   rintro _ rfl
   refine AO.op rfl (AOp.makeIfc rfl rfl lb rfl conc67 ?_)
   obtain ⟨y27, q28, h1⟩ := bind_elim h1
   refine AO.op rfl (AOp.callH (hs := [0, 1]) (unp := [1]) (EntersS.call (by kernel_rfl) rfl rfl) (wh_Write_Point F a0 y25 g21.2.1 g21.2.2 _ q28) lb (.cons (SVLe.refl _) (.cons (SVLe.refl _) (.cons (SVLe.refl _) .nil))) rfl rfl rfl (.cons rfl (.cons rfl .nil)) (.cons ⟨rfl, rfl⟩ (.cons ⟨rfl, rfl⟩ .nil)) rfl (.cons (.inl rfl) (.cons (.inl rfl) (.cons (.inr rfl) .nil))) rfl ?_)
   rintro _ _ ⟨rfl, rfl⟩
   refine ⟨.d (.v (.nilIface)), [.fix 108 [.own 1, .d (di .i64 (0 : Int)), .d (di .i8 y27.1)], .grow 5 1 (List.map keS6 y27.2)], rfl, (.cons rfl (.cons rfl .nil)), ?_⟩
   refine AO.objs (obs' := [.fix 108 [.own 1, .d (di .i64 (0 : Int)), .d (di .i8 y27.1)], .grow 5 1 (List.map keS6 y27.2), .frame pv [(0, .ptr 0 0)]]) rfl ?_
   refine AO.mn 1 rfl ?_
   refine AC.sm 1 rfl ?_
   refine AO.op rfl (AOp.nilNeq rfl rfl lb rfl imeth44 ?_)
   refine AO.nS ?_
   refine AC.condF rfl rfl ?_
   refine AC.skip ?_
   change AC _ _ _ _
   refine AC.region ?_
   obtain ⟨q30, h1⟩ := need_elim h1
   refine AO.op rfl (AOp.iadd rfl rfl lb rfl rfl rfl q30.1 q30.2 ?_)
   refine AO.mv 1 rfl ?_
   refine AO.nil ?_
   exact ⟨((g21.1 + (1 : Int)), y27.1, y27.2), _, rfl, (LeL.refl _), rfl, rfl, h1⟩
  replace h1 := cF h1 q24
  refine AC.exit ?_
  obtain rfl := Option.some.inj h1
  exact ⟨(g21.2.1, g21.2.2), _, rfl, (LeL.refl _), rfl, rfl, aftL h0⟩
 intro g20 h0
 unfold p_Write_MultiPoint_k5 at h0
 change AC _ _ _ _
 refine AC.smn 1 rfl ?_
 obtain rfl := Option.some.inj h0
 refine AC.ret ?_
 change RetH _ _ _ _ _ _ .ret _
 refine reth (post := [.fix 108 [.own 1, .d (di .i64 (0 : Int)), .d (di .i8 g20.1)], .grow 5 1 (List.map keS6 g20.2)]) rfl rfl rfl rfl rfl ?_
 exact ⟨rfl, rfl⟩

set_option maxRecDepth 100000 in
set_option maxHeartbeats 4000000 in
theorem w_MultiLineString_NumLineStrings (a0 : TGeom_Polygon) (r0 : Int) (h0 : p_MultiLineString_NumLineStrings a0 = some r0) : FnD Tryz.prog 68 [.pt (c_TGeom_Polygon a0)] (fun r => r = di .i64 r0) := by
 refine FnD.of (by kernel_rfl) Tryz.func68 rfl Tryz.ntmps68 rfl (leb rfl) fun W ok => ?_
 unfold p_MultiLineString_NumLineStrings at h0
 refine AC.smn 1 rfl ?_
 refine AC.sm 1 rfl ?_
 refine AO.op rfl (AOp.nilCheck rfl rfl lb rfl rfl ?_)
 refine AO.op rfl (AOp.fieldAddrPt rfl rfl lb rfl fo142_0 ?_)
 refine AO.op rfl (AOp.fieldAddrEp rfl rfl lb rfl fo134_1 ?_)
 refine AO.op rfl (AOp.loadEp rfl rfl lb rfl agg23 rfl ?_)
 refine AO.op rfl (AOp.lenDs (n := a0.geom2.ends.length) (cells := (List.map keS2 a0.geom2.ends)) rfl rfl lb rfl el23 (by decide) (len1 _ _) ?_)
 refine AO.mn 1 rfl ?_
 refine AC.ret ?_
 change RetQ _ _ _ .ret _
 obtain rfl := Option.some.inj h0
 refine retq rfl rfl

set_option maxRecDepth 100000 in
set_option maxHeartbeats 4000000 in
theorem w_NewLineString (a0 : Int) (r0 : TGeom_LineString) (h0 : p_NewLineString a0 = some r0) : FnD Tryz.prog 83 [di .i64 a0] (fun r => r = .pt (c_TGeom_LineString r0)) := by
 refine FnD.of (by kernel_rfl) Tryz.func83 rfl Tryz.ntmps83 rfl (leb rfl) fun W ok => ?_
 unfold p_NewLineString at h0
 refine AC.smn 1 rfl ?_
 refine AC.sm 1 rfl ?_
 obtain ⟨y1, q2, h0⟩ := bind_elim h0
 refine AO.op rfl (AOp.callA rfl rfl lb rfl rfl ((wa_NewLineStringFlat a0 [] y1 q2).nils (.cons (.nils .nil))) ?_)
 refine AO.mn 1 rfl ?_
 refine AC.ret ?_
 change RetQ _ _ _ .ret _
 obtain rfl := Option.some.inj h0
 refine retq rfl rfl

set_option maxRecDepth 100000 in
set_option maxHeartbeats 4000000 in
theorem w_MultiLineString_LineString (a0 : TGeom_Polygon) (a1 : Int) (r0 : TGeom_LineString) (h0 : p_MultiLineString_LineString a0 a1 = some r0) : FnD Tryz.prog 69 [.pt (c_TGeom_Polygon a0), di .i64 a1] (fun r => r = .pt (c_TGeom_LineString r0)) := by
 refine FnD.of (by kernel_rfl) Tryz.func69 rfl Tryz.ntmps69 rfl (leb rfl) fun W ok => ?_
 unfold p_MultiLineString_LineString at h0
 refine AC.smn 1 rfl ?_
 refine AC.smn 1 rfl ?_
 refine AC.joinP (V := Int) [0, 1] [5] 0 (fun g1 => [(5, .d (di .i64 g1))]) (fun g1 => []) (fun g1 => (p_MultiLineString_LineString_k1 a0 a1) g1 = some r0) rfl ?_ ?_
 ·refine AC.sm 1 rfl ?_
  refine AO.op rfl (AOp.igtr rfl rfl lb rfl rfl ?_)
  refine AO.nS ?_
  refine AC.cond rfl (fun q12 => ?_) (fun q12 => ?_)
  ·replace h0 := cT h0 q12
   refine AC.region ?_
   refine AO.mv 1 rfl ?_
   refine AO.op rfl (AOp.nilCheck rfl rfl lb rfl rfl ?_)
   refine AO.op rfl (AOp.fieldAddrPt rfl rfl lb rfl fo142_0 ?_)
   refine AO.op rfl (AOp.fieldAddrEp rfl rfl lb rfl fo134_1 ?_)
   refine AO.op rfl (AOp.loadEp rfl rfl lb rfl agg23 rfl ?_)
   refine AO.mv 1 rfl ?_
   obtain ⟨q13, h0⟩ := need_elim h0
   refine AO.op rfl (AOp.isub rfl rfl lb rfl rfl rfl q13.1 q13.2 ?_)
   obtain ⟨x14, q15, h0⟩ := idx_elim h0
   refine AO.op rfl (AOp.indexDs (cells := (List.map keS2 a0.geom2.ends)) rfl rfl lb rfl rfl el23 (by decide) q15.1 (lt1 q15.2) ?_)
   refine AO.op rfl (AOp.loadEp rfl rfl lb rfl agg3 (at1 q15.2) ?_)
   refine AO.mv 1 rfl ?_
   refine AO.nil ?_
   exact ⟨x14, _, rfl, (LeL.refl _), rfl, rfl, h0⟩
  replace h0 := cF h0 q12
  refine AC.skip ?_
  exact ⟨(0 : Int), _, rfl, (LeL.refl _), rfl, rfl, h0⟩
 intro g1 h0
 unfold p_MultiLineString_LineString_k1 at h0
 refine AC.seq ?_
 refine AC.sm 2 rfl ?_
 refine AO.op rfl (AOp.nilCheck rfl rfl lb rfl rfl ?_)
 refine AO.op rfl (AOp.fieldAddrPt rfl rfl lb rfl fo142_0 ?_)
 refine AO.op rfl (AOp.fieldAddrEp rfl rfl lb rfl fo134_1 ?_)
 refine AO.op rfl (AOp.loadEp rfl rfl lb rfl agg23 rfl ?_)
 refine AO.mv 1 rfl ?_
 obtain ⟨x2, q3, h0⟩ := idx_elim h0
 refine AO.op rfl (AOp.indexDs (cells := (List.map keS2 a0.geom2.ends)) rfl rfl lb rfl rfl el23 (by decide) q3.1 (lt1 q3.2) ?_)
 refine AO.op rfl (AOp.loadEp rfl rfl lb rfl agg3 (at1 q3.2) ?_)
 refine AO.op rfl (AOp.ieql rfl rfl lb rfl rfl ?_)
 refine AO.nS ?_
 refine AC.cond rfl (fun q4 => ?_) (fun q4 => ?_)
 ·replace h0 := cT h0 q4
  refine AC.sm 1 rfl ?_
  refine AO.op rfl (AOp.nilCheck rfl rfl lb rfl rfl ?_)
  refine AO.op rfl (AOp.fieldAddrPt rfl rfl lb rfl fo142_0 ?_)
  refine AO.op rfl (AOp.fieldAddrEp rfl rfl lb rfl fo134_0 ?_)
  refine AO.op rfl (AOp.fieldAddrEp rfl rfl lb rfl fo129_0 ?_)
  refine AO.op rfl (AOp.fieldAddrEp rfl rfl lb rfl fo122_0 ?_)
  refine AO.op rfl (AOp.loadEp rfl rfl lb rfl agg65 rfl ?_)
  obtain ⟨y5, q6, h0⟩ := bind_elim h0
  refine AO.op rfl (AOp.callD rfl rfl lb rfl rfl (w_NewLineString a0.geom2.geom1.geom0.layout y5 q6) ?_)
  rintro _ rfl
  refine AO.mn 1 rfl ?_
  refine AC.ret ?_
  change RetQ _ _ _ .ret _
  obtain rfl := Option.some.inj h0
  refine retq rfl rfl
 replace h0 := cF h0 q4
 refine AC.skip ?_
 change AC _ _ _ _
 refine AC.seq ?_
 obtain ⟨x7, q8, h0⟩ := idx_elim h0
 obtain ⟨q9, h0⟩ := need_elim h0
 refine AC.drawS [0, 1, 2, 3, 4, 5, 6, 7, 8, 9, 10, 11, 12, 13, 14, 15, 16, 17, 18, 19, 20, 21, 22, 23] [] [24, 25] (fun L => []) [] mixed (by kernel_rfl) (fun _ _ _ => rfl) rfl ?_
 refine AS.op [0] [] [] [] rfl rfl rfl (by kernel_rfl) (by kernel_rfl) rfl rfl (fun _ _ _ h => AOp.move rfl rfl lb rfl h) (by kernel_rfl) ?_
 refine AS.op [35] [] [] [] rfl rfl rfl (by kernel_rfl) (by kernel_rfl) rfl rfl (fun _ _ _ h => AOp.nilCheck rfl rfl lb rfl rfl h) (by kernel_rfl) ?_
 refine AS.op [36] [] [] [] rfl rfl rfl (by kernel_rfl) (by kernel_rfl) rfl rfl (fun _ _ _ h => AOp.fieldAddrPt rfl rfl lb rfl fo142_0 h) (by kernel_rfl) ?_
 refine AS.op [37] [] [] [] rfl rfl rfl (by kernel_rfl) (by kernel_rfl) rfl rfl (fun _ _ _ h => AOp.fieldAddrEp rfl rfl lb rfl fo134_0 h) (by kernel_rfl) ?_
 refine AS.op [38] [] [] [] rfl rfl rfl (by kernel_rfl) (by kernel_rfl) rfl rfl (fun _ _ _ h => AOp.fieldAddrEp rfl rfl lb rfl fo129_0 h) (by kernel_rfl) ?_
 refine AS.op [39] [] [] [] rfl rfl rfl (by kernel_rfl) (by kernel_rfl) rfl rfl (fun _ _ _ h => AOp.fieldAddrEp rfl rfl lb rfl fo122_0 h) (by kernel_rfl) ?_
 refine AS.op [40] [] [] [] rfl rfl rfl (by kernel_rfl) (by kernel_rfl) rfl rfl (fun _ _ _ h => AOp.loadEp rfl rfl lb rfl agg65 rfl h) (by kernel_rfl) ?_
 refine AS.op [0] [] [] [] rfl rfl rfl (by kernel_rfl) (by kernel_rfl) rfl rfl (fun _ _ _ h => AOp.move rfl rfl lb rfl h) (by kernel_rfl) ?_
 refine AS.op [42] [] [] [] rfl rfl rfl (by kernel_rfl) (by kernel_rfl) rfl rfl (fun _ _ _ h => AOp.nilCheck rfl rfl lb rfl rfl h) (by kernel_rfl) ?_
 refine AS.op [43] [] [] [] rfl rfl rfl (by kernel_rfl) (by kernel_rfl) rfl rfl (fun _ _ _ h => AOp.fieldAddrPt rfl rfl lb rfl fo142_0 h) (by kernel_rfl) ?_
 refine AS.op [44] [] [] [] rfl rfl rfl (by kernel_rfl) (by kernel_rfl) rfl rfl (fun _ _ _ h => AOp.fieldAddrEp rfl rfl lb rfl fo134_0 h) (by kernel_rfl) ?_
 refine AS.op [45] [] [] [] rfl rfl rfl (by kernel_rfl) (by kernel_rfl) rfl rfl (fun _ _ _ h => AOp.fieldAddrEp rfl rfl lb rfl fo129_0 h) (by kernel_rfl) ?_
 refine AS.op [46] [] [] [] rfl rfl rfl (by kernel_rfl) (by kernel_rfl) rfl rfl (fun _ _ _ h => AOp.fieldAddrEp rfl rfl lb rfl fo122_2 h) (by kernel_rfl) ?_
 refine AS.op [47] [] [] [] rfl rfl rfl (by kernel_rfl) (by kernel_rfl) rfl rfl (fun _ _ _ h => AOp.loadEp rfl rfl lb rfl agg22 rfl h) (by kernel_rfl) ?_
 refine AS.op [5] [] [] [] rfl rfl rfl (by kernel_rfl) (by kernel_rfl) rfl rfl (fun _ _ _ h => AOp.move rfl rfl lb rfl h) (by kernel_rfl) ?_
 refine AS.op [0] [] [] [] rfl rfl rfl (by kernel_rfl) (by kernel_rfl) rfl rfl (fun _ _ _ h => AOp.move rfl rfl lb rfl h) (by kernel_rfl) ?_
 refine AS.op [50] [] [] [] rfl rfl rfl (by kernel_rfl) (by kernel_rfl) rfl rfl (fun _ _ _ h => AOp.nilCheck rfl rfl lb rfl rfl h) (by kernel_rfl) ?_
 refine AS.op [51] [] [] [] rfl rfl rfl (by kernel_rfl) (by kernel_rfl) rfl rfl (fun _ _ _ h => AOp.fieldAddrPt rfl rfl lb rfl fo142_0 h) (by kernel_rfl) ?_
 refine AS.op [52] [] [] [] rfl rfl rfl (by kernel_rfl) (by kernel_rfl) rfl rfl (fun _ _ _ h => AOp.fieldAddrEp rfl rfl lb rfl fo134_1 h) (by kernel_rfl) ?_
 refine AS.op [53] [] [] [] rfl rfl rfl (by kernel_rfl) (by kernel_rfl) rfl rfl (fun _ _ _ h => AOp.loadEp rfl rfl lb rfl agg23 rfl h) (by kernel_rfl) ?_
 refine AS.op [1] [] [] [] rfl rfl rfl (by kernel_rfl) (by kernel_rfl) rfl rfl (fun _ _ _ h => AOp.move rfl rfl lb rfl h) (by kernel_rfl) ?_
 refine AS.op [54, 55] [] [] [] rfl rfl rfl (by kernel_rfl) (by kernel_rfl) rfl rfl (fun _ _ _ h => AOp.indexDs (cells := (List.map keS2 a0.geom2.ends)) rfl rfl lb rfl rfl el23 (by decide) q8.1 (lt1 q8.2) h) (by kernel_rfl) ?_
 refine AS.op [56] [] [] [] rfl rfl rfl (by kernel_rfl) (by kernel_rfl) rfl rfl (fun _ _ _ h => AOp.loadEp rfl rfl lb rfl agg3 (at1 q8.2) h) (by kernel_rfl) ?_
 refine AS.op [48, 49, 57] [] [] [] rfl rfl rfl (by kernel_rfl) (by kernel_rfl) rfl rfl (fun _ _ _ h => AOp.sliceD (cells := (List.map keS1 a0.geom2.geom1.geom0.flatCoords)) (n := a0.geom2.geom1.geom0.flatCoords.length) (l := (g1).toNat) (hh := (x7).toNat) rfl rfl lb rfl (.inr ⟨_, _, _, rfl, rfl, q9.1.1, rfl⟩) (.inr ⟨_, _, _, rfl, rfl, q9.1.2, rfl⟩) el22 (by decide) (len1 _ _) q9.2.1 q9.2.2 (sub1 _ _ _ _) h) (by kernel_rfl) ?_
 refine AS.done ?_
 refine AO.objs (obs' := []) rfl ?_
 obtain ⟨y10, q11, h0⟩ := bind_elim h0
 refine AO.op rfl (AOp.callA rfl rfl lb rfl rfl (wa_NewLineStringFlat a0.geom2.geom1.geom0.layout ((a0.geom2.geom1.geom0.flatCoords.drop (g1).toNat).take ((x7).toNat - (g1).toNat)) y10 q11) ?_)
 refine AO.mv 1 rfl ?_
 refine AO.nil (?_ : AC _ _ _ _)
 refine AC.ret ?_
 change RetQ _ _ _ .ret _
 obtain rfl := Option.some.inj h0
 refine retq rfl rfl

def RH_Write_MultiLineString : (Int × (List Int)) → SV → List Ob → Prop
 | z => fun r post => r = .d (.v (.nilIface)) ∧ post = [.fix 108 [.own 1, .d (di .i64 (0 : Int)), .d (di .i8 z.1)], .grow 5 1 (List.map keS6 z.2)]
set_option maxRecDepth 100000 in
set_option maxHeartbeats 4000000 in
theorem wh_Write_MultiLineString (F : Nat) (a0 : Bool) (a1 : TGeom_Polygon) (b0 : Int) (b1 : (List Int)) (r0 : (Int × (List Int))) (h0 : p_Write_MultiLineString F a0 a1 b0 b1 = some r0) : FnH Tryz.prog 27 [.ifc 61 (.ptr 0 0), .d (.ifc (bif a0 then 99 else 100) (.ag [])), .ifc 86 (.d (.pt (c_TGeom_Polygon a1)))] [.fix 108 [.own 1, .d (di .i64 (0 : Int)), .d (di .i8 b0)], .grow 5 1 (List.map keS6 b1)] [0] (RH_Write_MultiLineString r0) := by
 refine FnH.of (by kernel_rfl) Tryz.func27 rfl Tryz.ntmps27 rfl (leb rfl) fun W ok may pv => ?_
 unfold p_Write_MultiLineString at h0
 refine AC.smn 1 rfl ?_
 refine AC.smn 1 rfl ?_
 refine AC.joinP (V := Int) [0, 1, 2] [7] 3 (fun g1 => [(7, .d (di .u8 g1))]) (fun g1 => [.fix 108 [.own 1, .d (di .i64 (0 : Int)), .d (di .i8 b0)], .grow 5 1 (List.map keS6 b1), .frame pv [(0, .ptr 0 0), (1, .own 1)]]) (fun g1 => (p_Write_MultiLineString_k1 a0 a1 b0 b1 F) g1 = some r0) rfl ?_ ?_
 ·refine AC.smn 1 rfl ?_
  refine AC.block ?_
  refine AC.sr ?_
  refine AO.op rfl (AOp.loadG0 rfl rfl lb agg99 size99 ?_)
  refine AO.op rfl (AOp.makeIfc rfl rfl lb rfl conc99 ?_)
  refine AO.op rfl (AOp.ifcEqT rfl rfl lb rfl rfl rfl rfl rfl cmpS99 imeth51 ?_)
  refine AO.mn 1 rfl ?_
  refine AC.cond rfl (fun q43 => ?_) (fun q43 => ?_)
  ·replace h0 := cT h0 q43
   refine AC.region ?_
   refine AO.mv 1 rfl ?_
   refine AO.nil ?_
   exact ⟨(0 : Int), _, rfl, (LeL.refl _), rfl, rfl, h0⟩
  replace h0 := cF h0 q43
  refine AC.sr ?_
  refine AO.op rfl (AOp.loadG0 rfl rfl lb agg100 size100 ?_)
  refine AO.op rfl (AOp.makeIfc rfl rfl lb rfl conc100 ?_)
  refine AO.op rfl (AOp.ifcEqF rfl rfl lb rfl rfl rfl rfl rfl cmpS100 imeth51 ?_)
  refine AO.mn 1 rfl ?_
  refine AC.cond rfl (fun q44 => ?_) (fun q44 => ?_)
  ·replace h0 := cT h0 q44
   refine AC.region ?_
   refine AO.mv 1 rfl ?_
   refine AO.nil ?_
   exact ⟨(1 : Int), _, rfl, (LeL.refl _), rfl, rfl, h0⟩
  replace h0 := cF h0 q44
  cases h0
 intro g1 h0
 unfold p_Write_MultiLineString_k1 at h0
 refine AC.seq ?_
 refine AC.sm 2 rfl ?_
 refine AO.subF 2 [0] rfl rfl ?_
 obtain ⟨y2, q3, h0⟩ := bind_elim h0
 refine AO.op rfl (AOp.callH (hs := [0, 1]) (unp := [1]) (EntersS.call (by kernel_rfl) rfl rfl) (wh_WriteByte g1 b0 b1 _ q3) lb (.cons (SVLe.refl _) (.cons (SVLe.refl _) .nil)) rfl rfl rfl (.cons rfl (.cons rfl .nil)) (.cons ⟨rfl, rfl⟩ (.cons ⟨rfl, rfl⟩ .nil)) rfl (.cons (.inl rfl) (.cons (.inl rfl) (.cons (.inr rfl) .nil))) rfl ?_)
 rintro _ _ ⟨rfl, rfl⟩
 refine ⟨.d (.v (.nilIface)), [.fix 108 [.own 1, .d (di .i64 (0 : Int)), .d (di .i8 y2.1)], .grow 5 1 (List.map keS6 y2.2)], rfl, (.cons rfl (.cons rfl .nil)), ?_⟩
 refine AO.objs (obs' := [.fix 108 [.own 1, .d (di .i64 (0 : Int)), .d (di .i8 y2.1)], .grow 5 1 (List.map keS6 y2.2), .frame pv [(0, .ptr 0 0)]]) rfl ?_
 refine AO.mn 1 rfl ?_
 refine AC.sm 1 rfl ?_
 refine AO.op rfl (AOp.nilNeq rfl rfl lb rfl imeth44 ?_)
 refine AO.nS ?_
 refine AC.condF rfl rfl ?_
 refine AC.skip ?_
 change AC _ _ _ _
 refine AC.smn 1 rfl ?_
 refine AC.seq ?_
 refine AC.smn 1 rfl ?_
 refine AC.block ?_
 refine AC.sr ?_
 refine AO.op rfl (AOp.assertNo rfl rfl lb rfl rfl pass86_67 zero67 ?_)
 refine AO.mn 2 rfl ?_
 refine AC.condF rfl rfl ?_
 refine AC.sr ?_
 refine AO.op rfl (AOp.assertNo rfl rfl lb rfl rfl pass86_70 zero70 ?_)
 refine AO.mn 2 rfl ?_
 refine AC.condF rfl rfl ?_
 refine AC.sr ?_
 refine AO.op rfl (AOp.assertNo rfl rfl lb rfl rfl pass86_76 zero76 ?_)
 refine AO.mn 2 rfl ?_
 refine AC.condF rfl rfl ?_
 refine AC.sr ?_
 refine AO.op rfl (AOp.assertNo rfl rfl lb rfl rfl pass86_80 zero80 ?_)
 refine AO.mn 2 rfl ?_
 refine AC.condF rfl rfl ?_
 refine AC.sr ?_
 refine AO.op rfl (AOp.assertYes rfl rfl lb rfl rfl pass86_86 rfl ?_)
 refine AO.mn 2 rfl ?_
 refine AC.condT rfl rfl ?_
 refine AC.region ?_
 refine AO.mv 1 rfl ?_
 refine AO.nil (?_ : AC _ _ _ _)
 refine AC.joinP (V := Int) [0, 1, 2] [9] 3 (fun g5 => [(9, .d (di .u32 g5))]) (fun g5 => [.fix 108 [.own 1, .d (di .i64 (0 : Int)), .d (di .i8 y2.1)], .grow 5 1 (List.map keS6 y2.2), .frame pv [(0, .ptr 0 0)]]) (fun g5 => (p_Write_MultiLineString_k2 a0 a1 F y2) g5 = some r0) rfl ?_ ?_
 ·refine AC.sm 1 rfl ?_
  obtain ⟨y36, q37, h0⟩ := bind_elim h0
  refine AO.op rfl (AOp.callE ((EntersS.meth (by kernel_rfl) rfl rfl rfl meth86_Layout rfl rfl).le (.cons (SVLe.epPt (n := 4) rfl) .nil)) rfl lb rfl rfl (w_geom0_Layout a1.geom2.geom1.geom0 y36 q37) ?_)
  rintro _ rfl
  refine AO.nS ?_
  refine AC.block ?_
  refine AC.sr ?_
  refine AO.op rfl (AOp.ieql rfl rfl lb rfl rfl ?_)
  refine AO.mn 1 rfl ?_
  refine AC.cond rfl (fun q38 => ?_) (fun q38 => ?_)
  ·replace h0 := cT h0 q38
   refine AC.sm 1 rfl ?_
   refine AO.op rfl (AOp.assertNo rfl rfl lb rfl rfl pass86_93 zero93 ?_)
   refine AO.mn 5 rfl ?_
   refine AC.sm 1 rfl ?_
   refine AO.op rfl (AOp.bnot rfl rfl lb rfl ?_)
   refine AO.mv 1 rfl ?_
   refine AO.guardN rfl rfl rfl lb rfl rfl ?_
   refine AO.guardN rfl rfl rfl lb rfl rfl ?_
   refine AO.guardN rfl rfl rfl lb rfl rfl ?_
   refine AO.op rfl (AOp.pick rfl rfl lb rfl rfl rfl ?_)
   refine AO.nS ?_
   cases h0
  replace h0 := cF h0 q38
  refine AC.sr ?_
  refine AO.op rfl (AOp.ieql rfl rfl lb rfl rfl ?_)
  refine AO.mn 1 rfl ?_
  refine AC.cond rfl (fun q39 => ?_) (fun q39 => ?_)
  ·replace h0 := cT h0 q39
   refine AC.skip ?_
   exact ⟨(5 : Int), _, rfl, (LeL.refl _), rfl, rfl, h0⟩
  replace h0 := cF h0 q39
  refine AC.sr ?_
  refine AO.op rfl (AOp.ieql rfl rfl lb rfl rfl ?_)
  refine AO.mn 1 rfl ?_
  refine AC.cond rfl (fun q40 => ?_) (fun q40 => ?_)
  ·replace h0 := cT h0 q40
   refine AC.region ?_
   refine AO.mv 1 rfl ?_
   refine AO.op rfl (AOp.ibits (by simp) rfl rfl lb rfl rfl rfl ?_)
   refine AO.mv 1 rfl ?_
   refine AO.nil ?_
   exact ⟨(bits .or .u32 (5 : Int) (2147483648 : Int)), _, rfl, (LeL.refl _), rfl, rfl, h0⟩
  replace h0 := cF h0 q40
  refine AC.sr ?_
  refine AO.op rfl (AOp.ieql rfl rfl lb rfl rfl ?_)
  refine AO.mn 1 rfl ?_
  refine AC.cond rfl (fun q41 => ?_) (fun q41 => ?_)
  ·replace h0 := cT h0 q41
   refine AC.region ?_
   refine AO.mv 1 rfl ?_
   refine AO.op rfl (AOp.ibits (by simp) rfl rfl lb rfl rfl rfl ?_)
   refine AO.mv 1 rfl ?_
   refine AO.nil ?_
   exact ⟨(bits .or .u32 (5 : Int) (1073741824 : Int)), _, rfl, (LeL.refl _), rfl, rfl, h0⟩
  replace h0 := cF h0 q41
  refine AC.sr ?_
  refine AO.op rfl (AOp.ieql rfl rfl lb rfl rfl ?_)
  refine AO.mn 1 rfl ?_
  refine AC.cond rfl (fun q42 => ?_) (fun q42 => ?_)
  ·replace h0 := cT h0 q42
   refine AC.region ?_
   refine AO.mv 1 rfl ?_
   refine AO.op rfl (AOp.ibits (by simp) rfl rfl lb rfl rfl rfl ?_)
   refine AO.mv 1 rfl ?_
   refine AO.nil ?_
   exact ⟨(bits .or .u32 (5 : Int) (3221225472 : Int)), _, rfl, (LeL.refl _), rfl, rfl, h0⟩
  replace h0 := cF h0 q42
  cases h0
 intro g5 h0
 unfold p_Write_MultiLineString_k2 at h0
 refine AC.sm 1 rfl ?_
 obtain ⟨y6, q7, h0⟩ := bind_elim h0
 refine AO.op rfl (AOp.callE ((EntersS.meth (by kernel_rfl) rfl rfl rfl meth86_SRID rfl rfl).le (.cons (SVLe.epPt (n := 4) rfl) .nil)) rfl lb rfl rfl (w_geom0_SRID a1.geom2.geom1.geom0 y6 q7) ?_)
 rintro _ rfl
 refine AO.mn 1 rfl ?_
 refine AC.joinP (V := Int) [0, 1, 2, 12] [9] 3 (fun g8 => [(9, .d (di .u32 g8))]) (fun g8 => [.fix 108 [.own 1, .d (di .i64 (0 : Int)), .d (di .i8 y2.1)], .grow 5 1 (List.map keS6 y2.2), .frame pv [(0, .ptr 0 0)]]) (fun g8 => (p_Write_MultiLineString_k3 a0 a1 F y2 y6) g8 = some r0) rfl ?_ ?_
 ·refine AC.sm 1 rfl ?_
  refine AO.op rfl (AOp.ineq rfl rfl lb rfl rfl ?_)
  refine AO.nS ?_
  refine AC.cond rfl (fun q35 => ?_) (fun q35 => ?_)
  ·replace h0 := cT h0 q35
   refine AC.region ?_
   refine AO.mv 1 rfl ?_
   refine AO.op rfl (AOp.ibits (by simp) rfl rfl lb rfl rfl rfl ?_)
   refine AO.mv 1 rfl ?_
   refine AO.nil ?_
   exact ⟨(bits .or .u32 g5 (536870912 : Int)), _, rfl, (LeL.refl _), rfl, rfl, h0⟩
  replace h0 := cF h0 q35
  refine AC.skip ?_
  exact ⟨g5, _, rfl, (LeL.refl _), rfl, rfl, h0⟩
 intro g8 h0
 unfold p_Write_MultiLineString_k3 at h0
 refine AC.seq ?_
 refine AC.sm 3 rfl ?_
 obtain ⟨y9, q10, h0⟩ := bind_elim h0
 refine AO.op rfl (AOp.callH (hs := [0, 1]) (unp := [1]) (EntersS.call (by kernel_rfl) rfl rfl) (wh_WriteUInt32 a0 g8 y2.1 y2.2 _ q10) lb (.cons (SVLe.refl _) (.cons (SVLe.refl _) (.cons (SVLe.refl _) .nil))) rfl rfl rfl (.cons rfl (.cons rfl .nil)) (.cons ⟨rfl, rfl⟩ (.cons ⟨rfl, rfl⟩ .nil)) rfl (.cons (.inl rfl) (.cons (.inl rfl) (.cons (.inr rfl) .nil))) rfl ?_)
 rintro _ _ ⟨rfl, rfl⟩
 refine ⟨.d (.v (.nilIface)), [.fix 108 [.own 1, .d (di .i64 (0 : Int)), .d (di .i8 y9.1)], .grow 5 1 (List.map keS6 y9.2)], rfl, (.cons rfl (.cons rfl .nil)), ?_⟩
 refine AO.objs (obs' := [.fix 108 [.own 1, .d (di .i64 (0 : Int)), .d (di .i8 y9.1)], .grow 5 1 (List.map keS6 y9.2), .frame pv [(0, .ptr 0 0)]]) rfl ?_
 refine AO.mn 1 rfl ?_
 refine AC.sm 1 rfl ?_
 refine AO.op rfl (AOp.nilNeq rfl rfl lb rfl imeth44 ?_)
 refine AO.nS ?_
 refine AC.condF rfl rfl ?_
 refine AC.skip ?_
 change AC _ _ _ _
 refine AC.joinP (V := (Int × (List Int))) [0, 1, 2] [] 3 (fun g12 => []) (fun g12 => [.fix 108 [.own 1, .d (di .i64 (0 : Int)), .d (di .i8 g12.1)], .grow 5 1 (List.map keS6 g12.2), .frame pv [(0, .ptr 0 0)]]) (fun g12 => (p_Write_MultiLineString_k4 a0 a1 F) g12 = some r0) rfl ?_ ?_
 ·refine AC.sm 1 rfl ?_
  refine AO.op rfl (AOp.ibits (by simp) rfl rfl lb rfl rfl rfl ?_)
  refine AO.op rfl (AOp.ineq rfl rfl lb rfl rfl ?_)
  refine AO.nS ?_
  refine AC.cond rfl (fun q31 => ?_) (fun q31 => ?_)
  ·replace h0 := cT h0 q31
   refine AC.sm 3 rfl ?_
   refine AO.op rfl (AOp.i2i rfl rfl lb rfl Tryz.underlying3 Tryz.underlying36 rfl ?_)
   obtain ⟨y32, q33, h0⟩ := bind_elim h0
   refine AO.op rfl (AOp.callH (hs := [0, 1]) (unp := [1]) (EntersS.call (by kernel_rfl) rfl rfl) (wh_WriteUInt32 a0 (IntKind.u32.wrap y6) y9.1 y9.2 _ q33) lb (.cons (SVLe.refl _) (.cons (SVLe.refl _) (.cons (SVLe.refl _) .nil))) rfl rfl rfl (.cons rfl (.cons rfl .nil)) (.cons ⟨rfl, rfl⟩ (.cons ⟨rfl, rfl⟩ .nil)) rfl (.cons (.inl rfl) (.cons (.inl rfl) (.cons (.inr rfl) .nil))) rfl ?_)
   rintro _ _ ⟨rfl, rfl⟩
   refine ⟨.d (.v (.nilIface)), [.fix 108 [.own 1, .d (di .i64 (0 : Int)), .d (di .i8 y32.1)], .grow 5 1 (List.map keS6 y32.2)], rfl, (.cons rfl (.cons rfl .nil)), ?_⟩
   refine AO.objs (obs' := [.fix 108 [.own 1, .d (di .i64 (0 : Int)), .d (di .i8 y32.1)], .grow 5 1 (List.map keS6 y32.2), .frame pv [(0, .ptr 0 0)]]) rfl ?_
   refine AO.mn 1 rfl ?_
   refine AC.sm 1 rfl ?_
   refine AO.op rfl (AOp.nilNeq rfl rfl lb rfl imeth44 ?_)
   refine AO.nS ?_
   refine AC.condF rfl rfl ?_
   refine AC.skip ?_
   exact ⟨(y32.1, y32.2), _, rfl, (LeL.refl _), rfl, rfl, h0⟩
  replace h0 := cF h0 q31
  refine AC.skip ?_
  exact ⟨(y9.1, y9.2), _, rfl, (LeL.refl _), rfl, rfl, h0⟩
 intro g12 h0
 unfold p_Write_MultiLineString_k4 at h0
 refine AC.smn 1 rfl ?_
 refine AC.block ?_
 refine AC.sr ?_
 refine AO.op rfl (AOp.assertNo rfl rfl lb rfl rfl pass86_67 zero67 ?_)
 refine AO.mn 2 rfl ?_
 refine AC.condF rfl rfl ?_
 refine AC.sr ?_
 refine AO.op rfl (AOp.assertNo rfl rfl lb rfl rfl pass86_70 zero70 ?_)
 refine AO.mn 2 rfl ?_
 refine AC.condF rfl rfl ?_
 refine AC.sr ?_
 refine AO.op rfl (AOp.assertNo rfl rfl lb rfl rfl pass86_76 zero76 ?_)
 refine AO.mn 2 rfl ?_
 refine AC.condF rfl rfl ?_
 refine AC.sr ?_
 refine AO.op rfl (AOp.assertNo rfl rfl lb rfl rfl pass86_80 zero80 ?_)
 refine AO.mn 2 rfl ?_
 refine AC.condF rfl rfl ?_
 refine AC.sr ?_
 refine AO.op rfl (AOp.assertYes rfl rfl lb rfl rfl pass86_86 rfl ?_)
 refine AO.mn 2 rfl ?_
 refine AC.condT rfl rfl ?_
 refine AC.smn 1 rfl ?_
 refine AC.sm 1 rfl ?_
 obtain ⟨y13, q14, h0⟩ := bind_elim h0
 refine AO.op rfl (AOp.callD rfl rfl lb rfl rfl (w_MultiLineString_NumLineStrings a1 y13 q14) ?_)
 rintro _ rfl
 refine AO.mn 1 rfl ?_
 refine AC.seq ?_
 refine AC.sm 3 rfl ?_
 refine AO.op rfl (AOp.i2i rfl rfl lb rfl Tryz.underlying3 Tryz.underlying36 rfl ?_)
 obtain ⟨y15, q16, h0⟩ := bind_elim h0
 refine AO.op rfl (AOp.callH (hs := [0, 1]) (unp := [1]) (EntersS.call (by kernel_rfl) rfl rfl) (wh_WriteUInt32 a0 (IntKind.u32.wrap y13) g12.1 g12.2 _ q16) lb (.cons (SVLe.refl _) (.cons (SVLe.refl _) (.cons (SVLe.refl _) .nil))) rfl rfl rfl (.cons rfl (.cons rfl .nil)) (.cons ⟨rfl, rfl⟩ (.cons ⟨rfl, rfl⟩ .nil)) rfl (.cons (.inl rfl) (.cons (.inl rfl) (.cons (.inr rfl) .nil))) rfl ?_)
 rintro _ _ ⟨rfl, rfl⟩
 refine ⟨.d (.v (.nilIface)), [.fix 108 [.own 1, .d (di .i64 (0 : Int)), .d (di .i8 y15.1)], .grow 5 1 (List.map keS6 y15.2)], rfl, (.cons rfl (.cons rfl .nil)), ?_⟩
 refine AO.objs (obs' := [.fix 108 [.own 1, .d (di .i64 (0 : Int)), .d (di .i8 y15.1)], .grow 5 1 (List.map keS6 y15.2), .frame pv [(0, .ptr 0 0)]]) rfl ?_
 refine AO.mn 1 rfl ?_
 refine AC.sm 1 rfl ?_
 refine AO.op rfl (AOp.nilNeq rfl rfl lb rfl imeth44 ?_)
 refine AO.nS ?_
 refine AC.condF rfl rfl ?_
 refine AC.skip ?_
 change AC _ _ _ _
 refine AC.seq ?_
 refine AC.smn 2 rfl ?_
 obtain ⟨o18, l19, h0⟩ := bind_elim h0
 refine AC.joinE (V := (Int × (List Int))) [] [] 3 (fun g20 => []) (fun g20 => [.fix 108 [.own 1, .d (di .i64 (0 : Int)), .d (di .i8 g20.1)], .grow 5 1 (List.map keS6 g20.2), .frame pv [(0, .ptr 0 0)]]) (fun g20 => p_Write_MultiLineString_k5 g20 = some r0) rfl ?_ ?_
 ·refine AC.block ?_
  refine AC.loopP (V := (Int × Int × (List Int))) (p_Write_MultiLineString_l6 a0 a1 F y13) o18 [0, 1, 23, 245] [246] 3 (fun g21 => [(246, .d (di .i64 g21.1))]) (fun g21 => [.fix 108 [.own 1, .d (di .i64 (0 : Int)), .d (di .i8 g21.2.1)], .grow 5 1 (List.map keS6 g21.2.2), .frame pv [(0, .ptr 0 0)]]) F ((0 : Int), y15.1, y15.2) l19 rfl rfl (LeL.refl _) rfl rfl ?_
  intro n23 g21 h1
  unfold p_Write_MultiLineString_l6 at h1
  refine AC.sr ?_
  refine AO.op rfl (AOp.ilss rfl rfl lb rfl rfl ?_)
  refine AO.nS ?_
  refine AC.seq ?_
  refine AC.cond rfl (fun q24 => ?_) (fun q24 => ?_)
  ·replace h1 := cT h1 q24
   refine AC.skip ?_
   change AC _ _ _ _
   refine AC.seq ?_
   refine AC.block ?_
   refine AC.smn 2 rfl ?_
   refine AC.sm 4 rfl ?_
   obtain ⟨y25, q26, h1⟩ := bind_elim h1
   refine AO.op rfl (AOp.callD rfl rfl lb rfl rfl (w_MultiLineString_LineString a1 g21.1 y25 q26) ?_)
   rintro _ rfl
   refine AO.op rfl (AOp.makeIfc rfl rfl lb rfl conc70 ?_)
   obtain ⟨y27, q28, h1⟩ := bind_elim h1
   refine AO.op rfl (AOp.callH (hs := [0, 1]) (unp := [1]) (EntersS.call (by kernel_rfl) rfl rfl) (wh_Write_LineString F a0 y25 g21.2.1 g21.2.2 _ q28) lb (.cons (SVLe.refl _) (.cons (SVLe.refl _) (.cons (SVLe.refl _) .nil))) rfl rfl rfl (.cons rfl (.cons rfl .nil)) (.cons ⟨rfl, rfl⟩ (.cons ⟨rfl, rfl⟩ .nil)) rfl (.cons (.inl rfl) (.cons (.inl rfl) (.cons (.inr rfl) .nil))) rfl ?_)
   rintro _ _ ⟨rfl, rfl⟩
   refine ⟨.d (.v (.nilIface)), [.fix 108 [.own 1, .d (di .i64 (0 : Int)), .d (di .i8 y27.1)], .grow 5 1 (List.map keS6 y27.2)], rfl, (.cons rfl (.cons rfl .nil)), ?_⟩
   refine AO.objs (obs' := [.fix 108 [.own 1, .d (di .i64 (0 : Int)), .d (di .i8 y27.1)], .grow 5 1 (List.map keS6 y27.2), .frame pv [(0, .ptr 0 0)]]) rfl ?_
   refine AO.mn 1 rfl ?_
   refine AC.sm 1 rfl ?_
   refine AO.op rfl (AOp.nilNeq rfl rfl lb rfl imeth44 ?_)
   refine AO.nS ?_
   refine AC.condF rfl rfl ?_
   refine AC.skip ?_
   change AC _ _ _ _
   refine AC.region ?_
   obtain ⟨q30, h1⟩ := need_elim h1
   refine AO.op rfl (AOp.iadd rfl rfl lb rfl rfl rfl q30.1 q30.2 ?_)
   refine AO.mv 1 rfl ?_
   refine AO.nil ?_
   exact ⟨((g21.1 + (1 : Int)), y27.1, y27.2), _, rfl, (LeL.refl _), rfl, rfl, h1⟩
  replace h1 := cF h1 q24
  refine AC.exit ?_
  obtain rfl := Option.some.inj h1
  exact ⟨(g21.2.1, g21.2.2), _, rfl, (LeL.refl _), rfl, rfl, aftL h0⟩
 intro g20 h0
 unfold p_Write_MultiLineString_k5 at h0
 change AC _ _ _ _
 refine AC.smn 1 rfl ?_
 obtain rfl := Option.some.inj h0
 refine AC.ret ?_
 change RetH _ _ _ _ _ _ .ret _
 refine reth (post := [.fix 108 [.own 1, .d (di .i64 (0 : Int)), .d (di .i8 g20.1)], .grow 5 1 (List.map keS6 g20.2)]) rfl rfl rfl rfl rfl ?_
 exact ⟨rfl, rfl⟩

set_option maxRecDepth 100000 in
set_option maxHeartbeats 4000000 in
theorem w_MultiPolygon_NumPolygons (a0 : TGeom_MultiPolygon) (r0 : Int) (h0 : p_MultiPolygon_NumPolygons a0 = some r0) : FnD Tryz.prog 70 [.pt (c_TGeom_MultiPolygon a0)] (fun r => r = di .i64 r0) := by
 refine FnD.of (by kernel_rfl) Tryz.func70 rfl Tryz.ntmps70 rfl (leb rfl) fun W ok => ?_
 unfold p_MultiPolygon_NumPolygons at h0
 refine AC.smn 1 rfl ?_
 refine AC.sm 1 rfl ?_
 refine AO.op rfl (AOp.nilCheck rfl rfl lb rfl rfl ?_)
 refine AO.op rfl (AOp.fieldAddrPt rfl rfl lb rfl fo146_0 ?_)
 refine AO.op rfl (AOp.fieldAddrEp rfl rfl lb rfl fo144_1 ?_)
 refine AO.op rfl (AOp.loadEp rfl rfl lb rfl agg24 rfl ?_)
 refine AO.op rfl (AOp.lenDs (n := a0.geom3.endss.length) (cells := (List.map keS3 a0.geom3.endss)) rfl rfl lb rfl el24 (by decide) (len1 _ _) ?_)
 refine AO.mn 1 rfl ?_
 refine AC.ret ?_
 change RetQ _ _ _ .ret _
 obtain rfl := Option.some.inj h0
 refine retq rfl rfl

set_option maxRecDepth 100000 in
set_option maxHeartbeats 4000000 in
theorem w_NewPolygon (a0 : Int) (r0 : TGeom_Polygon) (h0 : p_NewPolygon a0 = some r0) : FnD Tryz.prog 84 [di .i64 a0] (fun r => r = .pt (c_TGeom_Polygon r0)) := by
 refine FnD.of (by kernel_rfl) Tryz.func84 rfl Tryz.ntmps84 rfl (leb rfl) fun W ok => ?_
 unfold p_NewPolygon at h0
 refine AC.smn 1 rfl ?_
 refine AC.sm 1 rfl ?_
 obtain ⟨y1, q2, h0⟩ := bind_elim h0
 refine AO.op rfl (AOp.callA rfl rfl lb rfl rfl ((wa_NewPolygonFlat a0 [] [] y1 q2).nils (.cons (.nils (.nils .nil)))) ?_)
 refine AO.mn 1 rfl ?_
 refine AC.ret ?_
 change RetQ _ _ _ .ret _
 obtain rfl := Option.some.inj h0
 refine retq rfl rfl

set_option maxRecDepth 100000 in
set_option maxHeartbeats 4000000 in
theorem w_MultiPolygon_Polygon (F : Nat) (a0 : TGeom_MultiPolygon) (a1 : Int) (r0 : TGeom_Polygon) (h0 : p_MultiPolygon_Polygon F a0 a1 = some r0) : FnD Tryz.prog 71 [.pt (c_TGeom_MultiPolygon a0), di .i64 a1] (fun r => r = .pt (c_TGeom_Polygon r0)) := by
 refine FnD.of (by kernel_rfl) Tryz.func71 rfl Tryz.ntmps71 rfl (leb rfl) fun W ok => ?_
 unfold p_MultiPolygon_Polygon at h0
 refine AC.smn 1 rfl ?_
 refine AC.seq ?_
 refine AC.sm 1 rfl ?_
 refine AO.op rfl (AOp.nilCheck rfl rfl lb rfl rfl ?_)
 refine AO.op rfl (AOp.fieldAddrPt rfl rfl lb rfl fo146_0 ?_)
 refine AO.op rfl (AOp.fieldAddrEp rfl rfl lb rfl fo144_1 ?_)
 refine AO.op rfl (AOp.loadEp rfl rfl lb rfl agg24 rfl ?_)
 refine AO.mv 1 rfl ?_
 obtain ⟨x1, q2, h0⟩ := idx_elim h0
 refine AO.op rfl (AOp.indexDs (cells := (List.map keS3 a0.geom3.endss)) rfl rfl lb rfl rfl el24 (by decide) q2.1 (lt1 q2.2) ?_)
 refine AO.op rfl (AOp.loadEp rfl rfl lb rfl agg23 (at1 q2.2) ?_)
 refine AO.op rfl (AOp.lenDs (n := x1.length) (cells := (List.map keS2 x1)) rfl rfl lb rfl el23 (by decide) (len1 _ _) ?_)
 refine AO.op rfl (AOp.ieql rfl rfl lb rfl rfl ?_)
 refine AO.nS ?_
 refine AC.cond rfl (fun q3 => ?_) (fun q3 => ?_)
 ·replace h0 := cT h0 q3
  refine AC.sm 1 rfl ?_
  refine AO.op rfl (AOp.nilCheck rfl rfl lb rfl rfl ?_)
  refine AO.op rfl (AOp.fieldAddrPt rfl rfl lb rfl fo146_0 ?_)
  refine AO.op rfl (AOp.fieldAddrEp rfl rfl lb rfl fo144_0 ?_)
  refine AO.op rfl (AOp.fieldAddrEp rfl rfl lb rfl fo129_0 ?_)
  refine AO.op rfl (AOp.fieldAddrEp rfl rfl lb rfl fo122_0 ?_)
  refine AO.op rfl (AOp.loadEp rfl rfl lb rfl agg65 rfl ?_)
  obtain ⟨y4, q5, h0⟩ := bind_elim h0
  refine AO.op rfl (AOp.callD rfl rfl lb rfl rfl (w_NewPolygon a0.geom3.geom1.geom0.layout y4 q5) ?_)
  rintro _ rfl
  refine AO.mn 1 rfl ?_
  refine AC.ret ?_
  change RetQ _ _ _ .ret _
  obtain rfl := Option.some.inj h0
  refine retq rfl rfl
 replace h0 := cF h0 q3
 refine AC.skip ?_
 change AC _ _ _ _
 refine AC.smn 1 rfl ?_
 refine AC.sm 1 rfl ?_
 obtain ⟨q6, h0⟩ := need_elim h0
 refine AO.op rfl (AOp.isub rfl rfl lb rfl rfl rfl q6.1 q6.2 ?_)
 refine AO.mn 1 rfl ?_
 obtain ⟨o7, l8, h0⟩ := bind_elim h0
 refine AC.joinP (V := Int) [0, 1] [5] 0 (fun g9 => [(5, .d (di .i64 g9))]) (fun g9 => []) (fun g9 => (p_MultiPolygon_Polygon_k1 a0 a1 F) g9 = some r0) rfl ?_ ?_
 ·refine AC.block ?_
  refine AC.loopP (V := (Int × Int)) (p_MultiPolygon_Polygon_l5 a0) o7 [0, 1] [5, 6] 0 (fun g46 => [(5, .d (di .i64 g46.1)), (6, .d (di .i64 g46.2))]) (fun g46 => []) F ((0 : Int), (a1 - (1 : Int))) l8 rfl rfl (LeL.refl _) rfl rfl ?_
  intro n48 g46 h1
  unfold p_MultiPolygon_Polygon_l5 at h1
  refine AC.seq ?_
  refine AC.sm 1 rfl ?_
  refine AO.op rfl (AOp.igeq rfl rfl lb rfl rfl ?_)
  refine AO.nS ?_
  refine AC.cond rfl (fun q49 => ?_) (fun q49 => ?_)
  ·replace h1 := cT h1 q49
   refine AC.skip ?_
   change AC _ _ _ _
   refine AC.block ?_
   refine AC.sm 1 rfl ?_
   refine AO.op rfl (AOp.nilCheck rfl rfl lb rfl rfl ?_)
   refine AO.op rfl (AOp.fieldAddrPt rfl rfl lb rfl fo146_0 ?_)
   refine AO.op rfl (AOp.fieldAddrEp rfl rfl lb rfl fo144_1 ?_)
   refine AO.op rfl (AOp.loadEp rfl rfl lb rfl agg24 rfl ?_)
   refine AO.mv 1 rfl ?_
   obtain ⟨x50, q51, h1⟩ := idx_elim h1
   refine AO.op rfl (AOp.indexDs (cells := (List.map keS3 a0.geom3.endss)) rfl rfl lb rfl rfl el24 (by decide) q51.1 (lt1 q51.2) ?_)
   refine AO.op rfl (AOp.loadEp rfl rfl lb rfl agg23 (at1 q51.2) ?_)
   refine AO.mn 1 rfl ?_
   refine AC.seq ?_
   refine AC.sm 1 rfl ?_
   refine AO.op rfl (AOp.lenDs (n := x50.length) (cells := (List.map keS2 x50)) rfl rfl lb rfl el23 (by decide) (len1 _ _) ?_)
   refine AO.op rfl (AOp.igtr rfl rfl lb rfl rfl ?_)
   refine AO.nS ?_
   refine AC.cond rfl (fun q52 => ?_) (fun q52 => ?_)
   ·replace h1 := cT h1 q52
    refine AC.sm 2 rfl ?_
    refine AO.op rfl (AOp.lenDs (n := x50.length) (cells := (List.map keS2 x50)) rfl rfl lb rfl el23 (by decide) (len1 _ _) ?_)
    obtain ⟨q53, h1⟩ := need_elim h1
    refine AO.op rfl (AOp.isub rfl rfl lb rfl rfl rfl q53.1 q53.2 ?_)
    obtain ⟨x54, q55, h1⟩ := idx_elim h1
    refine AO.op rfl (AOp.indexDs (cells := (List.map keS2 x50)) rfl rfl lb rfl rfl el23 (by decide) q55.1 (lt1 q55.2) ?_)
    refine AO.op rfl (AOp.loadEp rfl rfl lb rfl agg3 (at1 q55.2) ?_)
    refine AO.mn 1 rfl ?_
    refine AC.exit ?_
    obtain rfl := Option.some.inj h1
    exact ⟨x54, _, rfl, (LeL.refl _), rfl, rfl, aftL h0⟩
   replace h1 := cF h1 q52
   refine AC.skip ?_
   change AC _ _ _ _
   refine AC.region ?_
   refine AO.mv 1 rfl ?_
   obtain ⟨q56, h1⟩ := need_elim h1
   refine AO.op rfl (AOp.isub rfl rfl lb rfl rfl rfl q56.1 q56.2 ?_)
   refine AO.mv 1 rfl ?_
   refine AO.nil ?_
   exact ⟨(g46.1, (g46.2 - (1 : Int))), _, rfl, (LeL.refl _), rfl, rfl, h1⟩
  replace h1 := cF h1 q49
  refine AC.exit ?_
  obtain rfl := Option.some.inj h1
  exact ⟨g46.1, _, rfl, (LeL.refl _), rfl, rfl, aftL h0⟩
 intro g9 h0
 unfold p_MultiPolygon_Polygon_k1 at h0
 refine AC.sm 1 rfl ?_
 refine AO.op rfl (AOp.nilCheck rfl rfl lb rfl rfl ?_)
 refine AO.op rfl (AOp.fieldAddrPt rfl rfl lb rfl fo146_0 ?_)
 refine AO.op rfl (AOp.fieldAddrEp rfl rfl lb rfl fo144_1 ?_)
 refine AO.op rfl (AOp.loadEp rfl rfl lb rfl agg24 rfl ?_)
 refine AO.mv 1 rfl ?_
 obtain ⟨x10, q11, h0⟩ := idx_elim h0
 refine AO.op rfl (AOp.indexDs (cells := (List.map keS3 a0.geom3.endss)) rfl rfl lb rfl rfl el24 (by decide) q11.1 (lt1 q11.2) ?_)
 refine AO.op rfl (AOp.loadEp rfl rfl lb rfl agg23 (at1 q11.2) ?_)
 refine AO.op rfl (AOp.lenDs (n := x10.length) (cells := (List.map keS2 x10)) rfl rfl lb rfl el23 (by decide) (len1 _ _) ?_)
 obtain ⟨q12, h0⟩ := need_elim h0
 refine AO.op rfl (AOp.makeL (f := fun z => SV.d (keS2 z)) (z0 := (0 : Int)) rfl rfl lb rfl rfl el23 info3 rfl rfl (by decide) q12.1 q12.2 rfl ?_)
 refine AO.mn 1 rfl ?_
 refine AC.joinP (V := (List Int)) [0, 1, 5, 8] [] 1 (fun g13 => []) (fun g13 => [.fix 3 (List.map (fun z => SV.d (keS2 z)) g13)]) (fun g13 => (p_MultiPolygon_Polygon_k2 a0 a1 g9 x10) g13 = some r0) rfl ?_ ?_
 ·refine AC.sm 1 rfl ?_
  refine AO.op rfl (AOp.ieql rfl rfl lb rfl rfl ?_)
  refine AO.nS ?_
  refine AC.cond rfl (fun q25 => ?_) (fun q25 => ?_)
  ·replace h0 := cT h0 q25
   refine AC.region ?_
   refine AO.mv 2 rfl ?_
   refine AO.op rfl (AOp.nilCheck rfl rfl lb rfl rfl ?_)
   refine AO.op rfl (AOp.fieldAddrPt rfl rfl lb rfl fo146_0 ?_)
   refine AO.op rfl (AOp.fieldAddrEp rfl rfl lb rfl fo144_1 ?_)
   refine AO.op rfl (AOp.loadEp rfl rfl lb rfl agg24 rfl ?_)
   refine AO.mv 1 rfl ?_
   obtain ⟨x26, q27, h0⟩ := idx_elim h0
   refine AO.op rfl (AOp.indexDs (cells := (List.map keS3 a0.geom3.endss)) rfl rfl lb rfl rfl el24 (by decide) q27.1 (lt1 q27.2) ?_)
   refine AO.op rfl (AOp.loadEp rfl rfl lb rfl agg23 (at1 q27.2) ?_)
   obtain ⟨q28, h0⟩ := need_elim h0
   obtain ⟨c29, q30, h0⟩ := bind_elim h0
   refine AO.op rfl (AOp.copyL2 (k := keS2) (l := (List.replicate (((x10.length : Nat) : Int)).toNat (0 : Int))) (l2 := x26) (m := (min x26.length (List.replicate (((x10.length : Nat) : Int)).toNat (0 : Int)).length)) rfl rfl lb rfl rfl el23 rfl q28 (fun _ => rfl) rfl (Option.some.inj q30) ?_)
   refine AO.nil ?_
   exact ⟨c29, _, rfl, (LeL.refl _), rfl, (okU_mk rfl (okU_cons (okU_fixl (fun _ => rfl)) okU_nil)), h0⟩
  replace h0 := cF h0 q25
  refine AC.sm 1 rfl ?_
  refine AO.op rfl (AOp.nilCheck rfl rfl lb rfl rfl ?_)
  refine AO.op rfl (AOp.fieldAddrPt rfl rfl lb rfl fo146_0 ?_)
  refine AO.op rfl (AOp.fieldAddrEp rfl rfl lb rfl fo144_1 ?_)
  refine AO.op rfl (AOp.loadEp rfl rfl lb rfl agg24 rfl ?_)
  refine AO.mv 1 rfl ?_
  obtain ⟨x31, q32, h0⟩ := idx_elim h0
  refine AO.op rfl (AOp.indexDs (cells := (List.map keS3 a0.geom3.endss)) rfl rfl lb rfl rfl el24 (by decide) q32.1 (lt1 q32.2) ?_)
  refine AO.op rfl (AOp.loadEp rfl rfl lb rfl agg23 (at1 q32.2) ?_)
  refine AO.op rfl (AOp.lenDs (n := x31.length) (cells := (List.map keS2 x31)) rfl rfl lb rfl el23 (by decide) (len1 _ _) ?_)
  refine AO.mn 1 rfl ?_
  obtain ⟨o33, l34, h0⟩ := bind_elim h0
  refine AC.joinE (V := (List Int)) [0, 1, 5, 8] [] 1 (fun g35 => []) (fun g35 => [.fix 3 (List.map (fun z => SV.d (keS2 z)) g35)]) (fun g35 => (p_MultiPolygon_Polygon_k3 a0 a1 g9 x10) g35 = some r0) rfl ?_ ?_
  ·refine AC.block ?_
   refine AC.loopP (V := (Int × (List Int))) (p_MultiPolygon_Polygon_l4 g9 x10 x31) o33 [0, 1, 5, 8, 81, 82] [83] 1 (fun g36 => [(83, .d (di .i64 g36.1))]) (fun g36 => [.fix 3 (List.map (fun z => SV.d (keS2 z)) g36.2)]) F ((0 : Int), (List.replicate (((x10.length : Nat) : Int)).toNat (0 : Int))) l34 rfl rfl (LeL.refl _) rfl (okU_mk rfl (okU_cons (okU_fixl (fun _ => rfl)) okU_nil)) ?_
   intro n38 g36 h1
   unfold p_MultiPolygon_Polygon_l4 at h1
   refine AC.sr ?_
   refine AO.op rfl (AOp.ilss rfl rfl lb rfl rfl ?_)
   refine AO.nS ?_
   refine AC.seq ?_
   refine AC.cond rfl (fun q39 => ?_) (fun q39 => ?_)
   ·replace h1 := cT h1 q39
    refine AC.skip ?_
    change AC _ _ _ _
    refine AC.seq ?_
    refine AC.block ?_
    refine AC.sm 1 rfl ?_
    obtain ⟨x40, q41, h1⟩ := idx_elim h1
    refine AO.op rfl (AOp.indexDs (cells := (List.map keS2 x31)) rfl rfl lb rfl rfl el23 (by decide) q41.1 (lt1 q41.2) ?_)
    refine AO.op rfl (AOp.loadEp rfl rfl lb rfl agg3 (at1 q41.2) ?_)
    refine AO.mn 2 rfl ?_
    refine AC.region ?_
    refine AO.mv 4 rfl ?_
    obtain ⟨q42, h1⟩ := need_elim h1
    refine AO.op rfl (AOp.isub rfl rfl lb rfl rfl rfl q42.1 q42.2 ?_)
    obtain ⟨q43, h1⟩ := need_elim h1
    refine AO.op rfl (AOp.indexSl rfl rfl lb rfl rfl el23 q43.1 q43.2 ?_)
    obtain ⟨q44, h1⟩ := need_elim h1
    refine AO.op rfl (AOp.storeL (f := fun z => SV.d (keS2 z)) (l := g36.2) (i := (g36.1).toNat) (v := (x40 - g9)) rfl rfl rfl rfl size3 rfl rfl rfl q44 ?_)
    refine AO.nil (?_ : AC _ _ _ _)
    refine AC.region ?_
    obtain ⟨q45, h1⟩ := need_elim h1
    refine AO.op rfl (AOp.iadd rfl rfl lb rfl rfl rfl q45.1 q45.2 ?_)
    refine AO.mv 1 rfl ?_
    refine AO.nil ?_
    exact ⟨((g36.1 + (1 : Int)), (g36.2.set (g36.1).toNat (x40 - g9))), _, rfl, (LeL.refl _), rfl, (okU_mk rfl (okU_cons (okU_fixl (fun _ => rfl)) okU_nil)), h1⟩
   replace h1 := cF h1 q39
   refine AC.exit ?_
   obtain rfl := Option.some.inj h1
   exact ⟨g36.2, _, rfl, (LeL.refl _), rfl, (okU_mk rfl (okU_cons (okU_fixl (fun _ => rfl)) okU_nil)), aftL h0⟩
  intro g35 h0
  unfold p_MultiPolygon_Polygon_k3 at h0
  exact ⟨g35, _, rfl, (LeL.refl _), rfl, (okU_mk rfl (okU_cons (okU_fixl (fun _ => rfl)) okU_nil)), h0⟩
 intro g13 h0
 unfold p_MultiPolygon_Polygon_k2 at h0
 refine AC.seq ?_
 obtain ⟨x14, q15, h0⟩ := idx_elim h0
 obtain ⟨x16, q17, h0⟩ := idx_elim h0
 obtain ⟨q18, h0⟩ := need_elim h0
 obtain ⟨x19, q20, h0⟩ := idx_elim h0
 obtain ⟨q21, h0⟩ := need_elim h0
 refine AC.drawS [0, 1, 2, 3, 4, 5, 6, 7, 8, 9, 10, 11, 12, 13, 14, 15, 16, 17, 18, 19, 20, 21, 22, 23, 24, 25, 26, 27, 28, 29, 30, 31, 32, 33, 34, 35, 36] [] [37, 38] (fun L => [.fix 3 (List.map (fun z => SV.d (keS2 z)) g13)]) [] mixed (by kernel_rfl) (fun _ _ _ => rfl) rfl ?_
 refine AS.op [0] [] [] [] rfl rfl rfl (by kernel_rfl) (by kernel_rfl) rfl rfl (fun _ _ _ h => AOp.move rfl rfl lb rfl h) (by kernel_rfl) ?_
 refine AS.op [95] [] [] [] rfl rfl rfl (by kernel_rfl) (by kernel_rfl) rfl rfl (fun _ _ _ h => AOp.nilCheck rfl rfl lb rfl rfl h) (by kernel_rfl) ?_
 refine AS.op [96] [] [] [] rfl rfl rfl (by kernel_rfl) (by kernel_rfl) rfl rfl (fun _ _ _ h => AOp.fieldAddrPt rfl rfl lb rfl fo146_0 h) (by kernel_rfl) ?_
 refine AS.op [97] [] [] [] rfl rfl rfl (by kernel_rfl) (by kernel_rfl) rfl rfl (fun _ _ _ h => AOp.fieldAddrEp rfl rfl lb rfl fo144_0 h) (by kernel_rfl) ?_
 refine AS.op [98] [] [] [] rfl rfl rfl (by kernel_rfl) (by kernel_rfl) rfl rfl (fun _ _ _ h => AOp.fieldAddrEp rfl rfl lb rfl fo129_0 h) (by kernel_rfl) ?_
 refine AS.op [99] [] [] [] rfl rfl rfl (by kernel_rfl) (by kernel_rfl) rfl rfl (fun _ _ _ h => AOp.fieldAddrEp rfl rfl lb rfl fo122_0 h) (by kernel_rfl) ?_
 refine AS.op [100] [] [] [] rfl rfl rfl (by kernel_rfl) (by kernel_rfl) rfl rfl (fun _ _ _ h => AOp.loadEp rfl rfl lb rfl agg65 rfl h) (by kernel_rfl) ?_
 refine AS.op [0] [] [] [] rfl rfl rfl (by kernel_rfl) (by kernel_rfl) rfl rfl (fun _ _ _ h => AOp.move rfl rfl lb rfl h) (by kernel_rfl) ?_
 refine AS.op [102] [] [] [] rfl rfl rfl (by kernel_rfl) (by kernel_rfl) rfl rfl (fun _ _ _ h => AOp.nilCheck rfl rfl lb rfl rfl h) (by kernel_rfl) ?_
 refine AS.op [103] [] [] [] rfl rfl rfl (by kernel_rfl) (by kernel_rfl) rfl rfl (fun _ _ _ h => AOp.fieldAddrPt rfl rfl lb rfl fo146_0 h) (by kernel_rfl) ?_
 refine AS.op [104] [] [] [] rfl rfl rfl (by kernel_rfl) (by kernel_rfl) rfl rfl (fun _ _ _ h => AOp.fieldAddrEp rfl rfl lb rfl fo144_0 h) (by kernel_rfl) ?_
 refine AS.op [105] [] [] [] rfl rfl rfl (by kernel_rfl) (by kernel_rfl) rfl rfl (fun _ _ _ h => AOp.fieldAddrEp rfl rfl lb rfl fo129_0 h) (by kernel_rfl) ?_
 refine AS.op [106] [] [] [] rfl rfl rfl (by kernel_rfl) (by kernel_rfl) rfl rfl (fun _ _ _ h => AOp.fieldAddrEp rfl rfl lb rfl fo122_2 h) (by kernel_rfl) ?_
 refine AS.op [107] [] [] [] rfl rfl rfl (by kernel_rfl) (by kernel_rfl) rfl rfl (fun _ _ _ h => AOp.loadEp rfl rfl lb rfl agg22 rfl h) (by kernel_rfl) ?_
 refine AS.op [5] [] [] [] rfl rfl rfl (by kernel_rfl) (by kernel_rfl) rfl rfl (fun _ _ _ h => AOp.move rfl rfl lb rfl h) (by kernel_rfl) ?_
 refine AS.op [0] [] [] [] rfl rfl rfl (by kernel_rfl) (by kernel_rfl) rfl rfl (fun _ _ _ h => AOp.move rfl rfl lb rfl h) (by kernel_rfl) ?_
 refine AS.op [110] [] [] [] rfl rfl rfl (by kernel_rfl) (by kernel_rfl) rfl rfl (fun _ _ _ h => AOp.nilCheck rfl rfl lb rfl rfl h) (by kernel_rfl) ?_
 refine AS.op [111] [] [] [] rfl rfl rfl (by kernel_rfl) (by kernel_rfl) rfl rfl (fun _ _ _ h => AOp.fieldAddrPt rfl rfl lb rfl fo146_0 h) (by kernel_rfl) ?_
 refine AS.op [112] [] [] [] rfl rfl rfl (by kernel_rfl) (by kernel_rfl) rfl rfl (fun _ _ _ h => AOp.fieldAddrEp rfl rfl lb rfl fo144_1 h) (by kernel_rfl) ?_
 refine AS.op [113] [] [] [] rfl rfl rfl (by kernel_rfl) (by kernel_rfl) rfl rfl (fun _ _ _ h => AOp.loadEp rfl rfl lb rfl agg24 rfl h) (by kernel_rfl) ?_
 refine AS.op [1] [] [] [] rfl rfl rfl (by kernel_rfl) (by kernel_rfl) rfl rfl (fun _ _ _ h => AOp.move rfl rfl lb rfl h) (by kernel_rfl) ?_
 refine AS.op [114, 115] [] [] [] rfl rfl rfl (by kernel_rfl) (by kernel_rfl) rfl rfl (fun _ _ _ h => AOp.indexDs (cells := (List.map keS3 a0.geom3.endss)) rfl rfl lb rfl rfl el24 (by decide) q15.1 (lt1 q15.2) h) (by kernel_rfl) ?_
 refine AS.op [116] [] [] [] rfl rfl rfl (by kernel_rfl) (by kernel_rfl) rfl rfl (fun _ _ _ h => AOp.loadEp rfl rfl lb rfl agg23 (at1 q15.2) h) (by kernel_rfl) ?_
 refine AS.op [0] [] [] [] rfl rfl rfl (by kernel_rfl) (by kernel_rfl) rfl rfl (fun _ _ _ h => AOp.move rfl rfl lb rfl h) (by kernel_rfl) ?_
 refine AS.op [118] [] [] [] rfl rfl rfl (by kernel_rfl) (by kernel_rfl) rfl rfl (fun _ _ _ h => AOp.nilCheck rfl rfl lb rfl rfl h) (by kernel_rfl) ?_
 refine AS.op [119] [] [] [] rfl rfl rfl (by kernel_rfl) (by kernel_rfl) rfl rfl (fun _ _ _ h => AOp.fieldAddrPt rfl rfl lb rfl fo146_0 h) (by kernel_rfl) ?_
 refine AS.op [120] [] [] [] rfl rfl rfl (by kernel_rfl) (by kernel_rfl) rfl rfl (fun _ _ _ h => AOp.fieldAddrEp rfl rfl lb rfl fo144_1 h) (by kernel_rfl) ?_
 refine AS.op [121] [] [] [] rfl rfl rfl (by kernel_rfl) (by kernel_rfl) rfl rfl (fun _ _ _ h => AOp.loadEp rfl rfl lb rfl agg24 rfl h) (by kernel_rfl) ?_
 refine AS.op [1] [] [] [] rfl rfl rfl (by kernel_rfl) (by kernel_rfl) rfl rfl (fun _ _ _ h => AOp.move rfl rfl lb rfl h) (by kernel_rfl) ?_
 refine AS.op [122, 123] [] [] [] rfl rfl rfl (by kernel_rfl) (by kernel_rfl) rfl rfl (fun _ _ _ h => AOp.indexDs (cells := (List.map keS3 a0.geom3.endss)) rfl rfl lb rfl rfl el24 (by decide) q17.1 (lt1 q17.2) h) (by kernel_rfl) ?_
 refine AS.op [124] [] [] [] rfl rfl rfl (by kernel_rfl) (by kernel_rfl) rfl rfl (fun _ _ _ h => AOp.loadEp rfl rfl lb rfl agg23 (at1 q17.2) h) (by kernel_rfl) ?_
 refine AS.op [125] [] [] [] rfl rfl rfl (by kernel_rfl) (by kernel_rfl) rfl rfl (fun _ _ _ h => AOp.lenDs (n := x16.length) (cells := (List.map keS2 x16)) rfl rfl lb rfl el23 (by decide) (len1 _ _) h) (by kernel_rfl) ?_
 refine AS.op [126] [] [] [] rfl rfl rfl (by kernel_rfl) (by kernel_rfl) rfl rfl (fun _ _ _ h => AOp.isub rfl rfl lb rfl rfl rfl q18.1 q18.2 h) (by kernel_rfl) ?_
 refine AS.op [117, 127] [] [] [] rfl rfl rfl (by kernel_rfl) (by kernel_rfl) rfl rfl (fun _ _ _ h => AOp.indexDs (cells := (List.map keS2 x14)) rfl rfl lb rfl rfl el23 (by decide) q20.1 (lt1 q20.2) h) (by kernel_rfl) ?_
 refine AS.op [128] [] [] [] rfl rfl rfl (by kernel_rfl) (by kernel_rfl) rfl rfl (fun _ _ _ h => AOp.loadEp rfl rfl lb rfl agg3 (at1 q20.2) h) (by kernel_rfl) ?_
 refine AS.op [108, 109, 129] [] [] [] rfl rfl rfl (by kernel_rfl) (by kernel_rfl) rfl rfl (fun _ _ _ h => AOp.sliceD (cells := (List.map keS1 a0.geom3.geom1.geom0.flatCoords)) (n := a0.geom3.geom1.geom0.flatCoords.length) (l := (g9).toNat) (hh := (x19).toNat) rfl rfl lb rfl (.inr ⟨_, _, _, rfl, rfl, q21.1.1, rfl⟩) (.inr ⟨_, _, _, rfl, rfl, q21.1.2, rfl⟩) el22 (by decide) (len1 _ _) q21.2.1 q21.2.2 (sub1 _ _ _ _) h) (by kernel_rfl) ?_
 refine AS.op [8] [] [] [] rfl rfl rfl (by kernel_rfl) (by kernel_rfl) rfl rfl (fun _ _ _ h => AOp.move rfl rfl lb rfl h) (by kernel_rfl) ?_
 refine AS.done ?_
 refine AO.objs (obs' := [.fix 3 (List.map (fun z => SV.d (keS2 z)) g13)]) rfl ?_
 obtain ⟨q22, h0⟩ := need_elim h0
 refine AO.freezeF (ds := (List.map keS2 g13)) 131 0 rfl rfl rfl (by rw [List.map_map]; rfl) (lenq q22 (len1 _ _)) (Nat.le_refl _) ?_
 obtain ⟨y23, q24, h0⟩ := bind_elim h0
 refine AO.op rfl (AOp.callA rfl rfl lb rfl rfl (wa_NewPolygonFlat a0.geom3.geom1.geom0.layout ((a0.geom3.geom1.geom0.flatCoords.drop (g9).toNat).take ((x19).toNat - (g9).toNat)) g13 y23 q24) ?_)
 refine AO.mv 1 rfl ?_
 refine AO.nil (?_ : AC _ _ _ _)
 refine AC.ret ?_
 change RetQ _ _ _ .ret _
 obtain rfl := Option.some.inj h0
 refine retq rfl rfl

def RH_Write_MultiPolygon : (Int × (List Int)) → SV → List Ob → Prop
 | z => fun r post => r = .d (.v (.nilIface)) ∧ post = [.fix 108 [.own 1, .d (di .i64 (0 : Int)), .d (di .i8 z.1)], .grow 5 1 (List.map keS6 z.2)]
set_option maxRecDepth 100000 in
set_option maxHeartbeats 4000000 in
theorem wh_Write_MultiPolygon (F : Nat) (a0 : Bool) (a1 : TGeom_MultiPolygon) (b0 : Int) (b1 : (List Int)) (r0 : (Int × (List Int))) (h0 : p_Write_MultiPolygon F a0 a1 b0 b1 = some r0) : FnH Tryz.prog 27 [.ifc 61 (.ptr 0 0), .d (.ifc (bif a0 then 99 else 100) (.ag [])), .ifc 89 (.d (.pt (c_TGeom_MultiPolygon a1)))] [.fix 108 [.own 1, .d (di .i64 (0 : Int)), .d (di .i8 b0)], .grow 5 1 (List.map keS6 b1)] [0] (RH_Write_MultiPolygon r0) := by
 refine FnH.of (by kernel_rfl) Tryz.func27 rfl Tryz.ntmps27 rfl (leb rfl) fun W ok may pv => ?_
 unfold p_Write_MultiPolygon at h0
 refine AC.smn 1 rfl ?_
 refine AC.smn 1 rfl ?_
 refine AC.joinP (V := Int) [0, 1, 2] [7] 3 (fun g1 => [(7, .d (di .u8 g1))]) (fun g1 => [.fix 108 [.own 1, .d (di .i64 (0 : Int)), .d (di .i8 b0)], .grow 5 1 (List.map keS6 b1), .frame pv [(0, .ptr 0 0), (1, .own 1)]]) (fun g1 => (p_Write_MultiPolygon_k1 a0 a1 b0 b1 F) g1 = some r0) rfl ?_ ?_
 ·refine AC.smn 1 rfl ?_
  refine AC.block ?_
  refine AC.sr ?_
  refine AO.op rfl (AOp.loadG0 rfl rfl lb agg99 size99 ?_)
  refine AO.op rfl (AOp.makeIfc rfl rfl lb rfl conc99 ?_)
  refine AO.op rfl (AOp.ifcEqT rfl rfl lb rfl rfl rfl rfl rfl cmpS99 imeth51 ?_)
  refine AO.mn 1 rfl ?_
  refine AC.cond rfl (fun q43 => ?_) (fun q43 => ?_)
  ·replace h0 := cT h0 q43
   refine AC.region ?_
   refine AO.mv 1 rfl ?_
   refine AO.nil ?_
   exact ⟨(0 : Int), _, rfl, (LeL.refl _), rfl, rfl, h0⟩
  replace h0 := cF h0 q43
  refine AC.sr ?_
  refine AO.op rfl (AOp.loadG0 rfl rfl lb agg100 size100 ?_)
  refine AO.op rfl (AOp.makeIfc rfl rfl lb rfl conc100 ?_)
  refine AO.op rfl (AOp.ifcEqF rfl rfl lb rfl rfl rfl rfl rfl cmpS100 imeth51 ?_)
  refine AO.mn 1 rfl ?_
  refine AC.cond rfl (fun q44 => ?_) (fun q44 => ?_)
  ·replace h0 := cT h0 q44
   refine AC.region ?_
   refine AO.mv 1 rfl ?_
   refine AO.nil ?_
   exact ⟨(1 : Int), _, rfl, (LeL.refl _), rfl, rfl, h0⟩
  replace h0 := cF h0 q44
  cases h0
 intro g1 h0
 unfold p_Write_MultiPolygon_k1 at h0
 refine AC.seq ?_
 refine AC.sm 2 rfl ?_
 refine AO.subF 2 [0] rfl rfl ?_
 obtain ⟨y2, q3, h0⟩ := bind_elim h0
 refine AO.op rfl (AOp.callH (hs := [0, 1]) (unp := [1]) (EntersS.call (by kernel_rfl) rfl rfl) (wh_WriteByte g1 b0 b1 _ q3) lb (.cons (SVLe.refl _) (.cons (SVLe.refl _) .nil)) rfl rfl rfl (.cons rfl (.cons rfl .nil)) (.cons ⟨rfl, rfl⟩ (.cons ⟨rfl, rfl⟩ .nil)) rfl (.cons (.inl rfl) (.cons (.inl rfl) (.cons (.inr rfl) .nil))) rfl ?_)
 rintro _ _ ⟨rfl, rfl⟩
 refine ⟨.d (.v (.nilIface)), [.fix 108 [.own 1, .d (di .i64 (0 : Int)), .d (di .i8 y2.1)], .grow 5 1 (List.map keS6 y2.2)], rfl, (.cons rfl (.cons rfl .nil)), ?_⟩
 refine AO.objs (obs' := [.fix 108 [.own 1, .d (di .i64 (0 : Int)), .d (di .i8 y2.1)], .grow 5 1 (List.map keS6 y2.2), .frame pv [(0, .ptr 0 0)]]) rfl ?_
 refine AO.mn 1 rfl ?_
 refine AC.sm 1 rfl ?_
 refine AO.op rfl (AOp.nilNeq rfl rfl lb rfl imeth44 ?_)
 refine AO.nS ?_
 refine AC.condF rfl rfl ?_
 refine AC.skip ?_
 change AC _ _ _ _
 refine AC.smn 1 rfl ?_
 refine AC.seq ?_
 refine AC.smn 1 rfl ?_
 refine AC.block ?_
 refine AC.sr ?_
 refine AO.op rfl (AOp.assertNo rfl rfl lb rfl rfl pass89_67 zero67 ?_)
 refine AO.mn 2 rfl ?_
 refine AC.condF rfl rfl ?_
 refine AC.sr ?_
 refine AO.op rfl (AOp.assertNo rfl rfl lb rfl rfl pass89_70 zero70 ?_)
 refine AO.mn 2 rfl ?_
 refine AC.condF rfl rfl ?_
 refine AC.sr ?_
 refine AO.op rfl (AOp.assertNo rfl rfl lb rfl rfl pass89_76 zero76 ?_)
 refine AO.mn 2 rfl ?_
 refine AC.condF rfl rfl ?_
 refine AC.sr ?_
 refine AO.op rfl (AOp.assertNo rfl rfl lb rfl rfl pass89_80 zero80 ?_)
 refine AO.mn 2 rfl ?_
 refine AC.condF rfl rfl ?_
 refine AC.sr ?_
 refine AO.op rfl (AOp.assertNo rfl rfl lb rfl rfl pass89_86 zero86 ?_)
 refine AO.mn 2 rfl ?_
 refine AC.condF rfl rfl ?_
 refine AC.sr ?_
 refine AO.op rfl (AOp.assertYes rfl rfl lb rfl rfl pass89_89 rfl ?_)
 refine AO.mn 2 rfl ?_
 refine AC.condT rfl rfl ?_
 refine AC.region ?_
 refine AO.mv 1 rfl ?_
 refine AO.nil (?_ : AC _ _ _ _)
 refine AC.joinP (V := Int) [0, 1, 2] [9] 3 (fun g5 => [(9, .d (di .u32 g5))]) (fun g5 => [.fix 108 [.own 1, .d (di .i64 (0 : Int)), .d (di .i8 y2.1)], .grow 5 1 (List.map keS6 y2.2), .frame pv [(0, .ptr 0 0)]]) (fun g5 => (p_Write_MultiPolygon_k2 a0 a1 F y2) g5 = some r0) rfl ?_ ?_
 ·refine AC.sm 1 rfl ?_
  obtain ⟨y36, q37, h0⟩ := bind_elim h0
  refine AO.op rfl (AOp.callE ((EntersS.meth (by kernel_rfl) rfl rfl rfl meth89_Layout rfl rfl).le (.cons (SVLe.epPt (n := 4) rfl) .nil)) rfl lb rfl rfl (w_geom0_Layout a1.geom3.geom1.geom0 y36 q37) ?_)
  rintro _ rfl
  refine AO.nS ?_
  refine AC.block ?_
  refine AC.sr ?_
  refine AO.op rfl (AOp.ieql rfl rfl lb rfl rfl ?_)
  refine AO.mn 1 rfl ?_
  refine AC.cond rfl (fun q38 => ?_) (fun q38 => ?_)
  ·replace h0 := cT h0 q38
   refine AC.sm 1 rfl ?_
   refine AO.op rfl (AOp.assertNo rfl rfl lb rfl rfl pass89_93 zero93 ?_)
   refine AO.mn 5 rfl ?_
   refine AC.sm 1 rfl ?_
   refine AO.op rfl (AOp.bnot rfl rfl lb rfl ?_)
   refine AO.mv 1 rfl ?_
   refine AO.guardN rfl rfl rfl lb rfl rfl ?_
   refine AO.guardN rfl rfl rfl lb rfl rfl ?_
   refine AO.guardN rfl rfl rfl lb rfl rfl ?_
   refine AO.op rfl (AOp.pick rfl rfl lb rfl rfl rfl ?_)
   refine AO.nS ?_
   cases h0
  replace h0 := cF h0 q38
  refine AC.sr ?_
  refine AO.op rfl (AOp.ieql rfl rfl lb rfl rfl ?_)
  refine AO.mn 1 rfl ?_
  refine AC.cond rfl (fun q39 => ?_) (fun q39 => ?_)
  ·replace h0 := cT h0 q39
   refine AC.skip ?_
   exact ⟨(6 : Int), _, rfl, (LeL.refl _), rfl, rfl, h0⟩
  replace h0 := cF h0 q39
  refine AC.sr ?_
  refine AO.op rfl (AOp.ieql rfl rfl lb rfl rfl ?_)
  refine AO.mn 1 rfl ?_
  refine AC.cond rfl (fun q40 => ?_) (fun q40 => ?_)
  ·replace h0 := cT h0 q40
   refine AC.region ?_
   refine AO.mv 1 rfl ?_
   refine AO.op rfl (AOp.ibits (by simp) rfl rfl lb rfl rfl rfl ?_)
   refine AO.mv 1 rfl ?_
   refine AO.nil ?_
   exact ⟨(bits .or .u32 (6 : Int) (2147483648 : Int)), _, rfl, (LeL.refl _), rfl, rfl, h0⟩
  replace h0 := cF h0 q40
  refine AC.sr ?_
  refine AO.op rfl (AOp.ieql rfl rfl lb rfl rfl ?_)
  refine AO.mn 1 rfl ?_
  refine AC.cond rfl (fun q41 => ?_) (fun q41 => ?_)
  ·replace h0 := cT h0 q41
   refine AC.region ?_
   refine AO.mv 1 rfl ?_
   refine AO.op rfl (AOp.ibits (by simp) rfl rfl lb rfl rfl rfl ?_)
   refine AO.mv 1 rfl ?_
   refine AO.nil ?_
   exact ⟨(bits .or .u32 (6 : Int) (1073741824 : Int)), _, rfl, (LeL.refl _), rfl, rfl, h0⟩
  replace h0 := cF h0 q41
  refine AC.sr ?_
  refine AO.op rfl (AOp.ieql rfl rfl lb rfl rfl ?_)
  refine AO.mn 1 rfl ?_
  refine AC.cond rfl (fun q42 => ?_) (fun q42 => ?_)
  ·replace h0 := cT h0 q42
   refine AC.region ?_
   refine AO.mv 1 rfl ?_
   refine AO.op rfl (AOp.ibits (by simp) rfl rfl lb rfl rfl rfl ?_)
   refine AO.mv 1 rfl ?_
   refine AO.nil ?_
   exact ⟨(bits .or .u32 (6 : Int) (3221225472 : Int)), _, rfl, (LeL.refl _), rfl, rfl, h0⟩
  replace h0 := cF h0 q42
  cases h0
 intro g5 h0
 unfold p_Write_MultiPolygon_k2 at h0
 refine AC.sm 1 rfl ?_
 obtain ⟨y6, q7, h0⟩ := bind_elim h0
 refine AO.op rfl (AOp.callE ((EntersS.meth (by kernel_rfl) rfl rfl rfl meth89_SRID rfl rfl).le (.cons (SVLe.epPt (n := 4) rfl) .nil)) rfl lb rfl rfl (w_geom0_SRID a1.geom3.geom1.geom0 y6 q7) ?_)
 rintro _ rfl
 refine AO.mn 1 rfl ?_
 refine AC.joinP (V := Int) [0, 1, 2, 12] [9] 3 (fun g8 => [(9, .d (di .u32 g8))]) (fun g8 => [.fix 108 [.own 1, .d (di .i64 (0 : Int)), .d (di .i8 y2.1)], .grow 5 1 (List.map keS6 y2.2), .frame pv [(0, .ptr 0 0)]]) (fun g8 => (p_Write_MultiPolygon_k3 a0 a1 F y2 y6) g8 = some r0) rfl ?_ ?_
 ·refine AC.sm 1 rfl ?_
  refine AO.op rfl (AOp.ineq rfl rfl lb rfl rfl ?_)
  refine AO.nS ?_
  refine AC.cond rfl (fun q35 => ?_) (fun q35 => ?_)
  ·replace h0 := cT h0 q35
   refine AC.region ?_
   refine AO.mv 1 rfl ?_
   refine AO.op rfl (AOp.ibits (by simp) rfl rfl lb rfl rfl rfl ?_)
   refine AO.mv 1 rfl ?_
   refine AO.nil ?_
   exact ⟨(bits .or .u32 g5 (536870912 : Int)), _, rfl, (LeL.refl _), rfl, rfl, h0⟩
  replace h0 := cF h0 q35
  refine AC.skip ?_
  exact ⟨g5, _, rfl, (LeL.refl _), rfl, rfl, h0⟩
 intro g8 h0
 unfold p_Write_MultiPolygon_k3 at h0
 refine AC.seq ?_
 refine AC.sm 3 rfl ?_
 obtain ⟨y9, q10, h0⟩ := bind_elim h0
 refine AO.op rfl (AOp.callH (hs := [0, 1]) (unp := [1]) (EntersS.call (by kernel_rfl) rfl rfl) (wh_WriteUInt32 a0 g8 y2.1 y2.2 _ q10) lb (.cons (SVLe.refl _) (.cons (SVLe.refl _) (.cons (SVLe.refl _) .nil))) rfl rfl rfl (.cons rfl (.cons rfl .nil)) (.cons ⟨rfl, rfl⟩ (.cons ⟨rfl, rfl⟩ .nil)) rfl (.cons (.inl rfl) (.cons (.inl rfl) (.cons (.inr rfl) .nil))) rfl ?_)
 rintro _ _ ⟨rfl, rfl⟩
 refine ⟨.d (.v (.nilIface)), [.fix 108 [.own 1, .d (di .i64 (0 : Int)), .d (di .i8 y9.1)], .grow 5 1 (List.map keS6 y9.2)], rfl, (.cons rfl (.cons rfl .nil)), ?_⟩
 refine AO.objs (obs' := [.fix 108 [.own 1, .d (di .i64 (0 : Int)), .d (di .i8 y9.1)], .grow 5 1 (List.map keS6 y9.2), .frame pv [(0, .ptr 0 0)]]) rfl ?_
 refine AO.mn 1 rfl ?_
 refine AC.sm 1 rfl ?_
 refine AO.op rfl (AOp.nilNeq rfl rfl lb rfl imeth44 ?_)
 refine AO.nS ?_
 refine AC.condF rfl rfl ?_
 refine AC.skip ?_
 change AC _ _ _ _
 refine AC.joinP (V := (Int × (List Int))) [0, 1, 2] [] 3 (fun g12 => []) (fun g12 => [.fix 108 [.own 1, .d (di .i64 (0 : Int)), .d (di .i8 g12.1)], .grow 5 1 (List.map keS6 g12.2), .frame pv [(0, .ptr 0 0)]]) (fun g12 => (p_Write_MultiPolygon_k4 a0 a1 F) g12 = some r0) rfl ?_ ?_
 ·refine AC.sm 1 rfl ?_
  refine AO.op rfl (AOp.ibits (by simp) rfl rfl lb rfl rfl rfl ?_)
  refine AO.op rfl (AOp.ineq rfl rfl lb rfl rfl ?_)
  refine AO.nS ?_
  refine AC.cond rfl (fun q31 => ?_) (fun q31 => ?_)
  ·replace h0 := cT h0 q31
   refine AC.sm 3 rfl ?_
   refine AO.op rfl (AOp.i2i rfl rfl lb rfl Tryz.underlying3 Tryz.underlying36 rfl ?_)
   obtain ⟨y32, q33, h0⟩ := bind_elim h0
   refine AO.op rfl (AOp.callH (hs := [0, 1]) (unp := [1]) (EntersS.call (by kernel_rfl) rfl rfl) (wh_WriteUInt32 a0 (IntKind.u32.wrap y6) y9.1 y9.2 _ q33) lb (.cons (SVLe.refl _) (.cons (SVLe.refl _) (.cons (SVLe.refl _) .nil))) rfl rfl rfl (.cons rfl (.cons rfl .nil)) (.cons ⟨rfl, rfl⟩ (.cons ⟨rfl, rfl⟩ .nil)) rfl (.cons (.inl rfl) (.cons (.inl rfl) (.cons (.inr rfl) .nil))) rfl ?_)
   rintro _ _ ⟨rfl, rfl⟩
   refine ⟨.d (.v (.nilIface)), [.fix 108 [.own 1, .d (di .i64 (0 : Int)), .d (di .i8 y32.1)], .grow 5 1 (List.map keS6 y32.2)], rfl, (.cons rfl (.cons rfl .nil)), ?_⟩
   refine AO.objs (obs' := [.fix 108 [.own 1, .d (di .i64 (0 : Int)), .d (di .i8 y32.1)], .grow 5 1 (List.map keS6 y32.2), .frame pv [(0, .ptr 0 0)]]) rfl ?_
   refine AO.mn 1 rfl ?_
   refine AC.sm 1 rfl ?_
   refine AO.op rfl (AOp.nilNeq rfl rfl lb rfl imeth44 ?_)
   refine AO.nS ?_
   refine AC.condF rfl rfl ?_
   refine AC.skip ?_
   exact ⟨(y32.1, y32.2), _, rfl, (LeL.refl _), rfl, rfl, h0⟩
  replace h0 := cF h0 q31
  refine AC.skip ?_
  exact ⟨(y9.1, y9.2), _, rfl, (LeL.refl _), rfl, rfl, h0⟩
 intro g12 h0
 unfold p_Write_MultiPolygon_k4 at h0
 refine AC.smn 1 rfl ?_
 refine AC.block ?_
 refine AC.sr ?_
 refine AO.op rfl (AOp.assertNo rfl rfl lb rfl rfl pass89_67 zero67 ?_)
 refine AO.mn 2 rfl ?_
 refine AC.condF rfl rfl ?_
 refine AC.sr ?_
 refine AO.op rfl (AOp.assertNo rfl rfl lb rfl rfl pass89_70 zero70 ?_)
 refine AO.mn 2 rfl ?_
 refine AC.condF rfl rfl ?_
 refine AC.sr ?_
 refine AO.op rfl (AOp.assertNo rfl rfl lb rfl rfl pass89_76 zero76 ?_)
 refine AO.mn 2 rfl ?_
 refine AC.condF rfl rfl ?_
 refine AC.sr ?_
 refine AO.op rfl (AOp.assertNo rfl rfl lb rfl rfl pass89_80 zero80 ?_)
 refine AO.mn 2 rfl ?_
 refine AC.condF rfl rfl ?_
 refine AC.sr ?_
 refine AO.op rfl (AOp.assertNo rfl rfl lb rfl rfl pass89_86 zero86 ?_)
 refine AO.mn 2 rfl ?_
 refine AC.condF rfl rfl ?_
 refine AC.sr ?_
 refine AO.op rfl (AOp.assertYes rfl rfl lb rfl rfl pass89_89 rfl ?_)
 refine AO.mn 2 rfl ?_
 refine AC.condT rfl rfl ?_
 refine AC.smn 1 rfl ?_
 refine AC.sm 1 rfl ?_
 obtain ⟨y13, q14, h0⟩ := bind_elim h0
 refine AO.op rfl (AOp.callD rfl rfl lb rfl rfl (w_MultiPolygon_NumPolygons a1 y13 q14) ?_)
 rintro _ rfl
 refine AO.mn 1 rfl ?_
 refine AC.seq ?_
 refine AC.sm 3 rfl ?_
 refine AO.op rfl (AOp.i2i rfl rfl lb rfl Tryz.underlying3 Tryz.underlying36 rfl ?_)
 obtain ⟨y15, q16, h0⟩ := bind_elim h0
 refine AO.op rfl (AOp.callH (hs := [0, 1]) (unp := [1]) (EntersS.call (by kernel_rfl) rfl rfl) (wh_WriteUInt32 a0 (IntKind.u32.wrap y13) g12.1 g12.2 _ q16) lb (.cons (SVLe.refl _) (.cons (SVLe.refl _) (.cons (SVLe.refl _) .nil))) rfl rfl rfl (.cons rfl (.cons rfl .nil)) (.cons ⟨rfl, rfl⟩ (.cons ⟨rfl, rfl⟩ .nil)) rfl (.cons (.inl rfl) (.cons (.inl rfl) (.cons (.inr rfl) .nil))) rfl ?_)
 rintro _ _ ⟨rfl, rfl⟩
 refine ⟨.d (.v (.nilIface)), [.fix 108 [.own 1, .d (di .i64 (0 : Int)), .d (di .i8 y15.1)], .grow 5 1 (List.map keS6 y15.2)], rfl, (.cons rfl (.cons rfl .nil)), ?_⟩
 refine AO.objs (obs' := [.fix 108 [.own 1, .d (di .i64 (0 : Int)), .d (di .i8 y15.1)], .grow 5 1 (List.map keS6 y15.2), .frame pv [(0, .ptr 0 0)]]) rfl ?_
 refine AO.mn 1 rfl ?_
 refine AC.sm 1 rfl ?_
 refine AO.op rfl (AOp.nilNeq rfl rfl lb rfl imeth44 ?_)
 refine AO.nS ?_
 refine AC.condF rfl rfl ?_
 refine AC.skip ?_
 change AC _ _ _ _
 refine AC.seq ?_
 refine AC.smn 2 rfl ?_
 obtain ⟨o18, l19, h0⟩ := bind_elim h0
 refine AC.joinE (V := (Int × (List Int))) [] [] 3 (fun g20 => []) (fun g20 => [.fix 108 [.own 1, .d (di .i64 (0 : Int)), .d (di .i8 g20.1)], .grow 5 1 (List.map keS6 g20.2), .frame pv [(0, .ptr 0 0)]]) (fun g20 => p_Write_MultiPolygon_k5 g20 = some r0) rfl ?_ ?_
 ·refine AC.block ?_
  refine AC.loopP (V := (Int × Int × (List Int))) (p_Write_MultiPolygon_l6 a0 a1 F y13) o18 [0, 1, 28, 273] [274] 3 (fun g21 => [(274, .d (di .i64 g21.1))]) (fun g21 => [.fix 108 [.own 1, .d (di .i64 (0 : Int)), .d (di .i8 g21.2.1)], .grow 5 1 (List.map keS6 g21.2.2), .frame pv [(0, .ptr 0 0)]]) F ((0 : Int), y15.1, y15.2) l19 rfl rfl (LeL.refl _) rfl rfl ?_
  intro n23 g21 h1
  unfold p_Write_MultiPolygon_l6 at h1
  refine AC.sr ?_
  refine AO.op rfl (AOp.ilss rfl rfl lb rfl rfl ?_)
  refine AO.nS ?_
  refine AC.seq ?_
  refine AC.cond rfl (fun q24 => ?_) (fun q24 => ?_)
  ·replace h1 := cT h1 q24
   refine AC.skip ?_
   change AC _ _ _ _
   refine AC.seq ?_
   refine AC.block ?_
   refine AC.smn 2 rfl ?_
   refine AC.sm 4 rfl ?_
   obtain ⟨y25, q26, h1⟩ := bind_elim h1
   refine AO.op rfl (AOp.callD rfl rfl lb rfl rfl (w_MultiPolygon_Polygon F a1 g21.1 y25 q26) ?_)
   rintro _ rfl
   refine AO.op rfl (AOp.makeIfc rfl rfl lb rfl conc76 ?_)
   obtain ⟨y27, q28, h1⟩ := bind_elim h1
   refine AO.op rfl (AOp.callH (hs := [0, 1]) (unp := [1]) (EntersS.call (by kernel_rfl) rfl rfl) (wh_Write_Polygon F a0 y25 g21.2.1 g21.2.2 _ q28) lb (.cons (SVLe.refl _) (.cons (SVLe.refl _) (.cons (SVLe.refl _) .nil))) rfl rfl rfl (.cons rfl (.cons rfl .nil)) (.cons ⟨rfl, rfl⟩ (.cons ⟨rfl, rfl⟩ .nil)) rfl (.cons (.inl rfl) (.cons (.inl rfl) (.cons (.inr rfl) .nil))) rfl ?_)
   rintro _ _ ⟨rfl, rfl⟩
   refine ⟨.d (.v (.nilIface)), [.fix 108 [.own 1, .d (di .i64 (0 : Int)), .d (di .i8 y27.1)], .grow 5 1 (List.map keS6 y27.2)], rfl, (.cons rfl (.cons rfl .nil)), ?_⟩
   refine AO.objs (obs' := [.fix 108 [.own 1, .d (di .i64 (0 : Int)), .d (di .i8 y27.1)], .grow 5 1 (List.map keS6 y27.2), .frame pv [(0, .ptr 0 0)]]) rfl ?_
   refine AO.mn 1 rfl ?_
   refine AC.sm 1 rfl ?_
   refine AO.op rfl (AOp.nilNeq rfl rfl lb rfl imeth44 ?_)
   refine AO.nS ?_
   refine AC.condF rfl rfl ?_
   refine AC.skip ?_
   change AC _ _ _ _
   refine AC.region ?_
   obtain ⟨q30, h1⟩ := need_elim h1
   refine AO.op rfl (AOp.iadd rfl rfl lb rfl rfl rfl q30.1 q30.2 ?_)
   refine AO.mv 1 rfl ?_
   refine AO.nil ?_
   exact ⟨((g21.1 + (1 : Int)), y27.1, y27.2), _, rfl, (LeL.refl _), rfl, rfl, h1⟩
  replace h1 := cF h1 q24
  refine AC.exit ?_
  obtain rfl := Option.some.inj h1
  exact ⟨(g21.2.1, g21.2.2), _, rfl, (LeL.refl _), rfl, rfl, aftL h0⟩
 intro g20 h0
 unfold p_Write_MultiPolygon_k5 at h0
 change AC _ _ _ _
 refine AC.smn 1 rfl ?_
 obtain rfl := Option.some.inj h0
 refine AC.ret ?_
 change RetH _ _ _ _ _ _ .ret _
 refine reth (post := [.fix 108 [.own 1, .d (di .i64 (0 : Int)), .d (di .i8 g20.1)], .grow 5 1 (List.map keS6 g20.2)]) rfl rfl rfl rfl rfl ?_
 exact ⟨rfl, rfl⟩

set_option maxRecDepth 100000 in
set_option maxHeartbeats 4000000 in
theorem w_GeometryCollection_Empty_b (Rec_ : TGeom_GeometryCollection → Option Bool) (hR : ∀ (a0 : TGeom_GeometryCollection) (r0 : Bool), Rec_ a0 = some r0 → FnD Tryz.prog 125 [.pt (c_TGeom_GeometryCollection a0)] (fun r => r = dbool r0)) (F : Nat) (a0 : TGeom_GeometryCollection) (r0 : Bool) (h0 : p_GeometryCollection_Empty_b Rec_ F a0 = some r0) : FnD Tryz.prog 125 [.pt (c_TGeom_GeometryCollection a0)] (fun r => r = dbool r0) := by
 refine FnD.of (by kernel_rfl) Tryz.func125 rfl Tryz.ntmps125 rfl (leb rfl) fun W ok => ?_
 unfold p_GeometryCollection_Empty_b at h0
 refine AC.smn 1 rfl ?_
 refine AC.seq ?_
 refine AC.sm 1 rfl ?_
 refine AO.op rfl (AOp.nilCheck rfl rfl lb rfl rfl ?_)
 refine AO.op rfl (AOp.fieldAddrPt rfl rfl lb rfl fo149_1 ?_)
 refine AO.op rfl (AOp.loadEp rfl rfl lb rfl agg147 rfl ?_)
 refine AO.op rfl (AOp.lenDs (n := a0.geoms.length) (cells := (List.map keS5 a0.geoms)) rfl rfl lb rfl el147 (by decide) (len1 _ _) ?_)
 refine AO.mn 1 rfl ?_
 obtain ⟨o1, l2, h0⟩ := bind_elim h0
 refine AC.joinE (V := Unit) [] [] 0 (fun g3 => []) (fun g3 => []) (fun g3 => p_GeometryCollection_Empty_k1 g3 = some r0) rfl ?_ ?_
 ·refine AC.block ?_
  refine AC.loopP (V := Int) (p_GeometryCollection_Empty_l2 a0 Rec_) o1 [8, 9] [10] 0 (fun g4 => [(10, .d (di .i64 g4))]) (fun g4 => []) F (0 : Int) l2 rfl rfl (LeL.refl _) rfl rfl ?_
  intro n6 g4 h1
  unfold p_GeometryCollection_Empty_l2 at h1
  refine AC.sr ?_
  refine AO.op rfl (AOp.ilss rfl rfl lb rfl rfl ?_)
  refine AO.nS ?_
  refine AC.seq ?_
  refine AC.cond rfl (fun q7 => ?_) (fun q7 => ?_)
  ·replace h1 := cT h1 q7
   refine AC.skip ?_
   change AC _ _ _ _
   refine AC.seq ?_
   refine AC.block ?_
   refine AC.sr ?_
   obtain ⟨x8, q9, h1⟩ := idx_elim h1
   refine AO.op rfl (AOp.indexDs (cells := (List.map keS5 a0.geoms)) rfl rfl lb rfl rfl el147 (by decide) q9.1 (lt1 q9.2) ?_)
   refine AO.op rfl (AOp.loadEp rfl rfl lb rfl agg48 (at1 q9.2) ?_)
   refine AO.mn 1 rfl ?_
   refine AC.sm 1 rfl ?_
   refine AO.dec (decide (x8.dt = 67)) (fun q10 => ?_) (fun q10 => ?_)
   ·replace h1 := cT h1 q10
    obtain ⟨y11, q12, h1⟩ := bind_elim h1
    refine AO.sub 14 rfl (eIfc_le q10 q12) ?_
    obtain ⟨y13, q14, h1⟩ := bind_elim h1
    refine AO.op rfl (AOp.callE ((EntersS.meth (by kernel_rfl) rfl rfl rfl meth67_Empty rfl rfl).le (.cons (SVLe.epPt (n := 4) rfl) .nil)) rfl lb rfl rfl (w_geom0_Empty y11.geom0 y13 q14) ?_)
    rintro _ rfl
    refine AO.op rfl (AOp.bnot rfl rfl lb rfl ?_)
    refine AO.nS ?_
    refine AC.cond rfl (fun q15 => ?_) (fun q15 => ?_)
    ·replace h1 := cT h1 q15
     refine AC.smn 1 rfl ?_
     refine AC.ret ?_
     change RetQ _ _ _ .ret _
     obtain rfl := Option.some.inj h1
     replace h0 := aftR h0
     obtain rfl := Option.some.inj h0
     refine retq rfl rfl
    replace h1 := cF h1 q15
    refine AC.skip ?_
    change AC _ _ _ _
    refine AC.region ?_
    obtain ⟨q16, h1⟩ := need_elim h1
    refine AO.op rfl (AOp.iadd rfl rfl lb rfl rfl rfl q16.1 q16.2 ?_)
    refine AO.mv 1 rfl ?_
    refine AO.nil ?_
    exact ⟨(g4 + (1 : Int)), _, rfl, (LeL.refl _), rfl, rfl, h1⟩
   replace h1 := cF h1 q10
   refine AO.dec (decide (x8.dt = 70)) (fun q17 => ?_) (fun q17 => ?_)
   ·replace h1 := cT h1 q17
    obtain ⟨y18, q19, h1⟩ := bind_elim h1
    refine AO.sub 14 rfl (eIfc_le q17 q19) ?_
    obtain ⟨y20, q21, h1⟩ := bind_elim h1
    refine AO.op rfl (AOp.callE ((EntersS.meth (by kernel_rfl) rfl rfl rfl meth70_Empty rfl rfl).le (.cons (SVLe.epPt (n := 4) rfl) .nil)) rfl lb rfl rfl (w_geom0_Empty y18.geom1.geom0 y20 q21) ?_)
    rintro _ rfl
    refine AO.op rfl (AOp.bnot rfl rfl lb rfl ?_)
    refine AO.nS ?_
    refine AC.cond rfl (fun q22 => ?_) (fun q22 => ?_)
    ·replace h1 := cT h1 q22
     refine AC.smn 1 rfl ?_
     refine AC.ret ?_
     change RetQ _ _ _ .ret _
     obtain rfl := Option.some.inj h1
     replace h0 := aftR h0
     obtain rfl := Option.some.inj h0
     refine retq rfl rfl
    replace h1 := cF h1 q22
    refine AC.skip ?_
    change AC _ _ _ _
    refine AC.region ?_
    obtain ⟨q23, h1⟩ := need_elim h1
    refine AO.op rfl (AOp.iadd rfl rfl lb rfl rfl rfl q23.1 q23.2 ?_)
    refine AO.mv 1 rfl ?_
    refine AO.nil ?_
    exact ⟨(g4 + (1 : Int)), _, rfl, (LeL.refl _), rfl, rfl, h1⟩
   replace h1 := cF h1 q17
   refine AO.dec (decide (x8.dt = 76)) (fun q24 => ?_) (fun q24 => ?_)
   ·replace h1 := cT h1 q24
    obtain ⟨y25, q26, h1⟩ := bind_elim h1
    refine AO.sub 14 rfl (eIfc_le q24 q26) ?_
    obtain ⟨y27, q28, h1⟩ := bind_elim h1
    refine AO.op rfl (AOp.callE ((EntersS.meth (by kernel_rfl) rfl rfl rfl meth76_Empty rfl rfl).le (.cons (SVLe.epPt (n := 4) rfl) .nil)) rfl lb rfl rfl (w_geom0_Empty y25.geom2.geom1.geom0 y27 q28) ?_)
    rintro _ rfl
    refine AO.op rfl (AOp.bnot rfl rfl lb rfl ?_)
    refine AO.nS ?_
    refine AC.cond rfl (fun q29 => ?_) (fun q29 => ?_)
    ·replace h1 := cT h1 q29
     refine AC.smn 1 rfl ?_
     refine AC.ret ?_
     change RetQ _ _ _ .ret _
     obtain rfl := Option.some.inj h1
     replace h0 := aftR h0
     obtain rfl := Option.some.inj h0
     refine retq rfl rfl
    replace h1 := cF h1 q29
    refine AC.skip ?_
    change AC _ _ _ _
    refine AC.region ?_
    obtain ⟨q30, h1⟩ := need_elim h1
    refine AO.op rfl (AOp.iadd rfl rfl lb rfl rfl rfl q30.1 q30.2 ?_)
    refine AO.mv 1 rfl ?_
    refine AO.nil ?_
    exact ⟨(g4 + (1 : Int)), _, rfl, (LeL.refl _), rfl, rfl, h1⟩
   replace h1 := cF h1 q24
   refine AO.dec (decide (x8.dt = 80)) (fun q31 => ?_) (fun q31 => ?_)
   ·replace h1 := cT h1 q31
    obtain ⟨y32, q33, h1⟩ := bind_elim h1
    refine AO.sub 14 rfl (eIfc_le q31 q33) ?_
    obtain ⟨y34, q35, h1⟩ := bind_elim h1
    refine AO.op rfl (AOp.callE ((EntersS.meth (by kernel_rfl) rfl rfl rfl meth80_Empty rfl rfl).le (.cons (SVLe.epPt (n := 4) rfl) .nil)) rfl lb rfl rfl (w_geom0_Empty y32.geom2.geom1.geom0 y34 q35) ?_)
    rintro _ rfl
    refine AO.op rfl (AOp.bnot rfl rfl lb rfl ?_)
    refine AO.nS ?_
    refine AC.cond rfl (fun q36 => ?_) (fun q36 => ?_)
    ·replace h1 := cT h1 q36
     refine AC.smn 1 rfl ?_
     refine AC.ret ?_
     change RetQ _ _ _ .ret _
     obtain rfl := Option.some.inj h1
     replace h0 := aftR h0
     obtain rfl := Option.some.inj h0
     refine retq rfl rfl
    replace h1 := cF h1 q36
    refine AC.skip ?_
    change AC _ _ _ _
    refine AC.region ?_
    obtain ⟨q37, h1⟩ := need_elim h1
    refine AO.op rfl (AOp.iadd rfl rfl lb rfl rfl rfl q37.1 q37.2 ?_)
    refine AO.mv 1 rfl ?_
    refine AO.nil ?_
    exact ⟨(g4 + (1 : Int)), _, rfl, (LeL.refl _), rfl, rfl, h1⟩
   replace h1 := cF h1 q31
   refine AO.dec (decide (x8.dt = 86)) (fun q38 => ?_) (fun q38 => ?_)
   ·replace h1 := cT h1 q38
    obtain ⟨y39, q40, h1⟩ := bind_elim h1
    refine AO.sub 14 rfl (eIfc_le q38 q40) ?_
    obtain ⟨y41, q42, h1⟩ := bind_elim h1
    refine AO.op rfl (AOp.callE ((EntersS.meth (by kernel_rfl) rfl rfl rfl meth86_Empty rfl rfl).le (.cons (SVLe.epPt (n := 4) rfl) .nil)) rfl lb rfl rfl (w_geom0_Empty y39.geom2.geom1.geom0 y41 q42) ?_)
    rintro _ rfl
    refine AO.op rfl (AOp.bnot rfl rfl lb rfl ?_)
    refine AO.nS ?_
    refine AC.cond rfl (fun q43 => ?_) (fun q43 => ?_)
    ·replace h1 := cT h1 q43
     refine AC.smn 1 rfl ?_
     refine AC.ret ?_
     change RetQ _ _ _ .ret _
     obtain rfl := Option.some.inj h1
     replace h0 := aftR h0
     obtain rfl := Option.some.inj h0
     refine retq rfl rfl
    replace h1 := cF h1 q43
    refine AC.skip ?_
    change AC _ _ _ _
    refine AC.region ?_
    obtain ⟨q44, h1⟩ := need_elim h1
    refine AO.op rfl (AOp.iadd rfl rfl lb rfl rfl rfl q44.1 q44.2 ?_)
    refine AO.mv 1 rfl ?_
    refine AO.nil ?_
    exact ⟨(g4 + (1 : Int)), _, rfl, (LeL.refl _), rfl, rfl, h1⟩
   replace h1 := cF h1 q38
   refine AO.dec (decide (x8.dt = 89)) (fun q45 => ?_) (fun q45 => ?_)
   ·replace h1 := cT h1 q45
    obtain ⟨y46, q47, h1⟩ := bind_elim h1
    refine AO.sub 14 rfl (eIfc_le q45 q47) ?_
    obtain ⟨y48, q49, h1⟩ := bind_elim h1
    refine AO.op rfl (AOp.callE ((EntersS.meth (by kernel_rfl) rfl rfl rfl meth89_Empty rfl rfl).le (.cons (SVLe.epPt (n := 4) rfl) .nil)) rfl lb rfl rfl (w_geom0_Empty y46.geom3.geom1.geom0 y48 q49) ?_)
    rintro _ rfl
    refine AO.op rfl (AOp.bnot rfl rfl lb rfl ?_)
    refine AO.nS ?_
    refine AC.cond rfl (fun q50 => ?_) (fun q50 => ?_)
    ·replace h1 := cT h1 q50
     refine AC.smn 1 rfl ?_
     refine AC.ret ?_
     change RetQ _ _ _ .ret _
     obtain rfl := Option.some.inj h1
     replace h0 := aftR h0
     obtain rfl := Option.some.inj h0
     refine retq rfl rfl
    replace h1 := cF h1 q50
    refine AC.skip ?_
    change AC _ _ _ _
    refine AC.region ?_
    obtain ⟨q51, h1⟩ := need_elim h1
    refine AO.op rfl (AOp.iadd rfl rfl lb rfl rfl rfl q51.1 q51.2 ?_)
    refine AO.mv 1 rfl ?_
    refine AO.nil ?_
    exact ⟨(g4 + (1 : Int)), _, rfl, (LeL.refl _), rfl, rfl, h1⟩
   replace h1 := cF h1 q45
   refine AO.dec (decide (x8.dt = 93)) (fun q52 => ?_) (fun q52 => ?_)
   ·replace h1 := cT h1 q52
    obtain ⟨y53, q54, h1⟩ := bind_elim h1
    refine AO.sub 14 rfl (eIfc_le q52 q54) ?_
    obtain ⟨y55, q56, h1⟩ := bind_elim h1
    refine AO.op rfl (AOp.callE (EntersS.meth (by kernel_rfl) rfl rfl rfl meth93_Empty rfl rfl) rfl lb rfl rfl (hR y53 y55 q56) ?_)
    rintro _ rfl
    refine AO.op rfl (AOp.bnot rfl rfl lb rfl ?_)
    refine AO.nS ?_
    refine AC.cond rfl (fun q57 => ?_) (fun q57 => ?_)
    ·replace h1 := cT h1 q57
     refine AC.smn 1 rfl ?_
     refine AC.ret ?_
     change RetQ _ _ _ .ret _
     obtain rfl := Option.some.inj h1
     replace h0 := aftR h0
     obtain rfl := Option.some.inj h0
     refine retq rfl rfl
    replace h1 := cF h1 q57
    refine AC.skip ?_
    change AC _ _ _ _
    refine AC.region ?_
    obtain ⟨q58, h1⟩ := need_elim h1
    refine AO.op rfl (AOp.iadd rfl rfl lb rfl rfl rfl q58.1 q58.2 ?_)
    refine AO.mv 1 rfl ?_
    refine AO.nil ?_
    exact ⟨(g4 + (1 : Int)), _, rfl, (LeL.refl _), rfl, rfl, h1⟩
   replace h1 := cF h1 q52
   cases h1
  replace h1 := cF h1 q7
  refine AC.exit ?_
  obtain rfl := Option.some.inj h1
  exact ⟨(), _, rfl, (LeL.refl _), rfl, rfl, aftL h0⟩
 intro g3 h0
 unfold p_GeometryCollection_Empty_k1 at h0
 change AC _ _ _ _
 refine AC.smn 1 rfl ?_
 refine AC.ret ?_
 change RetQ _ _ _ .ret _
 obtain rfl := Option.some.inj h0
 refine retq rfl rfl
theorem w_GeometryCollection_Empty : ∀ (F : Nat) (a0 : TGeom_GeometryCollection) (r0 : Bool), p_GeometryCollection_Empty F a0 = some r0 → FnD Tryz.prog 125 [.pt (c_TGeom_GeometryCollection a0)] (fun r => r = dbool r0)
 | 0, _, _, h => by cases h
 | F + 1, a0, r0, h => w_GeometryCollection_Empty_b _ (fun a0 r0 h => w_GeometryCollection_Empty F a0 r0 h) F a0 r0 h

set_option maxRecDepth 100000 in
set_option maxHeartbeats 4000000 in
theorem w_GeometryCollection_SRID (a0 : TGeom_GeometryCollection) (r0 : Int) (h0 : p_GeometryCollection_SRID a0 = some r0) : FnD Tryz.prog 130 [.pt (c_TGeom_GeometryCollection a0)] (fun r => r = di .i64 r0) := by
 refine FnD.of (by kernel_rfl) Tryz.func130 rfl Tryz.ntmps130 rfl (leb rfl) fun W ok => ?_
 unfold p_GeometryCollection_SRID at h0
 refine AC.smn 1 rfl ?_
 refine AC.sm 1 rfl ?_
 refine AO.op rfl (AOp.nilCheck rfl rfl lb rfl rfl ?_)
 refine AO.op rfl (AOp.fieldAddrPt rfl rfl lb rfl fo149_2 ?_)
 refine AO.op rfl (AOp.loadEp rfl rfl lb rfl agg3 rfl ?_)
 refine AO.mn 1 rfl ?_
 refine AC.ret ?_
 change RetQ _ _ _ .ret _
 obtain rfl := Option.some.inj h0
 refine retq rfl rfl

set_option maxRecDepth 100000 in
set_option maxHeartbeats 4000000 in
theorem w_GeometryCollection_NumGeoms (a0 : TGeom_GeometryCollection) (r0 : Int) (h0 : p_GeometryCollection_NumGeoms a0 = some r0) : FnD Tryz.prog 72 [.pt (c_TGeom_GeometryCollection a0)] (fun r => r = di .i64 r0) := by
 refine FnD.of (by kernel_rfl) Tryz.func72 rfl Tryz.ntmps72 rfl (leb rfl) fun W ok => ?_
 unfold p_GeometryCollection_NumGeoms at h0
 refine AC.smn 1 rfl ?_
 refine AC.sm 1 rfl ?_
 refine AO.op rfl (AOp.nilCheck rfl rfl lb rfl rfl ?_)
 refine AO.op rfl (AOp.fieldAddrPt rfl rfl lb rfl fo149_1 ?_)
 refine AO.op rfl (AOp.loadEp rfl rfl lb rfl agg147 rfl ?_)
 refine AO.op rfl (AOp.lenDs (n := a0.geoms.length) (cells := (List.map keS5 a0.geoms)) rfl rfl lb rfl el147 (by decide) (len1 _ _) ?_)
 refine AO.mn 1 rfl ?_
 refine AC.ret ?_
 change RetQ _ _ _ .ret _
 obtain rfl := Option.some.inj h0
 refine retq rfl rfl

set_option maxRecDepth 100000 in
set_option maxHeartbeats 4000000 in
theorem w_GeometryCollection_Geom (a0 : TGeom_GeometryCollection) (a1 : Int) (r0 : IfcV) (h0 : p_GeometryCollection_Geom a0 a1 = some r0) : FnD Tryz.prog 73 [.pt (c_TGeom_GeometryCollection a0), di .i64 a1] (fun r => r = eIfc r0) := by
 refine FnD.of (by kernel_rfl) Tryz.func73 rfl Tryz.ntmps73 rfl (leb rfl) fun W ok => ?_
 unfold p_GeometryCollection_Geom at h0
 refine AC.smn 1 rfl ?_
 refine AC.sm 1 rfl ?_
 refine AO.op rfl (AOp.nilCheck rfl rfl lb rfl rfl ?_)
 refine AO.op rfl (AOp.fieldAddrPt rfl rfl lb rfl fo149_1 ?_)
 refine AO.op rfl (AOp.loadEp rfl rfl lb rfl agg147 rfl ?_)
 refine AO.mv 1 rfl ?_
 obtain ⟨x1, q2, h0⟩ := idx_elim h0
 refine AO.op rfl (AOp.indexDs (cells := (List.map keS5 a0.geoms)) rfl rfl lb rfl rfl el147 (by decide) q2.1 (lt1 q2.2) ?_)
 refine AO.op rfl (AOp.loadEp rfl rfl lb rfl agg48 (at1 q2.2) ?_)
 refine AO.mn 1 rfl ?_
 refine AC.ret ?_
 change RetQ _ _ _ .ret _
 obtain rfl := Option.some.inj h0
 refine retq rfl rfl

def RH_Write_GeometryCollection : (Int × (List Int)) → SV → List Ob → Prop
 | z => fun r post => r = .d (.v (.nilIface)) ∧ post = [.fix 108 [.own 1, .d (di .i64 (0 : Int)), .d (di .i8 z.1)], .grow 5 1 (List.map keS6 z.2)]
set_option maxRecDepth 100000 in
set_option maxHeartbeats 4000000 in
theorem wh_Write_GeometryCollection_b (Rec_ : Bool → TGeom_GeometryCollection → Int → (List Int) → Option (Int × (List Int))) (hR : ∀ (a0 : Bool) (a1 : TGeom_GeometryCollection) (b0 : Int) (b1 : (List Int)) (r0 : (Int × (List Int))), Rec_ a0 a1 b0 b1 = some r0 → FnH Tryz.prog 27 [.ifc 61 (.ptr 0 0), .d (.ifc (bif a0 then 99 else 100) (.ag [])), .ifc 93 (.d (.pt (c_TGeom_GeometryCollection a1)))] [.fix 108 [.own 1, .d (di .i64 (0 : Int)), .d (di .i8 b0)], .grow 5 1 (List.map keS6 b1)] [0] (RH_Write_GeometryCollection r0)) (F : Nat) (a0 : Bool) (a1 : TGeom_GeometryCollection) (b0 : Int) (b1 : (List Int)) (r0 : (Int × (List Int))) (h0 : p_Write_GeometryCollection_b Rec_ F a0 a1 b0 b1 = some r0) : FnH Tryz.prog 27 [.ifc 61 (.ptr 0 0), .d (.ifc (bif a0 then 99 else 100) (.ag [])), .ifc 93 (.d (.pt (c_TGeom_GeometryCollection a1)))] [.fix 108 [.own 1, .d (di .i64 (0 : Int)), .d (di .i8 b0)], .grow 5 1 (List.map keS6 b1)] [0] (RH_Write_GeometryCollection r0) := by
 refine FnH.of (by kernel_rfl) Tryz.func27 rfl Tryz.ntmps27 rfl (leb rfl) fun W ok may pv => ?_
 unfold p_Write_GeometryCollection_b at h0
 refine AC.smn 1 rfl ?_
 refine AC.smn 1 rfl ?_
 refine AC.joinP (V := Int) [0, 1, 2] [7] 3 (fun g1 => [(7, .d (di .u8 g1))]) (fun g1 => [.fix 108 [.own 1, .d (di .i64 (0 : Int)), .d (di .i8 b0)], .grow 5 1 (List.map keS6 b1), .frame pv [(0, .ptr 0 0), (1, .own 1)]]) (fun g1 => (p_Write_GeometryCollection_k1 a0 a1 b0 b1 F Rec_) g1 = some r0) rfl ?_ ?_
 ·refine AC.smn 1 rfl ?_
  refine AC.block ?_
  refine AC.sr ?_
  refine AO.op rfl (AOp.loadG0 rfl rfl lb agg99 size99 ?_)
  refine AO.op rfl (AOp.makeIfc rfl rfl lb rfl conc99 ?_)
  refine AO.op rfl (AOp.ifcEqT rfl rfl lb rfl rfl rfl rfl rfl cmpS99 imeth51 ?_)
  refine AO.mn 1 rfl ?_
  refine AC.cond rfl (fun q91 => ?_) (fun q91 => ?_)
  ·replace h0 := cT h0 q91
   refine AC.region ?_
   refine AO.mv 1 rfl ?_
   refine AO.nil ?_
   exact ⟨(0 : Int), _, rfl, (LeL.refl _), rfl, rfl, h0⟩
  replace h0 := cF h0 q91
  refine AC.sr ?_
  refine AO.op rfl (AOp.loadG0 rfl rfl lb agg100 size100 ?_)
  refine AO.op rfl (AOp.makeIfc rfl rfl lb rfl conc100 ?_)
  refine AO.op rfl (AOp.ifcEqF rfl rfl lb rfl rfl rfl rfl rfl cmpS100 imeth51 ?_)
  refine AO.mn 1 rfl ?_
  refine AC.cond rfl (fun q92 => ?_) (fun q92 => ?_)
  ·replace h0 := cT h0 q92
   refine AC.region ?_
   refine AO.mv 1 rfl ?_
   refine AO.nil ?_
   exact ⟨(1 : Int), _, rfl, (LeL.refl _), rfl, rfl, h0⟩
  replace h0 := cF h0 q92
  cases h0
 intro g1 h0
 unfold p_Write_GeometryCollection_k1 at h0
 refine AC.seq ?_
 refine AC.sm 2 rfl ?_
 refine AO.subF 2 [0] rfl rfl ?_
 obtain ⟨y2, q3, h0⟩ := bind_elim h0
 refine AO.op rfl (AOp.callH (hs := [0, 1]) (unp := [1]) (EntersS.call (by kernel_rfl) rfl rfl) (wh_WriteByte g1 b0 b1 _ q3) lb (.cons (SVLe.refl _) (.cons (SVLe.refl _) .nil)) rfl rfl rfl (.cons rfl (.cons rfl .nil)) (.cons ⟨rfl, rfl⟩ (.cons ⟨rfl, rfl⟩ .nil)) rfl (.cons (.inl rfl) (.cons (.inl rfl) (.cons (.inr rfl) .nil))) rfl ?_)
 rintro _ _ ⟨rfl, rfl⟩
 refine ⟨.d (.v (.nilIface)), [.fix 108 [.own 1, .d (di .i64 (0 : Int)), .d (di .i8 y2.1)], .grow 5 1 (List.map keS6 y2.2)], rfl, (.cons rfl (.cons rfl .nil)), ?_⟩
 refine AO.objs (obs' := [.fix 108 [.own 1, .d (di .i64 (0 : Int)), .d (di .i8 y2.1)], .grow 5 1 (List.map keS6 y2.2), .frame pv [(0, .ptr 0 0)]]) rfl ?_
 refine AO.mn 1 rfl ?_
 refine AC.sm 1 rfl ?_
 refine AO.op rfl (AOp.nilNeq rfl rfl lb rfl imeth44 ?_)
 refine AO.nS ?_
 refine AC.condF rfl rfl ?_
 refine AC.skip ?_
 change AC _ _ _ _
 refine AC.smn 1 rfl ?_
 refine AC.seq ?_
 refine AC.smn 1 rfl ?_
 refine AC.block ?_
 refine AC.sr ?_
 refine AO.op rfl (AOp.assertNo rfl rfl lb rfl rfl pass93_67 zero67 ?_)
 refine AO.mn 2 rfl ?_
 refine AC.condF rfl rfl ?_
 refine AC.sr ?_
 refine AO.op rfl (AOp.assertNo rfl rfl lb rfl rfl pass93_70 zero70 ?_)
 refine AO.mn 2 rfl ?_
 refine AC.condF rfl rfl ?_
 refine AC.sr ?_
 refine AO.op rfl (AOp.assertNo rfl rfl lb rfl rfl pass93_76 zero76 ?_)
 refine AO.mn 2 rfl ?_
 refine AC.condF rfl rfl ?_
 refine AC.sr ?_
 refine AO.op rfl (AOp.assertNo rfl rfl lb rfl rfl pass93_80 zero80 ?_)
 refine AO.mn 2 rfl ?_
 refine AC.condF rfl rfl ?_
 refine AC.sr ?_
 refine AO.op rfl (AOp.assertNo rfl rfl lb rfl rfl pass93_86 zero86 ?_)
 refine AO.mn 2 rfl ?_
 refine AC.condF rfl rfl ?_
 refine AC.sr ?_
 refine AO.op rfl (AOp.assertNo rfl rfl lb rfl rfl pass93_89 zero89 ?_)
 refine AO.mn 2 rfl ?_
 refine AC.condF rfl rfl ?_
 refine AC.sr ?_
 refine AO.op rfl (AOp.assertYes rfl rfl lb rfl rfl pass93_93 rfl ?_)
 refine AO.mn 2 rfl ?_
 refine AC.condT rfl rfl ?_
 refine AC.region ?_
 refine AO.mv 1 rfl ?_
 refine AO.nil (?_ : AC _ _ _ _)
 refine AC.joinP (V := Int) [0, 1, 2] [9] 3 (fun g5 => [(9, .d (di .u32 g5))]) (fun g5 => [.fix 108 [.own 1, .d (di .i64 (0 : Int)), .d (di .i8 y2.1)], .grow 5 1 (List.map keS6 y2.2), .frame pv [(0, .ptr 0 0)]]) (fun g5 => (p_Write_GeometryCollection_k2 a0 a1 F Rec_ y2) g5 = some r0) rfl ?_ ?_
 ·refine AC.sm 1 rfl ?_
  obtain ⟨y81, q82, h0⟩ := bind_elim h0
  refine AO.op rfl (AOp.callE (EntersS.meth (by kernel_rfl) rfl rfl rfl meth93_Layout rfl rfl) rfl lb rfl rfl (w_GeometryCollection_Layout F a1 y81 q82) ?_)
  rintro _ rfl
  refine AO.nS ?_
  refine AC.block ?_
  refine AC.sr ?_
  refine AO.op rfl (AOp.ieql rfl rfl lb rfl rfl ?_)
  refine AO.mn 1 rfl ?_
  refine AC.cond rfl (fun q83 => ?_) (fun q83 => ?_)
  ·replace h0 := cT h0 q83
   refine AC.sm 1 rfl ?_
   refine AO.op rfl (AOp.assertYes rfl rfl lb rfl rfl pass93_93 rfl ?_)
   refine AO.mn 5 rfl ?_
   refine AC.sm 1 rfl ?_
   refine AO.op rfl (AOp.bnot rfl rfl lb rfl ?_)
   refine AO.mv 1 rfl ?_
   refine AO.guardY rfl rfl rfl rfl (AOp.move rfl rfl lb rfl ?_)
   obtain ⟨y84, q85, h0⟩ := bind_elim h0
   refine AO.guardY rfl rfl rfl rfl (AOp.callE (EntersS.meth (by kernel_rfl) rfl rfl rfl meth93_Empty rfl rfl) rfl lb rfl rfl (w_GeometryCollection_Empty F a1 y84 q85) ?_)
   rintro _ rfl
   refine AO.guardY rfl rfl rfl rfl (AOp.bnot rfl rfl lb rfl ?_)
   refine AO.op rfl (AOp.pickN rfl rfl lb rfl rfl rfl ?_)
   refine AO.nS ?_
   refine AC.cond rfl (fun q86 => ?_) (fun q86 => ?_)
   ·replace h0 := cT h0 q86
    cases h0
   replace h0 := cF h0 q86
   refine AC.skip ?_
   exact ⟨(7 : Int), _, rfl, (LeL.refl _), rfl, rfl, h0⟩
  replace h0 := cF h0 q83
  refine AC.sr ?_
  refine AO.op rfl (AOp.ieql rfl rfl lb rfl rfl ?_)
  refine AO.mn 1 rfl ?_
  refine AC.cond rfl (fun q87 => ?_) (fun q87 => ?_)
  ·replace h0 := cT h0 q87
   refine AC.skip ?_
   exact ⟨(7 : Int), _, rfl, (LeL.refl _), rfl, rfl, h0⟩
  replace h0 := cF h0 q87
  refine AC.sr ?_
  refine AO.op rfl (AOp.ieql rfl rfl lb rfl rfl ?_)
  refine AO.mn 1 rfl ?_
  refine AC.cond rfl (fun q88 => ?_) (fun q88 => ?_)
  ·replace h0 := cT h0 q88
   refine AC.region ?_
   refine AO.mv 1 rfl ?_
   refine AO.op rfl (AOp.ibits (by simp) rfl rfl lb rfl rfl rfl ?_)
   refine AO.mv 1 rfl ?_
   refine AO.nil ?_
   exact ⟨(bits .or .u32 (7 : Int) (2147483648 : Int)), _, rfl, (LeL.refl _), rfl, rfl, h0⟩
  replace h0 := cF h0 q88
  refine AC.sr ?_
  refine AO.op rfl (AOp.ieql rfl rfl lb rfl rfl ?_)
  refine AO.mn 1 rfl ?_
  refine AC.cond rfl (fun q89 => ?_) (fun q89 => ?_)
  ·replace h0 := cT h0 q89
   refine AC.region ?_
   refine AO.mv 1 rfl ?_
   refine AO.op rfl (AOp.ibits (by simp) rfl rfl lb rfl rfl rfl ?_)
   refine AO.mv 1 rfl ?_
   refine AO.nil ?_
   exact ⟨(bits .or .u32 (7 : Int) (1073741824 : Int)), _, rfl, (LeL.refl _), rfl, rfl, h0⟩
  replace h0 := cF h0 q89
  refine AC.sr ?_
  refine AO.op rfl (AOp.ieql rfl rfl lb rfl rfl ?_)
  refine AO.mn 1 rfl ?_
  refine AC.cond rfl (fun q90 => ?_) (fun q90 => ?_)
  ·replace h0 := cT h0 q90
   refine AC.region ?_
   refine AO.mv 1 rfl ?_
   refine AO.op rfl (AOp.ibits (by simp) rfl rfl lb rfl rfl rfl ?_)
   refine AO.mv 1 rfl ?_
   refine AO.nil ?_
   exact ⟨(bits .or .u32 (7 : Int) (3221225472 : Int)), _, rfl, (LeL.refl _), rfl, rfl, h0⟩
  replace h0 := cF h0 q90
  cases h0
 intro g5 h0
 unfold p_Write_GeometryCollection_k2 at h0
 refine AC.sm 1 rfl ?_
 obtain ⟨y6, q7, h0⟩ := bind_elim h0
 refine AO.op rfl (AOp.callE (EntersS.meth (by kernel_rfl) rfl rfl rfl meth93_SRID rfl rfl) rfl lb rfl rfl (w_GeometryCollection_SRID a1 y6 q7) ?_)
 rintro _ rfl
 refine AO.mn 1 rfl ?_
 refine AC.joinP (V := Int) [0, 1, 2, 12] [9] 3 (fun g8 => [(9, .d (di .u32 g8))]) (fun g8 => [.fix 108 [.own 1, .d (di .i64 (0 : Int)), .d (di .i8 y2.1)], .grow 5 1 (List.map keS6 y2.2), .frame pv [(0, .ptr 0 0)]]) (fun g8 => (p_Write_GeometryCollection_k3 a0 a1 F Rec_ y2 y6) g8 = some r0) rfl ?_ ?_
 ·refine AC.sm 1 rfl ?_
  refine AO.op rfl (AOp.ineq rfl rfl lb rfl rfl ?_)
  refine AO.nS ?_
  refine AC.cond rfl (fun q80 => ?_) (fun q80 => ?_)
  ·replace h0 := cT h0 q80
   refine AC.region ?_
   refine AO.mv 1 rfl ?_
   refine AO.op rfl (AOp.ibits (by simp) rfl rfl lb rfl rfl rfl ?_)
   refine AO.mv 1 rfl ?_
   refine AO.nil ?_
   exact ⟨(bits .or .u32 g5 (536870912 : Int)), _, rfl, (LeL.refl _), rfl, rfl, h0⟩
  replace h0 := cF h0 q80
  refine AC.skip ?_
  exact ⟨g5, _, rfl, (LeL.refl _), rfl, rfl, h0⟩
 intro g8 h0
 unfold p_Write_GeometryCollection_k3 at h0
 refine AC.seq ?_
 refine AC.sm 3 rfl ?_
 obtain ⟨y9, q10, h0⟩ := bind_elim h0
 refine AO.op rfl (AOp.callH (hs := [0, 1]) (unp := [1]) (EntersS.call (by kernel_rfl) rfl rfl) (wh_WriteUInt32 a0 g8 y2.1 y2.2 _ q10) lb (.cons (SVLe.refl _) (.cons (SVLe.refl _) (.cons (SVLe.refl _) .nil))) rfl rfl rfl (.cons rfl (.cons rfl .nil)) (.cons ⟨rfl, rfl⟩ (.cons ⟨rfl, rfl⟩ .nil)) rfl (.cons (.inl rfl) (.cons (.inl rfl) (.cons (.inr rfl) .nil))) rfl ?_)
 rintro _ _ ⟨rfl, rfl⟩
 refine ⟨.d (.v (.nilIface)), [.fix 108 [.own 1, .d (di .i64 (0 : Int)), .d (di .i8 y9.1)], .grow 5 1 (List.map keS6 y9.2)], rfl, (.cons rfl (.cons rfl .nil)), ?_⟩
 refine AO.objs (obs' := [.fix 108 [.own 1, .d (di .i64 (0 : Int)), .d (di .i8 y9.1)], .grow 5 1 (List.map keS6 y9.2), .frame pv [(0, .ptr 0 0)]]) rfl ?_
 refine AO.mn 1 rfl ?_
 refine AC.sm 1 rfl ?_
 refine AO.op rfl (AOp.nilNeq rfl rfl lb rfl imeth44 ?_)
 refine AO.nS ?_
 refine AC.condF rfl rfl ?_
 refine AC.skip ?_
 change AC _ _ _ _
 refine AC.joinP (V := (Int × (List Int))) [0, 1, 2] [] 3 (fun g12 => []) (fun g12 => [.fix 108 [.own 1, .d (di .i64 (0 : Int)), .d (di .i8 g12.1)], .grow 5 1 (List.map keS6 g12.2), .frame pv [(0, .ptr 0 0)]]) (fun g12 => (p_Write_GeometryCollection_k4 a0 a1 F Rec_) g12 = some r0) rfl ?_ ?_
 ·refine AC.sm 1 rfl ?_
  refine AO.op rfl (AOp.ibits (by simp) rfl rfl lb rfl rfl rfl ?_)
  refine AO.op rfl (AOp.ineq rfl rfl lb rfl rfl ?_)
  refine AO.nS ?_
  refine AC.cond rfl (fun q76 => ?_) (fun q76 => ?_)
  ·replace h0 := cT h0 q76
   refine AC.sm 3 rfl ?_
   refine AO.op rfl (AOp.i2i rfl rfl lb rfl Tryz.underlying3 Tryz.underlying36 rfl ?_)
   obtain ⟨y77, q78, h0⟩ := bind_elim h0
   refine AO.op rfl (AOp.callH (hs := [0, 1]) (unp := [1]) (EntersS.call (by kernel_rfl) rfl rfl) (wh_WriteUInt32 a0 (IntKind.u32.wrap y6) y9.1 y9.2 _ q78) lb (.cons (SVLe.refl _) (.cons (SVLe.refl _) (.cons (SVLe.refl _) .nil))) rfl rfl rfl (.cons rfl (.cons rfl .nil)) (.cons ⟨rfl, rfl⟩ (.cons ⟨rfl, rfl⟩ .nil)) rfl (.cons (.inl rfl) (.cons (.inl rfl) (.cons (.inr rfl) .nil))) rfl ?_)
   rintro _ _ ⟨rfl, rfl⟩
   refine ⟨.d (.v (.nilIface)), [.fix 108 [.own 1, .d (di .i64 (0 : Int)), .d (di .i8 y77.1)], .grow 5 1 (List.map keS6 y77.2)], rfl, (.cons rfl (.cons rfl .nil)), ?_⟩
   refine AO.objs (obs' := [.fix 108 [.own 1, .d (di .i64 (0 : Int)), .d (di .i8 y77.1)], .grow 5 1 (List.map keS6 y77.2), .frame pv [(0, .ptr 0 0)]]) rfl ?_
   refine AO.mn 1 rfl ?_
   refine AC.sm 1 rfl ?_
   refine AO.op rfl (AOp.nilNeq rfl rfl lb rfl imeth44 ?_)
   refine AO.nS ?_
   refine AC.condF rfl rfl ?_
   refine AC.skip ?_
   exact ⟨(y77.1, y77.2), _, rfl, (LeL.refl _), rfl, rfl, h0⟩
  replace h0 := cF h0 q76
  refine AC.skip ?_
  exact ⟨(y9.1, y9.2), _, rfl, (LeL.refl _), rfl, rfl, h0⟩
 intro g12 h0
 unfold p_Write_GeometryCollection_k4 at h0
 refine AC.smn 1 rfl ?_
 refine AC.block ?_
 refine AC.sr ?_
 refine AO.op rfl (AOp.assertNo rfl rfl lb rfl rfl pass93_67 zero67 ?_)
 refine AO.mn 2 rfl ?_
 refine AC.condF rfl rfl ?_
 refine AC.sr ?_
 refine AO.op rfl (AOp.assertNo rfl rfl lb rfl rfl pass93_70 zero70 ?_)
 refine AO.mn 2 rfl ?_
 refine AC.condF rfl rfl ?_
 refine AC.sr ?_
 refine AO.op rfl (AOp.assertNo rfl rfl lb rfl rfl pass93_76 zero76 ?_)
 refine AO.mn 2 rfl ?_
 refine AC.condF rfl rfl ?_
 refine AC.sr ?_
 refine AO.op rfl (AOp.assertNo rfl rfl lb rfl rfl pass93_80 zero80 ?_)
 refine AO.mn 2 rfl ?_
 refine AC.condF rfl rfl ?_
 refine AC.sr ?_
 refine AO.op rfl (AOp.assertNo rfl rfl lb rfl rfl pass93_86 zero86 ?_)
 refine AO.mn 2 rfl ?_
 refine AC.condF rfl rfl ?_
 refine AC.sr ?_
 refine AO.op rfl (AOp.assertNo rfl rfl lb rfl rfl pass93_89 zero89 ?_)
 refine AO.mn 2 rfl ?_
 refine AC.condF rfl rfl ?_
 refine AC.sr ?_
 refine AO.op rfl (AOp.assertYes rfl rfl lb rfl rfl pass93_93 rfl ?_)
 refine AO.mn 2 rfl ?_
 refine AC.condT rfl rfl ?_
 refine AC.smn 1 rfl ?_
 refine AC.sm 1 rfl ?_
 obtain ⟨y13, q14, h0⟩ := bind_elim h0
 refine AO.op rfl (AOp.callD rfl rfl lb rfl rfl (w_GeometryCollection_NumGeoms a1 y13 q14) ?_)
 rintro _ rfl
 refine AO.mn 1 rfl ?_
 refine AC.seq ?_
 refine AC.sm 3 rfl ?_
 refine AO.op rfl (AOp.i2i rfl rfl lb rfl Tryz.underlying3 Tryz.underlying36 rfl ?_)
 obtain ⟨y15, q16, h0⟩ := bind_elim h0
 refine AO.op rfl (AOp.callH (hs := [0, 1]) (unp := [1]) (EntersS.call (by kernel_rfl) rfl rfl) (wh_WriteUInt32 a0 (IntKind.u32.wrap y13) g12.1 g12.2 _ q16) lb (.cons (SVLe.refl _) (.cons (SVLe.refl _) (.cons (SVLe.refl _) .nil))) rfl rfl rfl (.cons rfl (.cons rfl .nil)) (.cons ⟨rfl, rfl⟩ (.cons ⟨rfl, rfl⟩ .nil)) rfl (.cons (.inl rfl) (.cons (.inl rfl) (.cons (.inr rfl) .nil))) rfl ?_)
 rintro _ _ ⟨rfl, rfl⟩
 refine ⟨.d (.v (.nilIface)), [.fix 108 [.own 1, .d (di .i64 (0 : Int)), .d (di .i8 y15.1)], .grow 5 1 (List.map keS6 y15.2)], rfl, (.cons rfl (.cons rfl .nil)), ?_⟩
 refine AO.objs (obs' := [.fix 108 [.own 1, .d (di .i64 (0 : Int)), .d (di .i8 y15.1)], .grow 5 1 (List.map keS6 y15.2), .frame pv [(0, .ptr 0 0)]]) rfl ?_
 refine AO.mn 1 rfl ?_
 refine AC.sm 1 rfl ?_
 refine AO.op rfl (AOp.nilNeq rfl rfl lb rfl imeth44 ?_)
 refine AO.nS ?_
 refine AC.condF rfl rfl ?_
 refine AC.skip ?_
 change AC _ _ _ _
 refine AC.seq ?_
 refine AC.smn 2 rfl ?_
 obtain ⟨o18, l19, h0⟩ := bind_elim h0
 refine AC.joinE (V := (Int × (List Int))) [] [] 3 (fun g20 => []) (fun g20 => [.fix 108 [.own 1, .d (di .i64 (0 : Int)), .d (di .i8 g20.1)], .grow 5 1 (List.map keS6 g20.2), .frame pv [(0, .ptr 0 0)]]) (fun g20 => p_Write_GeometryCollection_k5 g20 = some r0) rfl ?_ ?_
 ·refine AC.block ?_
  refine AC.loopP (V := (Int × Int × (List Int))) (p_Write_GeometryCollection_l6 a0 a1 F Rec_ y13) o18 [0, 1, 33, 301] [302] 3 (fun g21 => [(302, .d (di .i64 g21.1))]) (fun g21 => [.fix 108 [.own 1, .d (di .i64 (0 : Int)), .d (di .i8 g21.2.1)], .grow 5 1 (List.map keS6 g21.2.2), .frame pv [(0, .ptr 0 0)]]) F ((0 : Int), y15.1, y15.2) l19 rfl rfl (LeL.refl _) rfl rfl ?_
  intro n23 g21 h1
  unfold p_Write_GeometryCollection_l6 at h1
  refine AC.sr ?_
  refine AO.op rfl (AOp.ilss rfl rfl lb rfl rfl ?_)
  refine AO.nS ?_
  refine AC.seq ?_
  refine AC.cond rfl (fun q24 => ?_) (fun q24 => ?_)
  ·replace h1 := cT h1 q24
   refine AC.skip ?_
   change AC _ _ _ _
   refine AC.seq ?_
   refine AC.block ?_
   refine AC.smn 2 rfl ?_
   refine AC.sm 4 rfl ?_
   obtain ⟨y25, q26, h1⟩ := bind_elim h1
   refine AO.op rfl (AOp.callD rfl rfl lb rfl rfl (w_GeometryCollection_Geom a1 g21.1 y25 q26) ?_)
   rintro _ rfl
   refine AO.dec (decide (y25.dt = 67)) (fun q27 => ?_) (fun q27 => ?_)
   ·replace h1 := cT h1 q27
    obtain ⟨y28, q29, h1⟩ := bind_elim h1
    refine AO.sub 309 rfl (eIfc_le q27 q29) ?_
    obtain ⟨y30, q31, h1⟩ := bind_elim h1
    refine AO.op rfl (AOp.callH (hs := [0, 1]) (unp := [1]) (EntersS.call (by kernel_rfl) rfl rfl) (wh_Write_Point F a0 y28 g21.2.1 g21.2.2 _ q31) lb (.cons (SVLe.refl _) (.cons (SVLe.refl _) (.cons (SVLe.refl _) .nil))) rfl rfl rfl (.cons rfl (.cons rfl .nil)) (.cons ⟨rfl, rfl⟩ (.cons ⟨rfl, rfl⟩ .nil)) rfl (.cons (.inl rfl) (.cons (.inl rfl) (.cons (.inr rfl) .nil))) rfl ?_)
    rintro _ _ ⟨rfl, rfl⟩
    refine ⟨.d (.v (.nilIface)), [.fix 108 [.own 1, .d (di .i64 (0 : Int)), .d (di .i8 y30.1)], .grow 5 1 (List.map keS6 y30.2)], rfl, (.cons rfl (.cons rfl .nil)), ?_⟩
    refine AO.objs (obs' := [.fix 108 [.own 1, .d (di .i64 (0 : Int)), .d (di .i8 y30.1)], .grow 5 1 (List.map keS6 y30.2), .frame pv [(0, .ptr 0 0)]]) rfl ?_
    refine AO.mn 1 rfl ?_
    refine AC.sm 1 rfl ?_
    refine AO.op rfl (AOp.nilNeq rfl rfl lb rfl imeth44 ?_)
    refine AO.nS ?_
    refine AC.condF rfl rfl ?_
    refine AC.skip ?_
    change AC _ _ _ _
    refine AC.region ?_
    obtain ⟨q33, h1⟩ := need_elim h1
    refine AO.op rfl (AOp.iadd rfl rfl lb rfl rfl rfl q33.1 q33.2 ?_)
    refine AO.mv 1 rfl ?_
    refine AO.nil ?_
    exact ⟨((g21.1 + (1 : Int)), y30.1, y30.2), _, rfl, (LeL.refl _), rfl, rfl, h1⟩
   replace h1 := cF h1 q27
   refine AO.dec (decide (y25.dt = 70)) (fun q34 => ?_) (fun q34 => ?_)
   ·replace h1 := cT h1 q34
    obtain ⟨y35, q36, h1⟩ := bind_elim h1
    refine AO.sub 309 rfl (eIfc_le q34 q36) ?_
    obtain ⟨y37, q38, h1⟩ := bind_elim h1
    refine AO.op rfl (AOp.callH (hs := [0, 1]) (unp := [1]) (EntersS.call (by kernel_rfl) rfl rfl) (wh_Write_LineString F a0 y35 g21.2.1 g21.2.2 _ q38) lb (.cons (SVLe.refl _) (.cons (SVLe.refl _) (.cons (SVLe.refl _) .nil))) rfl rfl rfl (.cons rfl (.cons rfl .nil)) (.cons ⟨rfl, rfl⟩ (.cons ⟨rfl, rfl⟩ .nil)) rfl (.cons (.inl rfl) (.cons (.inl rfl) (.cons (.inr rfl) .nil))) rfl ?_)
    rintro _ _ ⟨rfl, rfl⟩
    refine ⟨.d (.v (.nilIface)), [.fix 108 [.own 1, .d (di .i64 (0 : Int)), .d (di .i8 y37.1)], .grow 5 1 (List.map keS6 y37.2)], rfl, (.cons rfl (.cons rfl .nil)), ?_⟩
    refine AO.objs (obs' := [.fix 108 [.own 1, .d (di .i64 (0 : Int)), .d (di .i8 y37.1)], .grow 5 1 (List.map keS6 y37.2), .frame pv [(0, .ptr 0 0)]]) rfl ?_
    refine AO.mn 1 rfl ?_
    refine AC.sm 1 rfl ?_
    refine AO.op rfl (AOp.nilNeq rfl rfl lb rfl imeth44 ?_)
    refine AO.nS ?_
    refine AC.condF rfl rfl ?_
    refine AC.skip ?_
    change AC _ _ _ _
    refine AC.region ?_
    obtain ⟨q40, h1⟩ := need_elim h1
    refine AO.op rfl (AOp.iadd rfl rfl lb rfl rfl rfl q40.1 q40.2 ?_)
    refine AO.mv 1 rfl ?_
    refine AO.nil ?_
    exact ⟨((g21.1 + (1 : Int)), y37.1, y37.2), _, rfl, (LeL.refl _), rfl, rfl, h1⟩
   replace h1 := cF h1 q34
   refine AO.dec (decide (y25.dt = 76)) (fun q41 => ?_) (fun q41 => ?_)
   ·replace h1 := cT h1 q41
    obtain ⟨y42, q43, h1⟩ := bind_elim h1
    refine AO.sub 309 rfl (eIfc_le q41 q43) ?_
    obtain ⟨y44, q45, h1⟩ := bind_elim h1
    refine AO.op rfl (AOp.callH (hs := [0, 1]) (unp := [1]) (EntersS.call (by kernel_rfl) rfl rfl) (wh_Write_Polygon F a0 y42 g21.2.1 g21.2.2 _ q45) lb (.cons (SVLe.refl _) (.cons (SVLe.refl _) (.cons (SVLe.refl _) .nil))) rfl rfl rfl (.cons rfl (.cons rfl .nil)) (.cons ⟨rfl, rfl⟩ (.cons ⟨rfl, rfl⟩ .nil)) rfl (.cons (.inl rfl) (.cons (.inl rfl) (.cons (.inr rfl) .nil))) rfl ?_)
    rintro _ _ ⟨rfl, rfl⟩
    refine ⟨.d (.v (.nilIface)), [.fix 108 [.own 1, .d (di .i64 (0 : Int)), .d (di .i8 y44.1)], .grow 5 1 (List.map keS6 y44.2)], rfl, (.cons rfl (.cons rfl .nil)), ?_⟩
    refine AO.objs (obs' := [.fix 108 [.own 1, .d (di .i64 (0 : Int)), .d (di .i8 y44.1)], .grow 5 1 (List.map keS6 y44.2), .frame pv [(0, .ptr 0 0)]]) rfl ?_
    refine AO.mn 1 rfl ?_
    refine AC.sm 1 rfl ?_
    refine AO.op rfl (AOp.nilNeq rfl rfl lb rfl imeth44 ?_)
    refine AO.nS ?_
    refine AC.condF rfl rfl ?_
    refine AC.skip ?_
    change AC _ _ _ _
    refine AC.region ?_
    obtain ⟨q47, h1⟩ := need_elim h1
    refine AO.op rfl (AOp.iadd rfl rfl lb rfl rfl rfl q47.1 q47.2 ?_)
    refine AO.mv 1 rfl ?_
    refine AO.nil ?_
    exact ⟨((g21.1 + (1 : Int)), y44.1, y44.2), _, rfl, (LeL.refl _), rfl, rfl, h1⟩
   replace h1 := cF h1 q41
   refine AO.dec (decide (y25.dt = 80)) (fun q48 => ?_) (fun q48 => ?_)
   ·replace h1 := cT h1 q48
    obtain ⟨y49, q50, h1⟩ := bind_elim h1
    refine AO.sub 309 rfl (eIfc_le q48 q50) ?_
    obtain ⟨y51, q52, h1⟩ := bind_elim h1
    refine AO.op rfl (AOp.callH (hs := [0, 1]) (unp := [1]) (EntersS.call (by kernel_rfl) rfl rfl) (wh_Write_MultiPoint F a0 y49 g21.2.1 g21.2.2 _ q52) lb (.cons (SVLe.refl _) (.cons (SVLe.refl _) (.cons (SVLe.refl _) .nil))) rfl rfl rfl (.cons rfl (.cons rfl .nil)) (.cons ⟨rfl, rfl⟩ (.cons ⟨rfl, rfl⟩ .nil)) rfl (.cons (.inl rfl) (.cons (.inl rfl) (.cons (.inr rfl) .nil))) rfl ?_)
    rintro _ _ ⟨rfl, rfl⟩
    refine ⟨.d (.v (.nilIface)), [.fix 108 [.own 1, .d (di .i64 (0 : Int)), .d (di .i8 y51.1)], .grow 5 1 (List.map keS6 y51.2)], rfl, (.cons rfl (.cons rfl .nil)), ?_⟩
    refine AO.objs (obs' := [.fix 108 [.own 1, .d (di .i64 (0 : Int)), .d (di .i8 y51.1)], .grow 5 1 (List.map keS6 y51.2), .frame pv [(0, .ptr 0 0)]]) rfl ?_
    refine AO.mn 1 rfl ?_
    refine AC.sm 1 rfl ?_
    refine AO.op rfl (AOp.nilNeq rfl rfl lb rfl imeth44 ?_)
    refine AO.nS ?_
    refine AC.condF rfl rfl ?_
    refine AC.skip ?_
    change AC _ _ _ _
    refine AC.region ?_
    obtain ⟨q54, h1⟩ := need_elim h1
    refine AO.op rfl (AOp.iadd rfl rfl lb rfl rfl rfl q54.1 q54.2 ?_)
    refine AO.mv 1 rfl ?_
    refine AO.nil ?_
    exact ⟨((g21.1 + (1 : Int)), y51.1, y51.2), _, rfl, (LeL.refl _), rfl, rfl, h1⟩
   replace h1 := cF h1 q48
   refine AO.dec (decide (y25.dt = 86)) (fun q55 => ?_) (fun q55 => ?_)
   ·replace h1 := cT h1 q55
    obtain ⟨y56, q57, h1⟩ := bind_elim h1
    refine AO.sub 309 rfl (eIfc_le q55 q57) ?_
    obtain ⟨y58, q59, h1⟩ := bind_elim h1
    refine AO.op rfl (AOp.callH (hs := [0, 1]) (unp := [1]) (EntersS.call (by kernel_rfl) rfl rfl) (wh_Write_MultiLineString F a0 y56 g21.2.1 g21.2.2 _ q59) lb (.cons (SVLe.refl _) (.cons (SVLe.refl _) (.cons (SVLe.refl _) .nil))) rfl rfl rfl (.cons rfl (.cons rfl .nil)) (.cons ⟨rfl, rfl⟩ (.cons ⟨rfl, rfl⟩ .nil)) rfl (.cons (.inl rfl) (.cons (.inl rfl) (.cons (.inr rfl) .nil))) rfl ?_)
    rintro _ _ ⟨rfl, rfl⟩
    refine ⟨.d (.v (.nilIface)), [.fix 108 [.own 1, .d (di .i64 (0 : Int)), .d (di .i8 y58.1)], .grow 5 1 (List.map keS6 y58.2)], rfl, (.cons rfl (.cons rfl .nil)), ?_⟩
    refine AO.objs (obs' := [.fix 108 [.own 1, .d (di .i64 (0 : Int)), .d (di .i8 y58.1)], .grow 5 1 (List.map keS6 y58.2), .frame pv [(0, .ptr 0 0)]]) rfl ?_
    refine AO.mn 1 rfl ?_
    refine AC.sm 1 rfl ?_
    refine AO.op rfl (AOp.nilNeq rfl rfl lb rfl imeth44 ?_)
    refine AO.nS ?_
    refine AC.condF rfl rfl ?_
    refine AC.skip ?_
    change AC _ _ _ _
    refine AC.region ?_
    obtain ⟨q61, h1⟩ := need_elim h1
    refine AO.op rfl (AOp.iadd rfl rfl lb rfl rfl rfl q61.1 q61.2 ?_)
    refine AO.mv 1 rfl ?_
    refine AO.nil ?_
    exact ⟨((g21.1 + (1 : Int)), y58.1, y58.2), _, rfl, (LeL.refl _), rfl, rfl, h1⟩
   replace h1 := cF h1 q55
   refine AO.dec (decide (y25.dt = 89)) (fun q62 => ?_) (fun q62 => ?_)
   ·replace h1 := cT h1 q62
    obtain ⟨y63, q64, h1⟩ := bind_elim h1
    refine AO.sub 309 rfl (eIfc_le q62 q64) ?_
    obtain ⟨y65, q66, h1⟩ := bind_elim h1
    refine AO.op rfl (AOp.callH (hs := [0, 1]) (unp := [1]) (EntersS.call (by kernel_rfl) rfl rfl) (wh_Write_MultiPolygon F a0 y63 g21.2.1 g21.2.2 _ q66) lb (.cons (SVLe.refl _) (.cons (SVLe.refl _) (.cons (SVLe.refl _) .nil))) rfl rfl rfl (.cons rfl (.cons rfl .nil)) (.cons ⟨rfl, rfl⟩ (.cons ⟨rfl, rfl⟩ .nil)) rfl (.cons (.inl rfl) (.cons (.inl rfl) (.cons (.inr rfl) .nil))) rfl ?_)
    rintro _ _ ⟨rfl, rfl⟩
    refine ⟨.d (.v (.nilIface)), [.fix 108 [.own 1, .d (di .i64 (0 : Int)), .d (di .i8 y65.1)], .grow 5 1 (List.map keS6 y65.2)], rfl, (.cons rfl (.cons rfl .nil)), ?_⟩
    refine AO.objs (obs' := [.fix 108 [.own 1, .d (di .i64 (0 : Int)), .d (di .i8 y65.1)], .grow 5 1 (List.map keS6 y65.2), .frame pv [(0, .ptr 0 0)]]) rfl ?_
    refine AO.mn 1 rfl ?_
    refine AC.sm 1 rfl ?_
    refine AO.op rfl (AOp.nilNeq rfl rfl lb rfl imeth44 ?_)
    refine AO.nS ?_
    refine AC.condF rfl rfl ?_
    refine AC.skip ?_
    change AC _ _ _ _
    refine AC.region ?_
    obtain ⟨q68, h1⟩ := need_elim h1
    refine AO.op rfl (AOp.iadd rfl rfl lb rfl rfl rfl q68.1 q68.2 ?_)
    refine AO.mv 1 rfl ?_
    refine AO.nil ?_
    exact ⟨((g21.1 + (1 : Int)), y65.1, y65.2), _, rfl, (LeL.refl _), rfl, rfl, h1⟩
   replace h1 := cF h1 q62
   refine AO.dec (decide (y25.dt = 93)) (fun q69 => ?_) (fun q69 => ?_)
   ·replace h1 := cT h1 q69
    obtain ⟨y70, q71, h1⟩ := bind_elim h1
    refine AO.sub 309 rfl (eIfc_le q69 q71) ?_
    obtain ⟨y72, q73, h1⟩ := bind_elim h1
    refine AO.op rfl (AOp.callH (hs := [0, 1]) (unp := [1]) (EntersS.call (by kernel_rfl) rfl rfl) (hR a0 y70 g21.2.1 g21.2.2 _ q73) lb (.cons (SVLe.refl _) (.cons (SVLe.refl _) (.cons (SVLe.refl _) .nil))) rfl rfl rfl (.cons rfl (.cons rfl .nil)) (.cons ⟨rfl, rfl⟩ (.cons ⟨rfl, rfl⟩ .nil)) rfl (.cons (.inl rfl) (.cons (.inl rfl) (.cons (.inr rfl) .nil))) rfl ?_)
    rintro _ _ ⟨rfl, rfl⟩
    refine ⟨.d (.v (.nilIface)), [.fix 108 [.own 1, .d (di .i64 (0 : Int)), .d (di .i8 y72.1)], .grow 5 1 (List.map keS6 y72.2)], rfl, (.cons rfl (.cons rfl .nil)), ?_⟩
    refine AO.objs (obs' := [.fix 108 [.own 1, .d (di .i64 (0 : Int)), .d (di .i8 y72.1)], .grow 5 1 (List.map keS6 y72.2), .frame pv [(0, .ptr 0 0)]]) rfl ?_
    refine AO.mn 1 rfl ?_
    refine AC.sm 1 rfl ?_
    refine AO.op rfl (AOp.nilNeq rfl rfl lb rfl imeth44 ?_)
    refine AO.nS ?_
    refine AC.condF rfl rfl ?_
    refine AC.skip ?_
    change AC _ _ _ _
    refine AC.region ?_
    obtain ⟨q75, h1⟩ := need_elim h1
    refine AO.op rfl (AOp.iadd rfl rfl lb rfl rfl rfl q75.1 q75.2 ?_)
    refine AO.mv 1 rfl ?_
    refine AO.nil ?_
    exact ⟨((g21.1 + (1 : Int)), y72.1, y72.2), _, rfl, (LeL.refl _), rfl, rfl, h1⟩
   replace h1 := cF h1 q69
   cases h1
  replace h1 := cF h1 q24
  refine AC.exit ?_
  obtain rfl := Option.some.inj h1
  exact ⟨(g21.2.1, g21.2.2), _, rfl, (LeL.refl _), rfl, rfl, aftL h0⟩
 intro g20 h0
 unfold p_Write_GeometryCollection_k5 at h0
 change AC _ _ _ _
 refine AC.smn 1 rfl ?_
 obtain rfl := Option.some.inj h0
 refine AC.ret ?_
 change RetH _ _ _ _ _ _ .ret _
 refine reth (post := [.fix 108 [.own 1, .d (di .i64 (0 : Int)), .d (di .i8 g20.1)], .grow 5 1 (List.map keS6 g20.2)]) rfl rfl rfl rfl rfl ?_
 exact ⟨rfl, rfl⟩
theorem wh_Write_GeometryCollection : ∀ (F : Nat) (a0 : Bool) (a1 : TGeom_GeometryCollection) (b0 : Int) (b1 : (List Int)) (r0 : (Int × (List Int))), p_Write_GeometryCollection F a0 a1 b0 b1 = some r0 → FnH Tryz.prog 27 [.ifc 61 (.ptr 0 0), .d (.ifc (bif a0 then 99 else 100) (.ag [])), .ifc 93 (.d (.pt (c_TGeom_GeometryCollection a1)))] [.fix 108 [.own 1, .d (di .i64 (0 : Int)), .d (di .i8 b0)], .grow 5 1 (List.map keS6 b1)] [0] (RH_Write_GeometryCollection r0)
 | 0, _, _, _, _, _, h => by cases h
 | F + 1, a0, a1, b0, b1, r0, h => wh_Write_GeometryCollection_b _ (fun a0 a1 b0 b1 r0 h => wh_Write_GeometryCollection F a0 a1 b0 b1 r0 h) F a0 a1 b0 b1 r0 h

end Go.Proofs.YtbinnbmpedmabaaGreat.Wk
