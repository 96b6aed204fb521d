/- Proved: functions of the program compute what the printed functions say, wherever these say something. -/
import Derived.Test.YtjhdpnjlphpboaaDoorPWt
import Derived.Test.YtjhdpnjlphpboaaDoorLibC
import Derived.Test.YtjhdpnjlphpboaaDoorProg
namespace Go.Proofs.YtjhdpnjlphpboaaDoor.Wk
open Go.Vm
set_option linter.unusedVariables false
set_option linter.unusedSimpArgs false
theorem agg22 : aggT Tryd.prog 22 = some false := by kernel_rfl
theorem agg24 : aggT Tryd.prog 24 = some false := by kernel_rfl
theorem agg3 : aggT Tryd.prog 3 = some false := by kernel_rfl
theorem agg31 : aggT Tryd.prog 31 = some false := by kernel_rfl
theorem agg32 : aggT Tryd.prog 32 = some false := by kernel_rfl
theorem agg33 : aggT Tryd.prog 33 = some false := by kernel_rfl
theorem agg35 : aggT Tryd.prog 35 = some true := by kernel_rfl
theorem agg4 : aggT Tryd.prog 4 = some false := by kernel_rfl
theorem agg5 : aggT Tryd.prog 5 = some false := by kernel_rfl
theorem agg57 : aggT Tryd.prog 57 = some false := by kernel_rfl
theorem agg63 : aggT Tryd.prog 63 = some false := by kernel_rfl
theorem agg94 : aggT Tryd.prog 94 = some true := by kernel_rfl
theorem agg95 : aggT Tryd.prog 95 = some true := by kernel_rfl
theorem ar102 : arrT Tryd.prog 102 = some (4, 5, 1) := by kernel_rfl
theorem ar89 : arrT Tryd.prog 89 = some (4, 3, 1) := by kernel_rfl
theorem cmpE : ∀ u, ErrT u → cmpP Tryd.prog u = true := fun u h => by obtain rfl : u = _ := h; kernel_rfl
theorem conc54 : concT Tryd.prog 54 = true := by kernel_rfl
theorem conc94 : concT Tryd.prog 94 = true := by kernel_rfl
theorem conc95 : concT Tryd.prog 95 = true := by kernel_rfl
theorem el22 : elemT Tryd.prog 22 = some (5, 1) := by kernel_rfl
theorem el24 : elemT Tryd.prog 24 = some (63, 1) := by kernel_rfl
theorem el31 : elemT Tryd.prog 31 = some (3, 1) := by kernel_rfl
theorem el32 : elemT Tryd.prog 32 = some (31, 1) := by kernel_rfl
theorem el33 : elemT Tryd.prog 33 = some (35, 7) := by kernel_rfl
theorem fo35_0 : fieldOff Tryd.prog 35 0 = some 0 := by kernel_rfl
theorem fo35_1 : fieldOff Tryd.prog 35 1 = some 1 := by kernel_rfl
theorem fo35_3 : fieldOff Tryd.prog 35 3 = some 3 := by kernel_rfl
theorem fo35_4 : fieldOff Tryd.prog 35 4 = some 4 := by kernel_rfl
theorem fo35_5 : fieldOff Tryd.prog 35 5 = some 5 := by kernel_rfl
theorem fo35_6 : fieldOff Tryd.prog 35 6 = some 6 := by kernel_rfl
theorem fo71_0 : fieldOff Tryd.prog 71 0 = some 0 := by kernel_rfl
theorem fo71_1 : fieldOff Tryd.prog 71 1 = some 1 := by kernel_rfl
theorem fo71_2 : fieldOff Tryd.prog 71 2 = some 2 := by kernel_rfl
theorem fo78_0 : fieldOff Tryd.prog 78 0 = some 0 := by kernel_rfl
theorem fo78_1 : fieldOff Tryd.prog 78 1 = some 1 := by kernel_rfl
theorem idle27 (vs : Array Value) (w : World) (h : vs.size = 2) : CallsD Tryd.prog 27 vs .returning w fun e u' w' => e = .returned (.tuple #[]) ∧ u' = .returning ∧ w' = w := by
 obtain ⟨x0, x1, rfl⟩ : ∃ x0 x1, vs = #[x0, x1] := by
  obtain ⟨l⟩ := vs
  match l, h with
  | [x0, x1], _ => exact ⟨x0, x1, rfl⟩
 refine callsD_of_wpS Tryd.func27 rfl fun c₀ cs hu => ?_
 apply wpS_seq
 apply wpS_region
 simp [wpOpsS, go_sem, recoverD, hu, Tryd.ntmps27, Exit.thenS]
 refine wpS_cond (t := false) (by simp [Act.eval, Array.replicate]) ?_
 simp only [Bool.false_eq_true, if_false]
 refine wpS_of_wp (wp_skip ?_)
 cases c₀
 simp_all [bodyPostS, results, Tryd.results27]
theorem idle30 (vs : Array Value) (w : World) (h : vs.size = 4) : CallsD Tryd.prog 30 vs .returning w fun e u' w' => e = .returned (.tuple #[]) ∧ u' = .returning ∧ w' = w := by
 obtain ⟨x0, x1, x2, x3, rfl⟩ : ∃ x0 x1 x2 x3, vs = #[x0, x1, x2, x3] := by
  obtain ⟨l⟩ := vs
  match l, h with
  | [x0, x1, x2, x3], _ => exact ⟨x0, x1, x2, x3, rfl⟩
 refine callsD_of_wpS Tryd.func30 rfl fun c₀ cs hu => ?_
 apply wpS_seq
 apply wpS_region
 simp [wpOpsS, go_sem, recoverD, hu, Tryd.ntmps30, Exit.thenS]
 refine wpS_cond (t := false) (by simp [Act.eval, Array.replicate]) ?_
 simp only [Bool.false_eq_true, if_false]
 refine wpS_of_wp (wp_skip ?_)
 cases c₀
 simp_all [bodyPostS, results, Tryd.results30]
theorem imeth57 : Tryd.prog.underlying 57 = some (.interface (Tryd.prog.methodsAt 57)) := by kernel_rfl
theorem info3 : (Tryd.prog.info? 3).map (fun i => (i.zero, i.size, i.bytes)) = some (some (.int .i64 0), 1, 8) := by kernel_rfl
theorem info35 : (Tryd.prog.info? 35).map (fun i => (i.zero, i.size, i.bytes)) = some (some (.agg #[.int .i64 0, .int .i64 0, .int .i64 0, .slice none 0 0, .slice none 0 0, .slice none 0 0, .slice none 0 0]), 7, 120) := by kernel_rfl
theorem info5 : (Tryd.prog.info? 5).map (fun i => (i.zero, i.size, i.bytes)) = some (some (.int .u8 0), 1, 1) := by kernel_rfl
theorem info63 : (Tryd.prog.info? 63).map (fun i => (i.zero, i.size, i.bytes)) = some (some (.float .f64 0), 1, 8) := by kernel_rfl
theorem meth54_Read : methT Tryd.prog 54 "Read" = some (71, none) := by kernel_rfl
theorem meth54_Write : methT Tryd.prog 54 "Write" = some (74, none) := by kernel_rfl
theorem meth94_PutUint32 : methT Tryd.prog 94 "PutUint32" = some (83, none) := by kernel_rfl
theorem meth94_PutUint64 : methT Tryd.prog 94 "PutUint64" = some (84, none) := by kernel_rfl
theorem meth94_Uint32 : methT Tryd.prog 94 "Uint32" = some (87, none) := by kernel_rfl
theorem meth94_Uint64 : methT Tryd.prog 94 "Uint64" = some (88, none) := by kernel_rfl
theorem meth95_PutUint32 : methT Tryd.prog 95 "PutUint32" = some (91, none) := by kernel_rfl
theorem meth95_PutUint64 : methT Tryd.prog 95 "PutUint64" = some (92, none) := by kernel_rfl
theorem meth95_Uint32 : methT Tryd.prog 95 "Uint32" = some (95, none) := by kernel_rfl
theorem meth95_Uint64 : methT Tryd.prog 95 "Uint64" = some (96, none) := by kernel_rfl
theorem mixed : Tryd.prog.follows .mixedOrders = true := by kernel_rfl
theorem nilm54_Read : nilT Tryd.prog 54 "Read" = true := by kernel_rfl
theorem nilm54_Write : nilT Tryd.prog 54 "Write" = true := by kernel_rfl
theorem nilm94_PutUint32 : nilT Tryd.prog 94 "PutUint32" = true := by kernel_rfl
theorem nilm94_Uint32 : nilT Tryd.prog 94 "Uint32" = true := by kernel_rfl
theorem nilm95_PutUint32 : nilT Tryd.prog 95 "PutUint32" = true := by kernel_rfl
theorem nilm95_Uint32 : nilT Tryd.prog 95 "Uint32" = true := by kernel_rfl
def pl35 : Nat → Option (Nat × Nat) := fun i => ([(0, 1), (1, 1), (2, 1), (3, 1), (4, 1), (5, 1), (6, 1)] : List (Nat × Nat))[i]?
theorem places35 : placesT Tryd.prog 35 = some pl35 := by kernel_rfl
def pl71 : Nat → Option (Nat × Nat) := fun i => ([(0, 1), (1, 1), (2, 1)] : List (Nat × Nat))[i]?
theorem places71 : placesT Tryd.prog 71 = some pl71 := by kernel_rfl
def pl78 : Nat → Option (Nat × Nat) := fun i => ([(0, 1), (1, 1), (2, 1), (3, 1), (4, 1)] : List (Nat × Nat))[i]?
theorem places78 : placesT Tryd.prog 78 = some pl78 := by kernel_rfl
theorem size22 : sizeT Tryd.prog 22 = some 1 := by kernel_rfl
theorem size24 : sizeT Tryd.prog 24 = some 1 := by kernel_rfl
theorem size3 : sizeT Tryd.prog 3 = some 1 := by kernel_rfl
theorem size31 : sizeT Tryd.prog 31 = some 1 := by kernel_rfl
theorem size35 : sizeT Tryd.prog 35 = some 7 := by kernel_rfl
theorem size4 : sizeT Tryd.prog 4 = some 1 := by kernel_rfl
theorem size5 : sizeT Tryd.prog 5 = some 1 := by kernel_rfl
theorem size63 : sizeT Tryd.prog 63 = some 1 := by kernel_rfl
theorem size69 : sizeT Tryd.prog 69 = some 1 := by kernel_rfl
theorem size94 : sizeT Tryd.prog 94 = some 0 := by kernel_rfl
theorem size95 : sizeT Tryd.prog 95 = some 0 := by kernel_rfl
theorem zero102 : (Tryd.prog.info? 102).map (·.zero) = some (some (.agg #[.int .u8 0, .int .u8 0, .int .u8 0, .int .u8 0])) := by kernel_rfl
theorem zero22 : (Tryd.prog.info? 22).map (·.zero) = some (some (.slice none 0 0)) := by kernel_rfl
theorem zero24 : (Tryd.prog.info? 24).map (·.zero) = some (some (.slice none 0 0)) := by kernel_rfl
theorem zero3 : (Tryd.prog.info? 3).map (·.zero) = some (some (.int .i64 0)) := by kernel_rfl
theorem zero31 : (Tryd.prog.info? 31).map (·.zero) = some (some (.slice none 0 0)) := by kernel_rfl
theorem zero35 : (Tryd.prog.info? 35).map (·.zero) = some (some (.agg #[.int .i64 0, .int .i64 0, .int .i64 0, .slice none 0 0, .slice none 0 0, .slice none 0 0, .slice none 0 0])) := by kernel_rfl
theorem zero4 : (Tryd.prog.info? 4).map (·.zero) = some (some (.bool false)) := by kernel_rfl
theorem zero5 : (Tryd.prog.info? 5).map (·.zero) = some (some (.int .u8 0)) := by kernel_rfl
theorem zero63 : (Tryd.prog.info? 63).map (·.zero) = some (some (.float .f64 0)) := by kernel_rfl
theorem zero71 : (Tryd.prog.info? 71).map (·.zero) = some (some (.agg #[.slice none 0 0, .int .i64 0, .int .i8 0])) := by kernel_rfl
theorem zero78 : (Tryd.prog.info? 78).map (·.zero) = some (some (.agg #[.slice none 0 0, .bool false, .bool false, .bool false, .bool false])) := by kernel_rfl
set_option maxRecDepth 100000 in
set_option maxHeartbeats 4000000 in
/-- pub-orthodrome/laws.fStride -/
theorem w_fStride (a0 : Int) (r0 : Bool) (h0 : p_fStride a0 = some r0) : FnD Tryd.prog 5 [di .i64 a0] (fun r => r = dbool r0) := by
 refine FnD.of (by kernel_rfl) Tryd.func5 rfl Tryd.ntmps5 rfl (leb rfl) fun W ok => ?_
 unfold p_fStride at h0
 refine AC.seq ?_
 refine AC.region ?_
 refine AO.op rfl (AOp.assign rfl rfl (ltb rfl) rfl ?_)
 refine AO.nil ?_
 change AC _ _ _ _
 refine AC.seq ?_
 refine AC.region ?_
 refine AO.op rfl (AOp.move rfl rfl (ltb rfl) rfl ?_)
 refine AO.op rfl (AOp.igeq rfl rfl (ltb rfl) rfl rfl ?_)
 refine AO.op rfl (AOp.move rfl rfl (ltb rfl) rfl ?_)
 refine AO.dec (decide ((2 : Int) ≤ a0)) (fun q1 => ?_) (fun q1 => ?_)
 ·replace h0 := cT h0 q1
  refine AO.guardY rfl rfl rfl q1 (AOp.move rfl rfl (ltb rfl) rfl ?_)
  refine AO.guardY rfl rfl rfl q1 (AOp.ileq rfl rfl (ltb rfl) rfl rfl ?_)
  refine AO.op rfl (AOp.pick rfl rfl (ltb rfl) rfl q1 rfl ?_)
  refine AO.op rfl (AOp.assign rfl rfl (ltb rfl) rfl ?_)
  refine AO.nil ?_
  change AC _ _ _ _
  refine AC.ret ?_
  change RetQ _ _ _ .ret _
  obtain rfl := Option.some.inj h0
  refine retq rfl rfl
 replace h0 := cF h0 q1
 refine AO.guardN rfl rfl rfl (ltb rfl) rfl q1 ?_
 refine AO.guardN rfl rfl rfl (ltb rfl) rfl q1 ?_
 refine AO.op rfl (AOp.pickN rfl rfl (ltb rfl) rfl q1 rfl ?_)
 refine AO.op rfl (AOp.assign rfl rfl (ltb rfl) rfl ?_)
 refine AO.nil ?_
 change AC _ _ _ _
 refine AC.ret ?_
 change RetQ _ _ _ .ret _
 obtain rfl := Option.some.inj h0
 refine retq rfl rfl

set_option maxRecDepth 100000 in
set_option maxHeartbeats 4000000 in
/-- pub-orthodrome/laws.fLayout -/
theorem w_fLayout (a0 : Int) (r0 : Int) (h0 : p_fLayout a0 = some r0) : FnD Tryd.prog 25 [di .i64 a0] (fun r => r = di .i64 r0) := by
 refine FnD.of (by kernel_rfl) Tryd.func25 rfl Tryd.ntmps25 rfl (leb rfl) fun W ok => ?_
 unfold p_fLayout at h0
 refine AC.seq ?_
 refine AC.region ?_
 refine AO.op rfl (AOp.assign rfl rfl (ltb rfl) rfl ?_)
 refine AO.nil ?_
 change AC _ _ _ _
 refine AC.seq ?_
 refine AC.seq ?_
 refine AC.region ?_
 refine AO.op rfl (AOp.move rfl rfl (ltb rfl) rfl ?_)
 refine AO.op rfl (AOp.ieql rfl rfl (ltb rfl) rfl rfl ?_)
 refine AO.nil ?_
 change AC _ _ _ _
 refine AC.cond rfl (fun q1 => ?_) (fun q1 => ?_)
 ·replace h0 := cT h0 q1
  refine AC.seq ?_
  refine AC.region ?_
  refine AO.op rfl (AOp.assign rfl rfl (ltb rfl) rfl ?_)
  refine AO.nil ?_
  change AC _ _ _ _
  refine AC.ret ?_
  change RetQ _ _ _ .ret _
  obtain rfl := Option.some.inj h0
  refine retq rfl rfl
 replace h0 := cF h0 q1
 refine AC.skip ?_
 change AC _ _ _ _
 refine AC.seq ?_
 refine AC.seq ?_
 refine AC.region ?_
 refine AO.op rfl (AOp.move rfl rfl (ltb rfl) rfl ?_)
 refine AO.op rfl (AOp.ieql rfl rfl (ltb rfl) rfl rfl ?_)
 refine AO.nil ?_
 change AC _ _ _ _
 refine AC.cond rfl (fun q2 => ?_) (fun q2 => ?_)
 ·replace h0 := cT h0 q2
  refine AC.seq ?_
  refine AC.region ?_
  refine AO.op rfl (AOp.assign rfl rfl (ltb rfl) rfl ?_)
  refine AO.nil ?_
  change AC _ _ _ _
  refine AC.ret ?_
  change RetQ _ _ _ .ret _
  obtain rfl := Option.some.inj h0
  refine retq rfl rfl
 replace h0 := cF h0 q2
 refine AC.skip ?_
 change AC _ _ _ _
 refine AC.seq ?_
 refine AC.region ?_
 refine AO.op rfl (AOp.move rfl rfl (ltb rfl) rfl ?_)
 refine AO.op rfl (AOp.assign rfl rfl (ltb rfl) rfl ?_)
 refine AO.nil ?_
 change AC _ _ _ _
 refine AC.ret ?_
 change RetQ _ _ _ .ret _
 obtain rfl := Option.some.inj h0
 refine retq rfl rfl

set_option maxRecDepth 100000 in
set_option maxHeartbeats 4000000 in
/-- pub-orthodrome/spec.Weight -/
theorem w_Weight_b (Rec_ : TImpl_Geom → Int → Option Int) (hR : ∀ (a0 : TImpl_Geom) (a1 : Int) (r0 : Int), Rec_ a0 a1 = some r0 → FnD Tryd.prog 47 [e_TImpl_Geom a0, di .i64 a1] (fun r => r = di .i64 r0)) (F : Nat) (a0 : TImpl_Geom) (a1 : Int) (r0 : Int) (h0 : p_Weight_b Rec_ F a0 a1 = some r0) : FnD Tryd.prog 47 [e_TImpl_Geom a0, di .i64 a1] (fun r => r = di .i64 r0) := by
 refine FnD.of (by kernel_rfl) Tryd.func47 rfl Tryd.ntmps47 rfl (leb rfl) fun W ok => ?_
 unfold p_Weight_b at h0
 refine AC.seq ?_
 refine AC.region ?_
 refine AO.op rfl (AOp.box rfl rfl (ltb rfl) rfl rfl ?_)
 refine AO.op rfl (AOp.assign rfl rfl (ltb rfl) rfl ?_)
 refine AO.nil ?_
 change AC _ _ _ _
 refine AC.seq ?_
 refine AC.region ?_
 refine AO.op rfl (AOp.fieldAddr rfl rfl (ltb rfl) rfl fo35_3 ?_)
 refine AO.op rfl (AOp.load1 rfl rfl (ltb rfl) rfl agg24 rfl rfl ?_)
 refine AO.op rfl (AOp.lenDs (n := a0.Flat.length) (cells := (List.map keS0 a0.Flat)) rfl rfl (ltb rfl) rfl el24 (by decide) (len1 _ _) ?_)
 obtain ⟨q1, h0⟩ := need_elim h0
 refine AO.op rfl (AOp.iadd rfl rfl (ltb rfl) rfl rfl rfl q1.1 q1.2 ?_)
 refine AO.op rfl (AOp.fieldAddr rfl rfl (ltb rfl) rfl fo35_4 ?_)
 refine AO.op rfl (AOp.load1 rfl rfl (ltb rfl) rfl agg31 rfl rfl ?_)
 refine AO.op rfl (AOp.lenDs (n := a0.Ends.length) (cells := (List.map keS1 a0.Ends)) rfl rfl (ltb rfl) rfl el31 (by decide) (len1 _ _) ?_)
 obtain ⟨q2, h0⟩ := need_elim h0
 refine AO.op rfl (AOp.iadd rfl rfl (ltb rfl) rfl rfl rfl q2.1 q2.2 ?_)
 refine AO.op rfl (AOp.assign rfl rfl (ltb rfl) rfl ?_)
 refine AO.nil ?_
 change AC _ _ _ _
 refine AC.seq ?_
 refine AC.seq ?_
 refine AC.region ?_
 refine AO.op rfl (AOp.fieldAddr rfl rfl (ltb rfl) rfl fo35_5 ?_)
 refine AO.op rfl (AOp.load1 rfl rfl (ltb rfl) rfl agg32 rfl rfl ?_)
 refine AO.op rfl (AOp.lenDs (n := a0.Endss.length) (cells := (List.map keS3 a0.Endss)) rfl rfl (ltb rfl) rfl el32 (by decide) (len1 _ _) ?_)
 refine AO.op rfl (AOp.move rfl rfl (ltb rfl) rfl ?_)
 refine AO.nil ?_
 change AC _ _ _ _
 obtain ⟨o3, l4, h0⟩ := bind_elim h0
 refine AC.joinE (V := Int) [1, 2] [5] 1 (fun g5 => [(5, .d (di .i64 g5))]) (fun g5 => [.fix 35 [.d (di .i64 a0.Kind), .d (di .i64 a0.Layout), .d (di .i64 a0.SRID), .d (eS0 a0.Flat), .d (eS1 a0.Ends), .d (eS3 a0.Endss), .d (eS2 a0.Kids)]]) (fun g5 => (p_Weight_k1 a0 a1 F Rec_) g5 = some r0) rfl ?_ ?_
 ·refine AC.block ?_
  refine AC.loopP (V := (Int × Int)) (p_Weight_l4 a0) o3 [1, 2, 19, 20] [5, 21] 1 (fun g21 => [(5, .d (di .i64 g21.1)), (21, .d (di .i64 g21.2))]) (fun g21 => [.fix 35 [.d (di .i64 a0.Kind), .d (di .i64 a0.Layout), .d (di .i64 a0.SRID), .d (eS0 a0.Flat), .d (eS1 a0.Ends), .d (eS3 a0.Endss), .d (eS2 a0.Kids)]]) F ((((1 : Int) + ((a0.Flat.length : Nat) : Int)) + ((a0.Ends.length : Nat) : Int)), (0 : Int)) l4 rfl rfl (LeL.refl _) rfl rfl ?_
  intro n23 g21 h1
  unfold p_Weight_l4 at h1
  refine AC.seq ?_
  refine AC.region ?_
  refine AO.op rfl (AOp.ilss rfl rfl (ltb rfl) rfl rfl ?_)
  refine AO.nil ?_
  change AC _ _ _ _
  refine AC.seq ?_
  refine AC.cond rfl (fun q24 => ?_) (fun q24 => ?_)
  ·replace h1 := cT h1 q24
   refine AC.skip ?_
   change AC _ _ _ _
   refine AC.seq ?_
   refine AC.block ?_
   refine AC.seq ?_
   refine AC.region ?_
   obtain ⟨x25, q26, h1⟩ := idx_elim h1
   refine AO.op rfl (AOp.indexDs (cells := (List.map keS3 a0.Endss)) rfl rfl (ltb rfl) rfl rfl el32 (by decide) q26.1 (lt1 q26.2) ?_)
   refine AO.op rfl (AOp.loadEp rfl rfl (ltb rfl) rfl agg31 (at1 q26.2) ?_)
   refine AO.op rfl (AOp.assign rfl rfl (ltb rfl) rfl ?_)
   refine AO.nil ?_
   change AC _ _ _ _
   refine AC.region ?_
   refine AO.op rfl (AOp.move rfl rfl (ltb rfl) rfl ?_)
   refine AO.op rfl (AOp.move rfl rfl (ltb rfl) rfl ?_)
   refine AO.op rfl (AOp.lenDs (n := x25.length) (cells := (List.map keS1 x25)) rfl rfl (ltb rfl) rfl el31 (by decide) (len1 _ _) ?_)
   obtain ⟨q27, h1⟩ := need_elim h1
   refine AO.op rfl (AOp.iadd rfl rfl (ltb rfl) rfl rfl rfl q27.1 q27.2 ?_)
   obtain ⟨q28, h1⟩ := need_elim h1
   refine AO.op rfl (AOp.iadd rfl rfl (ltb rfl) rfl rfl rfl q28.1 q28.2 ?_)
   refine AO.op rfl (AOp.assign rfl rfl (ltb rfl) rfl ?_)
   refine AO.nil ?_
   change AC _ _ _ _
   refine AC.region ?_
   obtain ⟨q29, h1⟩ := need_elim h1
   refine AO.op rfl (AOp.iadd rfl rfl (ltb rfl) rfl rfl rfl q29.1 q29.2 ?_)
   refine AO.op rfl (AOp.move rfl rfl (ltb rfl) rfl ?_)
   refine AO.nil ?_
   exact ⟨((g21.1 + ((1 : Int) + ((x25.length : Nat) : Int))), (g21.2 + (1 : Int))), _, rfl, (LeL.refl _), rfl, rfl, h1⟩
  replace h1 := cF h1 q24
  refine AC.exit ?_
  obtain rfl := Option.some.inj h1
  exact ⟨g21.1, _, rfl, (LeL.refl _), rfl, rfl, aftL h0⟩
 intro g5 h0
 unfold p_Weight_k1 at h0
 change AC _ _ _ _
 refine AC.seq ?_
 refine AC.seq ?_
 refine AC.region ?_
 refine AO.op rfl (AOp.fieldAddr rfl rfl (ltb rfl) rfl fo35_6 ?_)
 refine AO.op rfl (AOp.load1 rfl rfl (ltb rfl) rfl agg33 rfl rfl ?_)
 refine AO.op rfl (AOp.lenDs (n := a0.Kids.length) (cells := (List.flatMap c0_TImpl_Geom a0.Kids)) rfl rfl (ltb rfl) rfl el33 (by decide) (lenN _ 7 c0_TImpl_Geom_len _) ?_)
 refine AO.op rfl (AOp.move rfl rfl (ltb rfl) rfl ?_)
 refine AO.nil ?_
 change AC _ _ _ _
 obtain ⟨o6, l7, h0⟩ := bind_elim h0
 refine AC.joinE (V := Int) [] [5] 1 (fun g8 => [(5, .d (di .i64 g8))]) (fun g8 => [.fix 35 [.d (di .i64 a0.Kind), .d (di .i64 a0.Layout), .d (di .i64 a0.SRID), .d (eS0 a0.Flat), .d (eS1 a0.Ends), .d (eS3 a0.Endss), .d (eS2 a0.Kids)]]) (fun g8 => p_Weight_k2 g8 = some r0) rfl ?_ ?_
 ·refine AC.block ?_
  refine AC.loopP (V := (Int × Int)) (p_Weight_l3 a0 a1 Rec_) o6 [1, 32, 33] [5, 34] 1 (fun g9 => [(5, .d (di .i64 g9.1)), (34, .d (di .i64 g9.2))]) (fun g9 => [.fix 35 [.d (di .i64 a0.Kind), .d (di .i64 a0.Layout), .d (di .i64 a0.SRID), .d (eS0 a0.Flat), .d (eS1 a0.Ends), .d (eS3 a0.Endss), .d (eS2 a0.Kids)]]) F (g5, (0 : Int)) l7 rfl rfl (LeL.refl _) rfl rfl ?_
  intro n11 g9 h1
  unfold p_Weight_l3 at h1
  refine AC.seq ?_
  refine AC.region ?_
  refine AO.op rfl (AOp.ilss rfl rfl (ltb rfl) rfl rfl ?_)
  refine AO.nil ?_
  change AC _ _ _ _
  refine AC.seq ?_
  refine AC.cond rfl (fun q12 => ?_) (fun q12 => ?_)
  ·replace h1 := cT h1 q12
   refine AC.skip ?_
   change AC _ _ _ _
   refine AC.seq ?_
   refine AC.block ?_
   refine AC.seq ?_
   refine AC.region ?_
   obtain ⟨x13, q14, h1⟩ := idx_elim h1
   refine AO.op rfl (AOp.indexDs (cells := (List.flatMap c0_TImpl_Geom a0.Kids)) rfl rfl (ltb rfl) rfl rfl el33 (by decide) q14.1 (ltN 7 c0_TImpl_Geom_len (by decide) q14.2) ?_)
   refine AO.op rfl (AOp.loadEpN rfl rfl (ltb rfl) rfl agg35 size35 (leN 7 c0_TImpl_Geom_len q14.2) ((atN 7 c0_TImpl_Geom_len q14.2).trans (c0_TImpl_Geom_eq x13)) ?_)
   refine AO.op rfl (AOp.alloc rfl rfl (ltb rfl) zero35 rfl ?_)
   refine AO.op rfl (AOp.store rfl rfl rfl rfl size35 rfl rfl rfl (leb rfl) ?_)
   refine AO.nil ?_
   change AC _ _ _ _
   refine AC.seq ?_
   refine AC.seq ?_
   refine AC.region ?_
   refine AO.op rfl (AOp.move rfl rfl (ltb rfl) rfl ?_)
   refine AO.op rfl (AOp.move rfl rfl (ltb rfl) rfl ?_)
   refine AO.op rfl (AOp.igtr rfl rfl (ltb rfl) rfl rfl ?_)
   refine AO.nil ?_
   change AC _ _ _ _
   refine AC.cond rfl (fun q15 => ?_) (fun q15 => ?_)
   ·replace h1 := cT h1 q15
    refine AC.seq ?_
    refine AC.region ?_
    refine AO.op rfl (AOp.move rfl rfl (ltb rfl) rfl ?_)
    refine AO.op rfl (AOp.assign rfl rfl (ltb rfl) rfl ?_)
    refine AO.nil ?_
    change AC _ _ _ _
    refine AC.ret ?_
    change RetQ _ _ _ .ret _
    obtain rfl := Option.some.inj h1
    replace h0 := aftR h0
    obtain rfl := Option.some.inj h0
    refine retq rfl rfl
   replace h1 := cF h1 q15
   refine AC.skip ?_
   change AC _ _ _ _
   refine AC.region ?_
   refine AO.op rfl (AOp.move rfl rfl (ltb rfl) rfl ?_)
   refine AO.op rfl (AOp.loadN rfl rfl (ltb rfl) rfl agg35 size35 rfl (leb rfl) rfl ?_)
   refine AO.op rfl (AOp.move rfl rfl (ltb rfl) rfl ?_)
   refine AO.op rfl (AOp.move rfl rfl (ltb rfl) rfl ?_)
   obtain ⟨q16, h1⟩ := need_elim h1
   refine AO.op rfl (AOp.isub rfl rfl (ltb rfl) rfl rfl rfl q16.1 q16.2 ?_)
   obtain ⟨y17, q18, h1⟩ := bind_elim h1
   refine AO.op rfl (AOp.callD rfl rfl (ltb rfl) rfl rfl (hR x13 (a1 - g9.1) y17 q18) ?_)
   rintro _ rfl
   obtain ⟨q19, h1⟩ := need_elim h1
   refine AO.op rfl (AOp.iadd rfl rfl (ltb rfl) rfl rfl rfl q19.1 q19.2 ?_)
   refine AO.op rfl (AOp.assign rfl rfl (ltb rfl) rfl ?_)
   refine AO.nil ?_
   change AC _ _ _ _
   refine AC.region ?_
   obtain ⟨q20, h1⟩ := need_elim h1
   refine AO.op rfl (AOp.iadd rfl rfl (ltb rfl) rfl rfl rfl q20.1 q20.2 ?_)
   refine AO.op rfl (AOp.move rfl rfl (ltb rfl) rfl ?_)
   refine AO.nil ?_
   exact ⟨((g9.1 + y17), (g9.2 + (1 : Int))), _, rfl, (LeL.refl _), rfl, rfl, h1⟩
  replace h1 := cF h1 q12
  refine AC.exit ?_
  obtain rfl := Option.some.inj h1
  exact ⟨g9.1, _, rfl, (LeL.refl _), rfl, rfl, aftL h0⟩
 intro g8 h0
 unfold p_Weight_k2 at h0
 change AC _ _ _ _
 refine AC.seq ?_
 refine AC.region ?_
 refine AO.op rfl (AOp.move rfl rfl (ltb rfl) rfl ?_)
 refine AO.op rfl (AOp.assign rfl rfl (ltb rfl) rfl ?_)
 refine AO.nil ?_
 change AC _ _ _ _
 refine AC.ret ?_
 change RetQ _ _ _ .ret _
 obtain rfl := Option.some.inj h0
 refine retq rfl rfl
theorem w_Weight : ∀ (F : Nat) (a0 : TImpl_Geom) (a1 : Int) (r0 : Int), p_Weight F a0 a1 = some r0 → FnD Tryd.prog 47 [e_TImpl_Geom a0, di .i64 a1] (fun r => r = di .i64 r0)
 | 0, _, _, _, h => by cases h
 | F + 1, a0, a1, r0, h => w_Weight_b _ (fun a0 a1 r0 h => w_Weight F a0 a1 r0 h) F a0 a1 r0 h

set_option maxRecDepth 100000 in
set_option maxHeartbeats 4000000 in
/-- pub-orthodrome/laws.gLayouts -/
theorem w_gLayouts_b (Rec_ : TImpl_Geom → Int → Option Bool) (hR : ∀ (a0 : TImpl_Geom) (a1 : Int) (r0 : Bool), Rec_ a0 a1 = some r0 → FnD Tryd.prog 48 [e_TImpl_Geom a0, di .i64 a1] (fun r => r = dbool r0)) (F : Nat) (a0 : TImpl_Geom) (a1 : Int) (r0 : Bool) (h0 : p_gLayouts_b Rec_ F a0 a1 = some r0) : FnD Tryd.prog 48 [e_TImpl_Geom a0, di .i64 a1] (fun r => r = dbool r0) := by
 refine FnD.of (by kernel_rfl) Tryd.func48 rfl Tryd.ntmps48 rfl (leb rfl) fun W ok => ?_
 unfold p_gLayouts_b at h0
 refine AC.seq ?_
 refine AC.region ?_
 refine AO.op rfl (AOp.box rfl rfl (ltb rfl) rfl rfl ?_)
 refine AO.op rfl (AOp.assign rfl rfl (ltb rfl) rfl ?_)
 refine AO.nil ?_
 change AC _ _ _ _
 refine AC.seq ?_
 refine AC.seq ?_
 refine AC.region ?_
 refine AO.op rfl (AOp.fieldAddr rfl rfl (ltb rfl) rfl fo35_6 ?_)
 refine AO.op rfl (AOp.load1 rfl rfl (ltb rfl) rfl agg33 rfl rfl ?_)
 refine AO.op rfl (AOp.lenDs (n := a0.Kids.length) (cells := (List.flatMap c0_TImpl_Geom a0.Kids)) rfl rfl (ltb rfl) rfl el33 (by decide) (lenN _ 7 c0_TImpl_Geom_len _) ?_)
 refine AO.op rfl (AOp.move rfl rfl (ltb rfl) rfl ?_)
 refine AO.nil ?_
 change AC _ _ _ _
 obtain ⟨o1, l2, h0⟩ := bind_elim h0
 refine AC.joinE (V := Unit) [1, 2] [] 1 (fun g3 => []) (fun g3 => [.fix 35 [.d (di .i64 a0.Kind), .d (di .i64 a0.Layout), .d (di .i64 a0.SRID), .d (eS0 a0.Flat), .d (eS1 a0.Ends), .d (eS3 a0.Endss), .d (eS2 a0.Kids)]]) (fun g3 => (p_gLayouts_k1 a0 a1) g3 = some r0) rfl ?_ ?_
 ·refine AC.block ?_
  refine AC.loopP (V := Int) (p_gLayouts_l2 a0 a1 Rec_) o1 [1, 2, 8, 9] [10] 1 (fun g7 => [(10, .d (di .i64 g7))]) (fun g7 => [.fix 35 [.d (di .i64 a0.Kind), .d (di .i64 a0.Layout), .d (di .i64 a0.SRID), .d (eS0 a0.Flat), .d (eS1 a0.Ends), .d (eS3 a0.Endss), .d (eS2 a0.Kids)]]) F (0 : Int) l2 rfl rfl (LeL.refl _) rfl rfl ?_
  intro n9 g7 h1
  unfold p_gLayouts_l2 at h1
  refine AC.seq ?_
  refine AC.region ?_
  refine AO.op rfl (AOp.ilss rfl rfl (ltb rfl) rfl rfl ?_)
  refine AO.nil ?_
  change AC _ _ _ _
  refine AC.seq ?_
  refine AC.cond rfl (fun q10 => ?_) (fun q10 => ?_)
  ·replace h1 := cT h1 q10
   refine AC.skip ?_
   change AC _ _ _ _
   refine AC.seq ?_
   refine AC.block ?_
   refine AC.seq ?_
   refine AC.region ?_
   obtain ⟨x11, q12, h1⟩ := idx_elim h1
   refine AO.op rfl (AOp.indexDs (cells := (List.flatMap c0_TImpl_Geom a0.Kids)) rfl rfl (ltb rfl) rfl rfl el33 (by decide) q12.1 (ltN 7 c0_TImpl_Geom_len (by decide) q12.2) ?_)
   refine AO.op rfl (AOp.loadEpN rfl rfl (ltb rfl) rfl agg35 size35 (leN 7 c0_TImpl_Geom_len q12.2) ((atN 7 c0_TImpl_Geom_len q12.2).trans (c0_TImpl_Geom_eq x11)) ?_)
   refine AO.op rfl (AOp.alloc rfl rfl (ltb rfl) zero35 rfl ?_)
   refine AO.op rfl (AOp.store rfl rfl rfl rfl size35 rfl rfl rfl (leb rfl) ?_)
   refine AO.nil ?_
   change AC _ _ _ _
   refine AC.seq ?_
   refine AC.region ?_
   refine AO.op rfl (AOp.loadN rfl rfl (ltb rfl) rfl agg35 size35 rfl (leb rfl) rfl ?_)
   refine AO.op rfl (AOp.move rfl rfl (ltb rfl) rfl ?_)
   obtain ⟨y13, q14, h1⟩ := bind_elim h1
   refine AO.op rfl (AOp.callD rfl rfl (ltb rfl) rfl rfl (hR x11 a1 y13 q14) ?_)
   rintro _ rfl
   refine AO.op rfl (AOp.bnot rfl rfl (ltb rfl) rfl ?_)
   refine AO.nil ?_
   change AC _ _ _ _
   refine AC.cond rfl (fun q15 => ?_) (fun q15 => ?_)
   ·replace h1 := cT h1 q15
    refine AC.seq ?_
    refine AC.region ?_
    refine AO.op rfl (AOp.assign rfl rfl (ltb rfl) rfl ?_)
    refine AO.nil ?_
    change AC _ _ _ _
    refine AC.ret ?_
    change RetQ _ _ _ .ret _
    obtain rfl := Option.some.inj h1
    replace h0 := aftR h0
    obtain rfl := Option.some.inj h0
    refine retq rfl rfl
   replace h1 := cF h1 q15
   refine AC.skip ?_
   change AC _ _ _ _
   refine AC.region ?_
   obtain ⟨q16, h1⟩ := need_elim h1
   refine AO.op rfl (AOp.iadd rfl rfl (ltb rfl) rfl rfl rfl q16.1 q16.2 ?_)
   refine AO.op rfl (AOp.move rfl rfl (ltb rfl) rfl ?_)
   refine AO.nil ?_
   exact ⟨(g7 + (1 : Int)), _, rfl, (LeL.refl _), rfl, rfl, h1⟩
  replace h1 := cF h1 q10
  refine AC.exit ?_
  obtain rfl := Option.some.inj h1
  exact ⟨(), _, rfl, (LeL.refl _), rfl, rfl, aftL h0⟩
 intro g3 h0
 unfold p_gLayouts_k1 at h0
 change AC _ _ _ _
 refine AC.seq ?_
 refine AC.region ?_
 refine AO.op rfl (AOp.fieldAddr rfl rfl (ltb rfl) rfl fo35_1 ?_)
 refine AO.op rfl (AOp.load1 rfl rfl (ltb rfl) rfl agg3 rfl rfl ?_)
 refine AO.op rfl (AOp.move rfl rfl (ltb rfl) rfl ?_)
 refine AO.op rfl (AOp.ileq rfl rfl (ltb rfl) rfl rfl ?_)
 refine AO.op rfl (AOp.move rfl rfl (ltb rfl) rfl ?_)
 refine AO.dec (decide (a0.Layout ≤ a1)) (fun q4 => ?_) (fun q4 => ?_)
 ·replace h0 := cT h0 q4
  refine AO.guardY rfl rfl rfl q4 (AOp.fieldAddr rfl rfl (ltb rfl) rfl fo35_1 ?_)
  refine AO.guardY rfl rfl rfl q4 (AOp.load1 rfl rfl (ltb rfl) rfl agg3 rfl rfl ?_)
  refine AO.guardY rfl rfl rfl q4 (AOp.igeq rfl rfl (ltb rfl) rfl rfl ?_)
  refine AO.guardY rfl rfl rfl q4 (AOp.move rfl rfl (ltb rfl) rfl ?_)
  refine AO.dec (decide ((1 : Int) ≤ a0.Layout)) (fun q5 => ?_) (fun q5 => ?_)
  ·replace h0 := cT h0 q5
   refine AO.guardN rfl rfl rfl (ltb rfl) rfl q5 ?_
   refine AO.guardN rfl rfl rfl (ltb rfl) rfl q5 ?_
   refine AO.guardN rfl rfl rfl (ltb rfl) rfl q5 ?_
   refine AO.guardN rfl rfl rfl (ltb rfl) rfl q5 ?_
   refine AO.guardU rfl rfl rfl (ltb rfl) rfl ?_
   refine AO.guardU rfl rfl rfl (ltb rfl) rfl ?_
   refine AO.guardU rfl rfl rfl (ltb rfl) rfl ?_
   refine AO.guardN rfl rfl rfl (ltb rfl) rfl q5 ?_
   refine AO.guardY rfl rfl rfl q4 (AOp.pick rfl rfl (ltb rfl) rfl q5 rfl ?_)
   refine AO.op rfl (AOp.pick rfl rfl (ltb rfl) rfl q4 rfl ?_)
   refine AO.op rfl (AOp.assign rfl rfl (ltb rfl) rfl ?_)
   refine AO.nil ?_
   change AC _ _ _ _
   refine AC.ret ?_
   change RetQ _ _ _ .ret _
   obtain rfl := Option.some.inj h0
   refine retq rfl rfl
  replace h0 := cF h0 q5
  refine AO.guardY rfl rfl rfl q5 (AOp.fieldAddr rfl rfl (ltb rfl) rfl fo35_0 ?_)
  refine AO.guardY rfl rfl rfl q5 (AOp.load1 rfl rfl (ltb rfl) rfl agg3 rfl rfl ?_)
  refine AO.guardY rfl rfl rfl q5 (AOp.ieql rfl rfl (ltb rfl) rfl rfl ?_)
  refine AO.guardY rfl rfl rfl q5 (AOp.move rfl rfl (ltb rfl) rfl ?_)
  refine AO.dec (decide (a0.Kind = (7 : Int))) (fun q6 => ?_) (fun q6 => ?_)
  ·replace h0 := cT h0 q6
   refine AO.guardY rfl rfl rfl q6 (AOp.fieldAddr rfl rfl (ltb rfl) rfl fo35_1 ?_)
   refine AO.guardY rfl rfl rfl q6 (AOp.load1 rfl rfl (ltb rfl) rfl agg3 rfl rfl ?_)
   refine AO.guardY rfl rfl rfl q6 (AOp.igeq rfl rfl (ltb rfl) rfl rfl ?_)
   refine AO.guardY rfl rfl rfl q5 (AOp.pick rfl rfl (ltb rfl) rfl q6 rfl ?_)
   refine AO.guardY rfl rfl rfl q4 (AOp.pickN rfl rfl (ltb rfl) rfl q5 rfl ?_)
   refine AO.op rfl (AOp.pick rfl rfl (ltb rfl) rfl q4 rfl ?_)
   refine AO.op rfl (AOp.assign rfl rfl (ltb rfl) rfl ?_)
   refine AO.nil ?_
   change AC _ _ _ _
   refine AC.ret ?_
   change RetQ _ _ _ .ret _
   obtain rfl := Option.some.inj h0
   refine retq rfl rfl
  replace h0 := cF h0 q6
  refine AO.guardN rfl rfl rfl (ltb rfl) rfl q6 ?_
  refine AO.guardN rfl rfl rfl (ltb rfl) rfl q6 ?_
  refine AO.guardN rfl rfl rfl (ltb rfl) rfl q6 ?_
  refine AO.guardY rfl rfl rfl q5 (AOp.pickN rfl rfl (ltb rfl) rfl q6 rfl ?_)
  refine AO.guardY rfl rfl rfl q4 (AOp.pickN rfl rfl (ltb rfl) rfl q5 rfl ?_)
  refine AO.op rfl (AOp.pick rfl rfl (ltb rfl) rfl q4 rfl ?_)
  refine AO.op rfl (AOp.assign rfl rfl (ltb rfl) rfl ?_)
  refine AO.nil ?_
  change AC _ _ _ _
  refine AC.ret ?_
  change RetQ _ _ _ .ret _
  obtain rfl := Option.some.inj h0
  refine retq rfl rfl
 replace h0 := cF h0 q4
 refine AO.guardN rfl rfl rfl (ltb rfl) rfl q4 ?_
 refine AO.guardN rfl rfl rfl (ltb rfl) rfl q4 ?_
 refine AO.guardN rfl rfl rfl (ltb rfl) rfl q4 ?_
 refine AO.guardN rfl rfl rfl (ltb rfl) rfl q4 ?_
 refine AO.guardU rfl rfl rfl (ltb rfl) rfl ?_
 refine AO.guardU rfl rfl rfl (ltb rfl) rfl ?_
 refine AO.guardU rfl rfl rfl (ltb rfl) rfl ?_
 refine AO.guardU rfl rfl rfl (ltb rfl) rfl ?_
 refine AO.guardU rfl rfl rfl (ltb rfl) rfl ?_
 refine AO.guardU rfl rfl rfl (ltb rfl) rfl ?_
 refine AO.guardU rfl rfl rfl (ltb rfl) rfl ?_
 refine AO.guardU rfl rfl rfl (ltb rfl) rfl ?_
 refine AO.guardN rfl rfl rfl (ltb rfl) rfl q4 ?_
 refine AO.op rfl (AOp.pickN rfl rfl (ltb rfl) rfl q4 rfl ?_)
 refine AO.op rfl (AOp.assign rfl rfl (ltb rfl) rfl ?_)
 refine AO.nil ?_
 change AC _ _ _ _
 refine AC.ret ?_
 change RetQ _ _ _ .ret _
 obtain rfl := Option.some.inj h0
 refine retq rfl rfl
theorem w_gLayouts : ∀ (F : Nat) (a0 : TImpl_Geom) (a1 : Int) (r0 : Bool), p_gLayouts F a0 a1 = some r0 → FnD Tryd.prog 48 [e_TImpl_Geom a0, di .i64 a1] (fun r => r = dbool r0)
 | 0, _, _, _, h => by cases h
 | F + 1, a0, a1, r0, h => w_gLayouts_b _ (fun a0 a1 r0 h => w_gLayouts F a0 a1 r0 h) F a0 a1 r0 h

set_option maxRecDepth 100000 in
set_option maxHeartbeats 4000000 in
/-- pub-orthodrome/laws.gSmall -/
theorem w_gSmall (F : Nat) (a0 : (List TImpl_Geom)) (r0 : Bool) (h0 : p_gSmall F a0 = some r0) : FnD Tryd.prog 40 [eS2 a0] (fun r => r = dbool r0) := by
 refine FnD.of (by kernel_rfl) Tryd.func40 rfl Tryd.ntmps40 rfl (leb rfl) fun W ok => ?_
 unfold p_gSmall at h0
 refine AC.seq ?_
 refine AC.region ?_
 refine AO.op rfl (AOp.assign rfl rfl (ltb rfl) rfl ?_)
 refine AO.nil ?_
 change AC _ _ _ _
 refine AC.seq ?_
 refine AC.region ?_
 refine AO.op rfl (AOp.assign rfl rfl (ltb rfl) rfl ?_)
 refine AO.nil ?_
 change AC _ _ _ _
 refine AC.seq ?_
 refine AC.seq ?_
 refine AC.region ?_
 refine AO.op rfl (AOp.move rfl rfl (ltb rfl) rfl ?_)
 refine AO.op rfl (AOp.lenDs (n := a0.length) (cells := (List.flatMap c0_TImpl_Geom a0)) rfl rfl (ltb rfl) rfl el33 (by decide) (lenN _ 7 c0_TImpl_Geom_len _) ?_)
 refine AO.op rfl (AOp.move rfl rfl (ltb rfl) rfl ?_)
 refine AO.nil ?_
 change AC _ _ _ _
 obtain ⟨o1, l2, h0⟩ := bind_elim h0
 refine AC.joinE (V := Unit) [] [] 0 (fun g3 => []) (fun g3 => []) (fun g3 => p_gSmall_k1 g3 = some r0) rfl ?_ ?_
 ·refine AC.block ?_
  refine AC.loopP (V := (Int × Int)) (p_gSmall_l2 a0 F) o1 [6, 7] [3, 8] 0 (fun g4 => [(3, .d (di .i64 g4.1)), (8, .d (di .i64 g4.2))]) (fun g4 => []) F ((2000 : Int), (0 : Int)) l2 rfl rfl (LeL.refl _) rfl rfl ?_
  intro n6 g4 h1
  unfold p_gSmall_l2 at h1
  refine AC.seq ?_
  refine AC.region ?_
  refine AO.op rfl (AOp.ilss rfl rfl (ltb rfl) rfl rfl ?_)
  refine AO.nil ?_
  change AC _ _ _ _
  refine AC.seq ?_
  refine AC.cond rfl (fun q7 => ?_) (fun q7 => ?_)
  ·replace h1 := cT h1 q7
   refine AC.skip ?_
   change AC _ _ _ _
   refine AC.seq ?_
   refine AC.block ?_
   refine AC.seq ?_
   refine AC.region ?_
   obtain ⟨x8, q9, h1⟩ := idx_elim h1
   refine AO.op rfl (AOp.indexDs (cells := (List.flatMap c0_TImpl_Geom a0)) rfl rfl (ltb rfl) rfl rfl el33 (by decide) q9.1 (ltN 7 c0_TImpl_Geom_len (by decide) q9.2) ?_)
   refine AO.op rfl (AOp.loadEpN rfl rfl (ltb rfl) rfl agg35 size35 (leN 7 c0_TImpl_Geom_len q9.2) ((atN 7 c0_TImpl_Geom_len q9.2).trans (c0_TImpl_Geom_eq x8)) ?_)
   refine AO.op rfl (AOp.alloc rfl rfl (ltb rfl) zero35 rfl ?_)
   refine AO.op rfl (AOp.store rfl rfl rfl rfl size35 rfl rfl rfl (leb rfl) ?_)
   refine AO.nil ?_
   change AC _ _ _ _
   refine AC.seq ?_
   refine AC.region ?_
   refine AO.op rfl (AOp.move rfl rfl (ltb rfl) rfl ?_)
   refine AO.op rfl (AOp.loadN rfl rfl (ltb rfl) rfl agg35 size35 rfl (leb rfl) rfl ?_)
   refine AO.op rfl (AOp.move rfl rfl (ltb rfl) rfl ?_)
   obtain ⟨y10, q11, h1⟩ := bind_elim h1
   refine AO.op rfl (AOp.callD rfl rfl (ltb rfl) rfl rfl (w_Weight F x8 g4.1 y10 q11) ?_)
   rintro _ rfl
   obtain ⟨q12, h1⟩ := need_elim h1
   refine AO.op rfl (AOp.isub rfl rfl (ltb rfl) rfl rfl rfl q12.1 q12.2 ?_)
   refine AO.op rfl (AOp.assign rfl rfl (ltb rfl) rfl ?_)
   refine AO.nil ?_
   change AC _ _ _ _
   refine AC.seq ?_
   refine AC.region ?_
   refine AO.op rfl (AOp.move rfl rfl (ltb rfl) rfl ?_)
   refine AO.op rfl (AOp.ilss rfl rfl (ltb rfl) rfl rfl ?_)
   refine AO.op rfl (AOp.move rfl rfl (ltb rfl) rfl ?_)
   refine AO.dec (decide ((g4.1 - y10) < (0 : Int))) (fun q13 => ?_) (fun q13 => ?_)
   ·replace h1 := cT h1 q13
    refine AO.guardN rfl rfl rfl (ltb rfl) rfl q13 ?_
    refine AO.guardN rfl rfl rfl (ltb rfl) rfl q13 ?_
    refine AO.guardN rfl rfl rfl (ltb rfl) rfl q13 ?_
    refine AO.op rfl (AOp.pick rfl rfl (ltb rfl) rfl q13 rfl ?_)
    refine AO.nil ?_
    change AC _ _ _ _
    refine AC.condT rfl rfl ?_
    refine AC.seq ?_
    refine AC.region ?_
    refine AO.op rfl (AOp.assign rfl rfl (ltb rfl) rfl ?_)
    refine AO.nil ?_
    change AC _ _ _ _
    refine AC.ret ?_
    change RetQ _ _ _ .ret _
    obtain rfl := Option.some.inj h1
    replace h0 := aftR h0
    obtain rfl := Option.some.inj h0
    refine retq rfl rfl
   replace h1 := cF h1 q13
   refine AO.guardY rfl rfl rfl q13 (AOp.loadN rfl rfl (ltb rfl) rfl agg35 size35 rfl (leb rfl) rfl ?_)
   obtain ⟨y14, q15, h1⟩ := bind_elim h1
   refine AO.guardY rfl rfl rfl q13 (AOp.callD rfl rfl (ltb rfl) rfl rfl (w_gLayouts F x8 (9 : Int) y14 q15) ?_)
   rintro _ rfl
   refine AO.guardY rfl rfl rfl q13 (AOp.bnot rfl rfl (ltb rfl) rfl ?_)
   refine AO.op rfl (AOp.pickN rfl rfl (ltb rfl) rfl q13 rfl ?_)
   refine AO.nil ?_
   change AC _ _ _ _
   refine AC.cond rfl (fun q16 => ?_) (fun q16 => ?_)
   ·replace h1 := cT h1 q16
    refine AC.seq ?_
    refine AC.region ?_
    refine AO.op rfl (AOp.assign rfl rfl (ltb rfl) rfl ?_)
    refine AO.nil ?_
    change AC _ _ _ _
    refine AC.ret ?_
    change RetQ _ _ _ .ret _
    obtain rfl := Option.some.inj h1
    replace h0 := aftR h0
    obtain rfl := Option.some.inj h0
    refine retq rfl rfl
   replace h1 := cF h1 q16
   refine AC.skip ?_
   change AC _ _ _ _
   refine AC.region ?_
   obtain ⟨q17, h1⟩ := need_elim h1
   refine AO.op rfl (AOp.iadd rfl rfl (ltb rfl) rfl rfl rfl q17.1 q17.2 ?_)
   refine AO.op rfl (AOp.move rfl rfl (ltb rfl) rfl ?_)
   refine AO.nil ?_
   exact ⟨((g4.1 - y10), (g4.2 + (1 : Int))), _, rfl, (LeL.refl _), rfl, rfl, h1⟩
  replace h1 := cF h1 q7
  refine AC.exit ?_
  obtain rfl := Option.some.inj h1
  exact ⟨(), _, rfl, (LeL.refl _), rfl, rfl, aftL h0⟩
 intro g3 h0
 unfold p_gSmall_k1 at h0
 change AC _ _ _ _
 refine AC.seq ?_
 refine AC.region ?_
 refine AO.op rfl (AOp.assign rfl rfl (ltb rfl) rfl ?_)
 refine AO.nil ?_
 change AC _ _ _ _
 refine AC.ret ?_
 change RetQ _ _ _ .ret _
 obtain rfl := Option.some.inj h0
 refine retq rfl rfl

set_option maxRecDepth 100000 in
set_option maxHeartbeats 4000000 in
/-- pub-orthodrome/spec.Stride -/
theorem w_Stride (a0 : Int) (r0 : Int) (h0 : p_Stride a0 = some r0) : FnD Tryd.prog 49 [di .i64 a0] (fun r => r = di .i64 r0) := by
 refine FnD.of (by kernel_rfl) Tryd.func49 rfl Tryd.ntmps49 rfl (leb rfl) fun W ok => ?_
 unfold p_Stride at h0
 refine AC.seq ?_
 refine AC.region ?_
 refine AO.op rfl (AOp.assign rfl rfl (ltb rfl) rfl ?_)
 refine AO.nil ?_
 change AC _ _ _ _
 refine AC.seq ?_
 refine AC.block ?_
 refine AC.seq ?_
 refine AC.region ?_
 refine AO.op rfl (AOp.move rfl rfl (ltb rfl) rfl ?_)
 refine AO.op rfl (AOp.ilss rfl rfl (ltb rfl) rfl rfl ?_)
 refine AO.op rfl (AOp.assign rfl rfl (ltb rfl) rfl ?_)
 refine AO.nil ?_
 change AC _ _ _ _
 refine AC.cond rfl (fun q1 => ?_) (fun q1 => ?_)
 ·replace h0 := cT h0 q1
  refine AC.seq ?_
  refine AC.region ?_
  refine AO.op rfl (AOp.assign rfl rfl (ltb rfl) rfl ?_)
  refine AO.nil ?_
  change AC _ _ _ _
  refine AC.ret ?_
  change RetQ _ _ _ .ret _
  obtain rfl := Option.some.inj h0
  refine retq rfl rfl
 replace h0 := cF h0 q1
 refine AC.seq ?_
 refine AC.region ?_
 refine AO.op rfl (AOp.move rfl rfl (ltb rfl) rfl ?_)
 refine AO.op rfl (AOp.ieql rfl rfl (ltb rfl) rfl rfl ?_)
 refine AO.op rfl (AOp.assign rfl rfl (ltb rfl) rfl ?_)
 refine AO.nil ?_
 change AC _ _ _ _
 refine AC.cond rfl (fun q2 => ?_) (fun q2 => ?_)
 ·replace h0 := cT h0 q2
  refine AC.seq ?_
  refine AC.region ?_
  refine AO.op rfl (AOp.assign rfl rfl (ltb rfl) rfl ?_)
  refine AO.nil ?_
  change AC _ _ _ _
  refine AC.ret ?_
  change RetQ _ _ _ .ret _
  obtain rfl := Option.some.inj h0
  refine retq rfl rfl
 replace h0 := cF h0 q2
 refine AC.seq ?_
 refine AC.region ?_
 refine AO.op rfl (AOp.move rfl rfl (ltb rfl) rfl ?_)
 refine AO.op rfl (AOp.ieql rfl rfl (ltb rfl) rfl rfl ?_)
 refine AO.op rfl (AOp.move rfl rfl (ltb rfl) rfl ?_)
 refine AO.dec (decide (a0 = (2 : Int))) (fun q3 => ?_) (fun q3 => ?_)
 ·replace h0 := cT h0 q3
  refine AO.guardN rfl rfl rfl (ltb rfl) rfl q3 ?_
  refine AO.guardN rfl rfl rfl (ltb rfl) rfl q3 ?_
  refine AO.op rfl (AOp.pick rfl rfl (ltb rfl) rfl q3 rfl ?_)
  refine AO.op rfl (AOp.assign rfl rfl (ltb rfl) rfl ?_)
  refine AO.nil ?_
  change AC _ _ _ _
  refine AC.condT rfl rfl ?_
  refine AC.seq ?_
  refine AC.region ?_
  refine AO.op rfl (AOp.assign rfl rfl (ltb rfl) rfl ?_)
  refine AO.nil ?_
  change AC _ _ _ _
  refine AC.ret ?_
  change RetQ _ _ _ .ret _
  obtain rfl := Option.some.inj h0
  refine retq rfl rfl
 replace h0 := cF h0 q3
 refine AO.guardY rfl rfl rfl q3 (AOp.move rfl rfl (ltb rfl) rfl ?_)
 refine AO.guardY rfl rfl rfl q3 (AOp.ieql rfl rfl (ltb rfl) rfl rfl ?_)
 refine AO.op rfl (AOp.pickN rfl rfl (ltb rfl) rfl q3 rfl ?_)
 refine AO.op rfl (AOp.assign rfl rfl (ltb rfl) rfl ?_)
 refine AO.nil ?_
 change AC _ _ _ _
 refine AC.cond rfl (fun q4 => ?_) (fun q4 => ?_)
 ·replace h0 := cT h0 q4
  refine AC.seq ?_
  refine AC.region ?_
  refine AO.op rfl (AOp.assign rfl rfl (ltb rfl) rfl ?_)
  refine AO.nil ?_
  change AC _ _ _ _
  refine AC.ret ?_
  change RetQ _ _ _ .ret _
  obtain rfl := Option.some.inj h0
  refine retq rfl rfl
 replace h0 := cF h0 q4
 refine AC.skip ?_
 change AC _ _ _ _
 refine AC.seq ?_
 refine AC.region ?_
 refine AO.op rfl (AOp.move rfl rfl (ltb rfl) rfl ?_)
 refine AO.op rfl (AOp.assign rfl rfl (ltb rfl) rfl ?_)
 refine AO.nil ?_
 change AC _ _ _ _
 refine AC.ret ?_
 change RetQ _ _ _ .ret _
 obtain rfl := Option.some.inj h0
 refine retq rfl rfl

set_option maxRecDepth 100000 in
set_option maxHeartbeats 4000000 in
/-- pub-orthodrome/spec.Cover -/
theorem w_Cover (a0 : Int) (a1 : Int) (r0 : Int) (h0 : p_Cover a0 a1 = some r0) : FnD Tryd.prog 54 [di .i64 a0, di .i64 a1] (fun r => r = di .i64 r0) := by
 refine FnD.of (by kernel_rfl) Tryd.func54 rfl Tryd.ntmps54 rfl (leb rfl) fun W ok => ?_
 unfold p_Cover at h0
 refine AC.seq ?_
 refine AC.region ?_
 refine AO.op rfl (AOp.assign rfl rfl (ltb rfl) rfl ?_)
 refine AO.nil ?_
 change AC _ _ _ _
 refine AC.seq ?_
 refine AC.seq ?_
 refine AC.region ?_
 refine AO.op rfl (AOp.move rfl rfl (ltb rfl) rfl ?_)
 refine AO.op rfl (AOp.ieql rfl rfl (ltb rfl) rfl rfl ?_)
 refine AO.op rfl (AOp.move rfl rfl (ltb rfl) rfl ?_)
 refine AO.dec (decide (a0 = (2 : Int))) (fun q1 => ?_) (fun q1 => ?_)
 ·replace h0 := cT h0 q1
  refine AO.guardY rfl rfl rfl q1 (AOp.move rfl rfl (ltb rfl) rfl ?_)
  refine AO.guardY rfl rfl rfl q1 (AOp.ieql rfl rfl (ltb rfl) rfl rfl ?_)
  refine AO.op rfl (AOp.pick rfl rfl (ltb rfl) rfl q1 rfl ?_)
  refine AO.op rfl (AOp.move rfl rfl (ltb rfl) rfl ?_)
  refine AO.dec (decide (a1 = (3 : Int))) (fun q2 => ?_) (fun q2 => ?_)
  ·replace h0 := cT h0 q2
   refine AO.guardN rfl rfl rfl (ltb rfl) rfl q2 ?_
   refine AO.guardN rfl rfl rfl (ltb rfl) rfl q2 ?_
   refine AO.guardN rfl rfl rfl (ltb rfl) rfl q2 ?_
   refine AO.guardU rfl rfl rfl (ltb rfl) rfl ?_
   refine AO.guardU rfl rfl rfl (ltb rfl) rfl ?_
   refine AO.guardN rfl rfl rfl (ltb rfl) rfl q2 ?_
   refine AO.op rfl (AOp.pick rfl rfl (ltb rfl) rfl q2 rfl ?_)
   refine AO.nil ?_
   change AC _ _ _ _
   refine AC.condT rfl rfl ?_
   refine AC.seq ?_
   refine AC.region ?_
   refine AO.op rfl (AOp.assign rfl rfl (ltb rfl) rfl ?_)
   refine AO.nil ?_
   change AC _ _ _ _
   refine AC.ret ?_
   change RetQ _ _ _ .ret _
   obtain rfl := Option.some.inj h0
   refine retq rfl rfl
  replace h0 := cF h0 q2
  refine AO.guardY rfl rfl rfl q2 (AOp.move rfl rfl (ltb rfl) rfl ?_)
  refine AO.guardY rfl rfl rfl q2 (AOp.ieql rfl rfl (ltb rfl) rfl rfl ?_)
  refine AO.guardY rfl rfl rfl q2 (AOp.move rfl rfl (ltb rfl) rfl ?_)
  refine AO.dec (decide (a0 = (3 : Int))) (fun q3 => ?_) (fun q3 => ?_)
  ·replace h0 := cT h0 q3
   refine AO.guardY rfl rfl rfl q3 (AOp.move rfl rfl (ltb rfl) rfl ?_)
   refine AO.guardY rfl rfl rfl q3 (AOp.ieql rfl rfl (ltb rfl) rfl rfl ?_)
   refine AO.guardY rfl rfl rfl q2 (AOp.pick rfl rfl (ltb rfl) rfl q3 rfl ?_)
   refine AO.op rfl (AOp.pickN rfl rfl (ltb rfl) rfl q2 rfl ?_)
   refine AO.nil ?_
   change AC _ _ _ _
   refine AC.cond rfl (fun q4 => ?_) (fun q4 => ?_)
   ·replace h0 := cT h0 q4
    refine AC.seq ?_
    refine AC.region ?_
    refine AO.op rfl (AOp.assign rfl rfl (ltb rfl) rfl ?_)
    refine AO.nil ?_
    change AC _ _ _ _
    refine AC.ret ?_
    change RetQ _ _ _ .ret _
    obtain rfl := Option.some.inj h0
    refine retq rfl rfl
   replace h0 := cF h0 q4
   refine AC.skip ?_
   change AC _ _ _ _
   refine AC.seq ?_
   refine AC.region ?_
   refine AO.op rfl (AOp.move rfl rfl (ltb rfl) rfl ?_)
   refine AO.op rfl (AOp.move rfl rfl (ltb rfl) rfl ?_)
   refine AO.op rfl (AOp.imax rfl rfl (ltb rfl) rfl rfl ?_)
   refine AO.op rfl (AOp.assign rfl rfl (ltb rfl) rfl ?_)
   refine AO.nil ?_
   change AC _ _ _ _
   refine AC.ret ?_
   change RetQ _ _ _ .ret _
   obtain rfl := Option.some.inj h0
   refine retq rfl rfl
  replace h0 := cF h0 q3
  refine AO.guardN rfl rfl rfl (ltb rfl) rfl q3 ?_
  refine AO.guardN rfl rfl rfl (ltb rfl) rfl q3 ?_
  refine AO.guardY rfl rfl rfl q2 (AOp.pickN rfl rfl (ltb rfl) rfl q3 rfl ?_)
  refine AO.op rfl (AOp.pickN rfl rfl (ltb rfl) rfl q2 rfl ?_)
  refine AO.nil ?_
  change AC _ _ _ _
  refine AC.condF rfl rfl ?_
  refine AC.skip ?_
  change AC _ _ _ _
  refine AC.seq ?_
  refine AC.region ?_
  refine AO.op rfl (AOp.move rfl rfl (ltb rfl) rfl ?_)
  refine AO.op rfl (AOp.move rfl rfl (ltb rfl) rfl ?_)
  refine AO.op rfl (AOp.imax rfl rfl (ltb rfl) rfl rfl ?_)
  refine AO.op rfl (AOp.assign rfl rfl (ltb rfl) rfl ?_)
  refine AO.nil ?_
  change AC _ _ _ _
  refine AC.ret ?_
  change RetQ _ _ _ .ret _
  obtain rfl := Option.some.inj h0
  refine retq rfl rfl
 replace h0 := cF h0 q1
 refine AO.guardN rfl rfl rfl (ltb rfl) rfl q1 ?_
 refine AO.guardN rfl rfl rfl (ltb rfl) rfl q1 ?_
 refine AO.op rfl (AOp.pickN rfl rfl (ltb rfl) rfl q1 rfl ?_)
 refine AO.op rfl (AOp.move rfl rfl (ltb rfl) rfl ?_)
 refine AO.guardY rfl rfl rfl rfl (AOp.move rfl rfl (ltb rfl) rfl ?_)
 refine AO.guardY rfl rfl rfl rfl (AOp.ieql rfl rfl (ltb rfl) rfl rfl ?_)
 refine AO.guardY rfl rfl rfl rfl (AOp.move rfl rfl (ltb rfl) rfl ?_)
 refine AO.dec (decide (a0 = (3 : Int))) (fun q5 => ?_) (fun q5 => ?_)
 ·replace h0 := cT h0 q5
  refine AO.guardY rfl rfl rfl q5 (AOp.move rfl rfl (ltb rfl) rfl ?_)
  refine AO.guardY rfl rfl rfl q5 (AOp.ieql rfl rfl (ltb rfl) rfl rfl ?_)
  refine AO.guardY rfl rfl rfl rfl (AOp.pick rfl rfl (ltb rfl) rfl q5 rfl ?_)
  refine AO.op rfl (AOp.pickN rfl rfl (ltb rfl) rfl rfl rfl ?_)
  refine AO.nil ?_
  change AC _ _ _ _
  refine AC.cond rfl (fun q6 => ?_) (fun q6 => ?_)
  ·replace h0 := cT h0 q6
   refine AC.seq ?_
   refine AC.region ?_
   refine AO.op rfl (AOp.assign rfl rfl (ltb rfl) rfl ?_)
   refine AO.nil ?_
   change AC _ _ _ _
   refine AC.ret ?_
   change RetQ _ _ _ .ret _
   obtain rfl := Option.some.inj h0
   refine retq rfl rfl
  replace h0 := cF h0 q6
  refine AC.skip ?_
  change AC _ _ _ _
  refine AC.seq ?_
  refine AC.region ?_
  refine AO.op rfl (AOp.move rfl rfl (ltb rfl) rfl ?_)
  refine AO.op rfl (AOp.move rfl rfl (ltb rfl) rfl ?_)
  refine AO.op rfl (AOp.imax rfl rfl (ltb rfl) rfl rfl ?_)
  refine AO.op rfl (AOp.assign rfl rfl (ltb rfl) rfl ?_)
  refine AO.nil ?_
  change AC _ _ _ _
  refine AC.ret ?_
  change RetQ _ _ _ .ret _
  obtain rfl := Option.some.inj h0
  refine retq rfl rfl
 replace h0 := cF h0 q5
 refine AO.guardN rfl rfl rfl (ltb rfl) rfl q5 ?_
 refine AO.guardN rfl rfl rfl (ltb rfl) rfl q5 ?_
 refine AO.guardY rfl rfl rfl rfl (AOp.pickN rfl rfl (ltb rfl) rfl q5 rfl ?_)
 refine AO.op rfl (AOp.pickN rfl rfl (ltb rfl) rfl rfl rfl ?_)
 refine AO.nil ?_
 change AC _ _ _ _
 refine AC.condF rfl rfl ?_
 refine AC.skip ?_
 change AC _ _ _ _
 refine AC.seq ?_
 refine AC.region ?_
 refine AO.op rfl (AOp.move rfl rfl (ltb rfl) rfl ?_)
 refine AO.op rfl (AOp.move rfl rfl (ltb rfl) rfl ?_)
 refine AO.op rfl (AOp.imax rfl rfl (ltb rfl) rfl rfl ?_)
 refine AO.op rfl (AOp.assign rfl rfl (ltb rfl) rfl ?_)
 refine AO.nil ?_
 change AC _ _ _ _
 refine AC.ret ?_
 change RetQ _ _ _ .ret _
 obtain rfl := Option.some.inj h0
 refine retq rfl rfl

set_option maxRecDepth 100000 in
set_option maxHeartbeats 4000000 in
/-- pub-orthodrome/spec.LayoutOf -/
theorem w_LayoutOf_b (Rec_ : TImpl_Geom → Option Int) (hR : ∀ (a0 : TImpl_Geom) (r0 : Int), Rec_ a0 = some r0 → FnD Tryd.prog 50 [e_TImpl_Geom a0] (fun r => r = di .i64 r0)) (F : Nat) (a0 : TImpl_Geom) (r0 : Int) (h0 : p_LayoutOf_b Rec_ F a0 = some r0) : FnD Tryd.prog 50 [e_TImpl_Geom a0] (fun r => r = di .i64 r0) := by
 refine FnD.of (by kernel_rfl) Tryd.func50 rfl Tryd.ntmps50 rfl (leb rfl) fun W ok => ?_
 unfold p_LayoutOf_b at h0
 refine AC.seq ?_
 refine AC.region ?_
 refine AO.op rfl (AOp.box rfl rfl (ltb rfl) rfl rfl ?_)
 refine AO.op rfl (AOp.assign rfl rfl (ltb rfl) rfl ?_)
 refine AO.nil ?_
 change AC _ _ _ _
 refine AC.seq ?_
 refine AC.region ?_
 refine AO.op rfl (AOp.fieldAddr rfl rfl (ltb rfl) rfl fo35_1 ?_)
 refine AO.op rfl (AOp.load1 rfl rfl (ltb rfl) rfl agg3 rfl rfl ?_)
 refine AO.op rfl (AOp.assign rfl rfl (ltb rfl) rfl ?_)
 refine AO.nil ?_
 change AC _ _ _ _
 refine AC.seq ?_
 refine AC.joinP (V := Bool) [1, 3] [14] 1 (fun g1 => [(14, .d (dbool g1))]) (fun g1 => [.fix 35 [.d (di .i64 a0.Kind), .d (di .i64 a0.Layout), .d (di .i64 a0.SRID), .d (eS0 a0.Flat), .d (eS1 a0.Ends), .d (eS3 a0.Endss), .d (eS2 a0.Kids)]]) (fun g1 => (p_LayoutOf_k1 a0 F Rec_) g1 = some r0) rfl ?_ ?_
 ·refine AC.region ?_
  refine AO.op rfl (AOp.fieldAddr rfl rfl (ltb rfl) rfl fo35_0 ?_)
  refine AO.op rfl (AOp.load1 rfl rfl (ltb rfl) rfl agg3 rfl rfl ?_)
  refine AO.op rfl (AOp.ineq rfl rfl (ltb rfl) rfl rfl ?_)
  refine AO.op rfl (AOp.move rfl rfl (ltb rfl) rfl ?_)
  refine AO.dec (!decide (a0.Kind = (7 : Int))) (fun q17 => ?_) (fun q17 => ?_)
  ·replace h0 := cT h0 q17
   refine AO.guardN rfl rfl rfl (ltb rfl) rfl q17 ?_
   refine AO.guardN rfl rfl rfl (ltb rfl) rfl q17 ?_
   refine AO.op rfl (AOp.pick rfl rfl (ltb rfl) rfl q17 rfl ?_)
   refine AO.nil ?_
   exact ⟨true, _, rfl, (LeL.refl _), rfl, rfl, h0⟩
  replace h0 := cF h0 q17
  refine AO.guardY rfl rfl rfl q17 (AOp.move rfl rfl (ltb rfl) rfl ?_)
  refine AO.guardY rfl rfl rfl q17 (AOp.ineq rfl rfl (ltb rfl) rfl rfl ?_)
  refine AO.op rfl (AOp.pickN rfl rfl (ltb rfl) rfl q17 rfl ?_)
  refine AO.nil ?_
  exact ⟨(!decide (a0.Layout = (0 : Int))), _, rfl, (LeL.refl _), rfl, rfl, h0⟩
 intro g1 h0
 unfold p_LayoutOf_k1 at h0
 refine AC.cond rfl (fun q2 => ?_) (fun q2 => ?_)
 ·replace h0 := cT h0 q2
  refine AC.seq ?_
  refine AC.region ?_
  refine AO.op rfl (AOp.move rfl rfl (ltb rfl) rfl ?_)
  refine AO.op rfl (AOp.assign rfl rfl (ltb rfl) rfl ?_)
  refine AO.nil ?_
  change AC _ _ _ _
  refine AC.ret ?_
  change RetQ _ _ _ .ret _
  obtain rfl := Option.some.inj h0
  refine retq rfl rfl
 replace h0 := cF h0 q2
 refine AC.skip ?_
 change AC _ _ _ _
 refine AC.seq ?_
 refine AC.seq ?_
 refine AC.region ?_
 refine AO.op rfl (AOp.fieldAddr rfl rfl (ltb rfl) rfl fo35_6 ?_)
 refine AO.op rfl (AOp.load1 rfl rfl (ltb rfl) rfl agg33 rfl rfl ?_)
 refine AO.op rfl (AOp.lenDs (n := a0.Kids.length) (cells := (List.flatMap c0_TImpl_Geom a0.Kids)) rfl rfl (ltb rfl) rfl el33 (by decide) (lenN _ 7 c0_TImpl_Geom_len _) ?_)
 refine AO.op rfl (AOp.move rfl rfl (ltb rfl) rfl ?_)
 refine AO.nil ?_
 change AC _ _ _ _
 obtain ⟨o3, l4, h0⟩ := bind_elim h0
 refine AC.joinE (V := Int) [] [3] 1 (fun g5 => [(3, .d (di .i64 g5))]) (fun g5 => [.fix 35 [.d (di .i64 a0.Kind), .d (di .i64 a0.Layout), .d (di .i64 a0.SRID), .d (eS0 a0.Flat), .d (eS1 a0.Ends), .d (eS3 a0.Endss), .d (eS2 a0.Kids)]]) (fun g5 => p_LayoutOf_k2 g5 = some r0) rfl ?_ ?_
 ·refine AC.block ?_
  refine AC.loopP (V := (Int × Int)) (p_LayoutOf_l3 a0 Rec_) o3 [17, 18] [3, 19] 1 (fun g6 => [(3, .d (di .i64 g6.1)), (19, .d (di .i64 g6.2))]) (fun g6 => [.fix 35 [.d (di .i64 a0.Kind), .d (di .i64 a0.Layout), .d (di .i64 a0.SRID), .d (eS0 a0.Flat), .d (eS1 a0.Ends), .d (eS3 a0.Endss), .d (eS2 a0.Kids)]]) F (a0.Layout, (0 : Int)) l4 rfl rfl (LeL.refl _) rfl rfl ?_
  intro n8 g6 h1
  unfold p_LayoutOf_l3 at h1
  refine AC.seq ?_
  refine AC.region ?_
  refine AO.op rfl (AOp.ilss rfl rfl (ltb rfl) rfl rfl ?_)
  refine AO.nil ?_
  change AC _ _ _ _
  refine AC.seq ?_
  refine AC.cond rfl (fun q9 => ?_) (fun q9 => ?_)
  ·replace h1 := cT h1 q9
   refine AC.skip ?_
   change AC _ _ _ _
   refine AC.seq ?_
   refine AC.block ?_
   refine AC.seq ?_
   refine AC.region ?_
   obtain ⟨x10, q11, h1⟩ := idx_elim h1
   refine AO.op rfl (AOp.indexDs (cells := (List.flatMap c0_TImpl_Geom a0.Kids)) rfl rfl (ltb rfl) rfl rfl el33 (by decide) q11.1 (ltN 7 c0_TImpl_Geom_len (by decide) q11.2) ?_)
   refine AO.op rfl (AOp.loadEpN rfl rfl (ltb rfl) rfl agg35 size35 (leN 7 c0_TImpl_Geom_len q11.2) ((atN 7 c0_TImpl_Geom_len q11.2).trans (c0_TImpl_Geom_eq x10)) ?_)
   refine AO.op rfl (AOp.alloc rfl rfl (ltb rfl) zero35 rfl ?_)
   refine AO.op rfl (AOp.store rfl rfl rfl rfl size35 rfl rfl rfl (leb rfl) ?_)
   refine AO.nil ?_
   change AC _ _ _ _
   refine AC.region ?_
   refine AO.op rfl (AOp.move rfl rfl (ltb rfl) rfl ?_)
   refine AO.op rfl (AOp.loadN rfl rfl (ltb rfl) rfl agg35 size35 rfl (leb rfl) rfl ?_)
   obtain ⟨y12, q13, h1⟩ := bind_elim h1
   refine AO.op rfl (AOp.callD rfl rfl (ltb rfl) rfl rfl (hR x10 y12 q13) ?_)
   rintro _ rfl
   obtain ⟨y14, q15, h1⟩ := bind_elim h1
   refine AO.op rfl (AOp.callD rfl rfl (ltb rfl) rfl rfl (w_Cover g6.1 y12 y14 q15) ?_)
   rintro _ rfl
   refine AO.op rfl (AOp.assign rfl rfl (ltb rfl) rfl ?_)
   refine AO.nil ?_
   change AC _ _ _ _
   refine AC.region ?_
   obtain ⟨q16, h1⟩ := need_elim h1
   refine AO.op rfl (AOp.iadd rfl rfl (ltb rfl) rfl rfl rfl q16.1 q16.2 ?_)
   refine AO.op rfl (AOp.move rfl rfl (ltb rfl) rfl ?_)
   refine AO.nil ?_
   exact ⟨(y14, (g6.2 + (1 : Int))), _, rfl, (LeL.refl _), rfl, rfl, h1⟩
  replace h1 := cF h1 q9
  refine AC.exit ?_
  obtain rfl := Option.some.inj h1
  exact ⟨g6.1, _, rfl, (LeL.refl _), rfl, rfl, aftL h0⟩
 intro g5 h0
 unfold p_LayoutOf_k2 at h0
 change AC _ _ _ _
 refine AC.seq ?_
 refine AC.region ?_
 refine AO.op rfl (AOp.move rfl rfl (ltb rfl) rfl ?_)
 refine AO.op rfl (AOp.assign rfl rfl (ltb rfl) rfl ?_)
 refine AO.nil ?_
 change AC _ _ _ _
 refine AC.ret ?_
 change RetQ _ _ _ .ret _
 obtain rfl := Option.some.inj h0
 refine retq rfl rfl
theorem w_LayoutOf : ∀ (F : Nat) (a0 : TImpl_Geom) (r0 : Int), p_LayoutOf F a0 = some r0 → FnD Tryd.prog 50 [e_TImpl_Geom a0] (fun r => r = di .i64 r0)
 | 0, _, _, h => by cases h
 | F + 1, a0, r0, h => w_LayoutOf_b _ (fun a0 r0 h => w_LayoutOf F a0 r0 h) F a0 r0 h

set_option maxRecDepth 100000 in
set_option maxHeartbeats 4000000 in
/-- pub-orthodrome/spec.goodEnds -/
theorem w_goodEnds (F : Nat) (a0 : (List Int)) (a1 : Int) (a2 : Int) (a3 : Bool) (r0 : (Int × Bool)) (h0 : p_goodEnds F a0 a1 a2 a3 = some r0) : FnD Tryd.prog 51 [eS1 a0, di .i64 a1, di .i64 a2, dbool a3] (fun r => r = .tu [di .i64 r0.1, dbool r0.2]) := by
 refine FnD.of (by kernel_rfl) Tryd.func51 rfl Tryd.ntmps51 rfl (leb rfl) fun W ok => ?_
 unfold p_goodEnds at h0
 refine AC.seq ?_
 refine AC.region ?_
 refine AO.op rfl (AOp.assign rfl rfl (ltb rfl) rfl ?_)
 refine AO.op rfl (AOp.assign rfl rfl (ltb rfl) rfl ?_)
 refine AO.nil ?_
 change AC _ _ _ _
 refine AC.seq ?_
 refine AC.seq ?_
 refine AC.region ?_
 refine AO.op rfl (AOp.move rfl rfl (ltb rfl) rfl ?_)
 refine AO.op rfl (AOp.lenDs (n := a0.length) (cells := (List.map keS1 a0)) rfl rfl (ltb rfl) rfl el31 (by decide) (len1 _ _) ?_)
 refine AO.op rfl (AOp.move rfl rfl (ltb rfl) rfl ?_)
 refine AO.nil ?_
 change AC _ _ _ _
 obtain ⟨o1, l2, h0⟩ := bind_elim h0
 refine AC.joinE (V := Int) [] [1] 0 (fun g3 => [(1, .d (di .i64 g3))]) (fun g3 => []) (fun g3 => p_goodEnds_k1 g3 = some r0) rfl ?_ ?_
 ·refine AC.block ?_
  refine AC.loopP (V := (Int × Int)) (p_goodEnds_l2 a0 a2 a3) o1 [2, 3, 12, 13] [1, 14] 0 (fun g4 => [(1, .d (di .i64 g4.1)), (14, .d (di .i64 g4.2))]) (fun g4 => []) F (a1, (0 : Int)) l2 rfl rfl (LeL.refl _) rfl rfl ?_
  intro n6 g4 h1
  unfold p_goodEnds_l2 at h1
  refine AC.seq ?_
  refine AC.region ?_
  refine AO.op rfl (AOp.ilss rfl rfl (ltb rfl) rfl rfl ?_)
  refine AO.nil ?_
  change AC _ _ _ _
  refine AC.seq ?_
  refine AC.cond rfl (fun q7 => ?_) (fun q7 => ?_)
  ·replace h1 := cT h1 q7
   refine AC.skip ?_
   change AC _ _ _ _
   refine AC.seq ?_
   refine AC.block ?_
   refine AC.seq ?_
   refine AC.region ?_
   obtain ⟨x8, q9, h1⟩ := idx_elim h1
   refine AO.op rfl (AOp.indexDs (cells := (List.map keS1 a0)) rfl rfl (ltb rfl) rfl rfl el31 (by decide) q9.1 (lt1 q9.2) ?_)
   refine AO.op rfl (AOp.loadEp rfl rfl (ltb rfl) rfl agg3 (at1 q9.2) ?_)
   refine AO.op rfl (AOp.assign rfl rfl (ltb rfl) rfl ?_)
   refine AO.nil ?_
   change AC _ _ _ _
   refine AC.seq ?_
   refine AC.joinP (V := Bool) [1, 2, 3, 11, 12, 13, 14] [38] 0 (fun g10 => [(38, .d (dbool g10))]) (fun g10 => []) (fun g10 => (p_goodEnds_k3 g4 (iter (p_goodEnds_l2 a0 a2 a3) n6) x8) g10 = some o1) rfl ?_ ?_
   ·refine AC.region ?_
    refine AO.op rfl (AOp.move rfl rfl (ltb rfl) rfl ?_)
    refine AO.op rfl (AOp.move rfl rfl (ltb rfl) rfl ?_)
    refine AO.op rfl (AOp.ilss rfl rfl (ltb rfl) rfl rfl ?_)
    refine AO.op rfl (AOp.move rfl rfl (ltb rfl) rfl ?_)
    refine AO.dec (decide (x8 < g4.1)) (fun q13 => ?_) (fun q13 => ?_)
    ·replace h1 := cT h1 q13
     refine AO.guardN rfl rfl rfl (ltb rfl) rfl q13 ?_
     refine AO.guardN rfl rfl rfl (ltb rfl) rfl q13 ?_
     refine AO.guardN rfl rfl rfl (ltb rfl) rfl q13 ?_
     refine AO.guardN rfl rfl rfl (ltb rfl) rfl q13 ?_
     refine AO.guardN rfl rfl rfl (ltb rfl) rfl q13 ?_
     refine AO.guardN rfl rfl rfl (ltb rfl) rfl q13 ?_
     refine AO.op rfl (AOp.pick rfl rfl (ltb rfl) rfl q13 rfl ?_)
     refine AO.op rfl (AOp.move rfl rfl (ltb rfl) rfl ?_)
     refine AO.guardN rfl rfl rfl (ltb rfl) rfl rfl ?_
     refine AO.guardN rfl rfl rfl (ltb rfl) rfl rfl ?_
     refine AO.guardU rfl rfl rfl (ltb rfl) rfl ?_
     refine AO.guardU rfl rfl rfl (ltb rfl) rfl ?_
     refine AO.guardU rfl rfl rfl (ltb rfl) rfl ?_
     refine AO.guardU rfl rfl rfl (ltb rfl) rfl ?_
     refine AO.guardU rfl rfl rfl (ltb rfl) rfl ?_
     refine AO.guardN rfl rfl rfl (ltb rfl) rfl rfl ?_
     refine AO.op rfl (AOp.pick rfl rfl (ltb rfl) rfl rfl rfl ?_)
     refine AO.nil ?_
     exact ⟨true, _, rfl, (LeL.refl _), rfl, rfl, h1⟩
    replace h1 := cF h1 q13
    refine AO.guardY rfl rfl rfl q13 (AOp.move rfl rfl (ltb rfl) rfl ?_)
    refine AO.guardY rfl rfl rfl q13 (AOp.move rfl rfl (ltb rfl) rfl ?_)
    obtain ⟨q14, h1⟩ := need_elim h1
    refine AO.guardY rfl rfl rfl q13 (AOp.isub rfl rfl (ltb rfl) rfl rfl rfl q14.1 q14.2 ?_)
    refine AO.guardY rfl rfl rfl q13 (AOp.move rfl rfl (ltb rfl) rfl ?_)
    obtain ⟨q15, h1⟩ := need_elim h1
    refine AO.guardY rfl rfl rfl q13 (AOp.irem rfl rfl (ltb rfl) rfl rfl q15 rfl ?_)
    refine AO.guardY rfl rfl rfl q13 (AOp.ineq rfl rfl (ltb rfl) rfl rfl ?_)
    refine AO.op rfl (AOp.pickN rfl rfl (ltb rfl) rfl q13 rfl ?_)
    refine AO.op rfl (AOp.move rfl rfl (ltb rfl) rfl ?_)
    refine AO.dec (!decide ((Int.tmod (x8 - g4.1) a2) = (0 : Int))) (fun q16 => ?_) (fun q16 => ?_)
    ·replace h1 := cT h1 q16
     refine AO.guardN rfl rfl rfl (ltb rfl) rfl q16 ?_
     refine AO.guardN rfl rfl rfl (ltb rfl) rfl q16 ?_
     refine AO.guardU rfl rfl rfl (ltb rfl) rfl ?_
     refine AO.guardU rfl rfl rfl (ltb rfl) rfl ?_
     refine AO.guardU rfl rfl rfl (ltb rfl) rfl ?_
     refine AO.guardU rfl rfl rfl (ltb rfl) rfl ?_
     refine AO.guardU rfl rfl rfl (ltb rfl) rfl ?_
     refine AO.guardN rfl rfl rfl (ltb rfl) rfl q16 ?_
     refine AO.op rfl (AOp.pick rfl rfl (ltb rfl) rfl q16 rfl ?_)
     refine AO.nil ?_
     exact ⟨true, _, rfl, (LeL.refl _), rfl, rfl, h1⟩
    replace h1 := cF h1 q16
    refine AO.guardY rfl rfl rfl q16 (AOp.move rfl rfl (ltb rfl) rfl ?_)
    refine AO.guardY rfl rfl rfl q16 (AOp.move rfl rfl (ltb rfl) rfl ?_)
    refine AO.dec a3 (fun q17 => ?_) (fun q17 => ?_)
    ·replace h1 := cT h1 q17
     refine AO.guardY rfl rfl rfl q17 (AOp.move rfl rfl (ltb rfl) rfl ?_)
     refine AO.guardY rfl rfl rfl q17 (AOp.move rfl rfl (ltb rfl) rfl ?_)
     obtain ⟨q18, h1⟩ := need_elim h1
     refine AO.guardY rfl rfl rfl q17 (AOp.isub rfl rfl (ltb rfl) rfl rfl rfl q18.1 q18.2 ?_)
     refine AO.guardY rfl rfl rfl q17 (AOp.move rfl rfl (ltb rfl) rfl ?_)
     refine AO.guardY rfl rfl rfl q17 (AOp.igtr rfl rfl (ltb rfl) rfl rfl ?_)
     refine AO.guardY rfl rfl rfl q16 (AOp.pick rfl rfl (ltb rfl) rfl q17 rfl ?_)
     refine AO.op rfl (AOp.pickN rfl rfl (ltb rfl) rfl q16 rfl ?_)
     refine AO.nil ?_
     exact ⟨(decide (a2 < (x8 - g4.1))), _, rfl, (LeL.refl _), rfl, rfl, h1⟩
    replace h1 := cF h1 q17
    refine AO.guardN rfl rfl rfl (ltb rfl) rfl q17 ?_
    refine AO.guardN rfl rfl rfl (ltb rfl) rfl q17 ?_
    refine AO.guardN rfl rfl rfl (ltb rfl) rfl q17 ?_
    refine AO.guardN rfl rfl rfl (ltb rfl) rfl q17 ?_
    refine AO.guardN rfl rfl rfl (ltb rfl) rfl q17 ?_
    refine AO.guardY rfl rfl rfl q16 (AOp.pickN rfl rfl (ltb rfl) rfl q17 rfl ?_)
    refine AO.op rfl (AOp.pickN rfl rfl (ltb rfl) rfl q16 rfl ?_)
    refine AO.nil ?_
    exact ⟨false, _, rfl, (LeL.refl _), rfl, rfl, h1⟩
   intro g10 h1
   unfold p_goodEnds_k3 at h1
   refine AC.cond rfl (fun q11 => ?_) (fun q11 => ?_)
   ·replace h1 := cT h1 q11
    refine AC.seq ?_
    refine AC.region ?_
    refine AO.op rfl (AOp.move rfl rfl (ltb rfl) rfl ?_)
    refine AO.op rfl (AOp.assign rfl rfl (ltb rfl) rfl ?_)
    refine AO.op rfl (AOp.assign rfl rfl (ltb rfl) rfl ?_)
    refine AO.nil ?_
    change AC _ _ _ _
    refine AC.ret ?_
    change RetQ _ _ _ .ret _
    obtain rfl := Option.some.inj h1
    replace h0 := aftR h0
    obtain rfl := Option.some.inj h0
    refine retq rfl rfl
   replace h1 := cF h1 q11
   refine AC.skip ?_
   change AC _ _ _ _
   refine AC.region ?_
   refine AO.op rfl (AOp.move rfl rfl (ltb rfl) rfl ?_)
   refine AO.op rfl (AOp.assign rfl rfl (ltb rfl) rfl ?_)
   refine AO.nil ?_
   change AC _ _ _ _
   refine AC.region ?_
   obtain ⟨q12, h1⟩ := need_elim h1
   refine AO.op rfl (AOp.iadd rfl rfl (ltb rfl) rfl rfl rfl q12.1 q12.2 ?_)
   refine AO.op rfl (AOp.move rfl rfl (ltb rfl) rfl ?_)
   refine AO.nil ?_
   exact ⟨(x8, (g4.2 + (1 : Int))), _, rfl, (LeL.refl _), rfl, rfl, h1⟩
  replace h1 := cF h1 q7
  refine AC.exit ?_
  obtain rfl := Option.some.inj h1
  exact ⟨g4.1, _, rfl, (LeL.refl _), rfl, rfl, aftL h0⟩
 intro g3 h0
 unfold p_goodEnds_k1 at h0
 change AC _ _ _ _
 refine AC.seq ?_
 refine AC.region ?_
 refine AO.op rfl (AOp.move rfl rfl (ltb rfl) rfl ?_)
 refine AO.op rfl (AOp.assign rfl rfl (ltb rfl) rfl ?_)
 refine AO.op rfl (AOp.assign rfl rfl (ltb rfl) rfl ?_)
 refine AO.nil ?_
 change AC _ _ _ _
 refine AC.ret ?_
 change RetQ _ _ _ .ret _
 obtain rfl := Option.some.inj h0
 refine retq rfl rfl

set_option maxRecDepth 100000 in
set_option maxHeartbeats 4000000 in
/-- pub-orthodrome/spec.Good -/
theorem w_Good_b (Rec_ : TImpl_Geom → Option Bool) (hR : ∀ (a0 : TImpl_Geom) (r0 : Bool), Rec_ a0 = some r0 → FnD Tryd.prog 41 [e_TImpl_Geom a0] (fun r => r = dbool r0)) (F : Nat) (a0 : TImpl_Geom) (r0 : Bool) (h0 : p_Good_b Rec_ F a0 = some r0) : FnD Tryd.prog 41 [e_TImpl_Geom a0] (fun r => r = dbool r0) := by
 refine FnD.of (by kernel_rfl) Tryd.func41 rfl Tryd.ntmps41 rfl (leb rfl) fun W ok => ?_
 unfold p_Good_b at h0
 refine AC.seq ?_
 refine AC.region ?_
 refine AO.op rfl (AOp.box rfl rfl (ltb rfl) rfl rfl ?_)
 refine AO.op rfl (AOp.assign rfl rfl (ltb rfl) rfl ?_)
 refine AO.nil ?_
 change AC _ _ _ _
 refine AC.seq ?_
 refine AC.region ?_
 refine AO.op rfl (AOp.fieldAddr rfl rfl (ltb rfl) rfl fo35_1 ?_)
 refine AO.op rfl (AOp.load1 rfl rfl (ltb rfl) rfl agg3 rfl rfl ?_)
 obtain ⟨y1, q2, h0⟩ := bind_elim h0
 refine AO.op rfl (AOp.callD rfl rfl (ltb rfl) rfl rfl (w_Stride a0.Layout y1 q2) ?_)
 rintro _ rfl
 refine AO.op rfl (AOp.assign rfl rfl (ltb rfl) rfl ?_)
 refine AO.nil ?_
 change AC _ _ _ _
 refine AC.seq ?_
 refine AC.seq ?_
 refine AC.region ?_
 refine AO.op rfl (AOp.fieldAddr rfl rfl (ltb rfl) rfl fo35_0 ?_)
 refine AO.op rfl (AOp.load1 rfl rfl (ltb rfl) rfl agg3 rfl rfl ?_)
 refine AO.op rfl (AOp.ieql rfl rfl (ltb rfl) rfl rfl ?_)
 refine AO.nil ?_
 change AC _ _ _ _
 refine AC.cond rfl (fun q3 => ?_) (fun q3 => ?_)
 ·replace h0 := cT h0 q3
  refine AC.seq ?_
  refine AC.seq ?_
  refine AC.region ?_
  refine AO.op rfl (AOp.fieldAddr rfl rfl (ltb rfl) rfl fo35_6 ?_)
  refine AO.op rfl (AOp.load1 rfl rfl (ltb rfl) rfl agg33 rfl rfl ?_)
  refine AO.op rfl (AOp.lenDs (n := a0.Kids.length) (cells := (List.flatMap c0_TImpl_Geom a0.Kids)) rfl rfl (ltb rfl) rfl el33 (by decide) (lenN _ 7 c0_TImpl_Geom_len _) ?_)
  refine AO.op rfl (AOp.move rfl rfl (ltb rfl) rfl ?_)
  refine AO.nil ?_
  change AC _ _ _ _
  obtain ⟨o4, l5, h0⟩ := bind_elim h0
  refine AC.joinE (V := Unit) [1] [] 1 (fun g6 => []) (fun g6 => [.fix 35 [.d (di .i64 a0.Kind), .d (di .i64 a0.Layout), .d (di .i64 a0.SRID), .d (eS0 a0.Flat), .d (eS1 a0.Ends), .d (eS3 a0.Endss), .d (eS2 a0.Kids)]]) (fun g6 => (p_Good_k1 a0) g6 = some r0) rfl ?_ ?_
  ·refine AC.block ?_
   refine AC.loopP (V := Int) (p_Good_l3 a0 F Rec_) o4 [1, 20, 21] [22] 1 (fun g11 => [(22, .d (di .i64 g11))]) (fun g11 => [.fix 35 [.d (di .i64 a0.Kind), .d (di .i64 a0.Layout), .d (di .i64 a0.SRID), .d (eS0 a0.Flat), .d (eS1 a0.Ends), .d (eS3 a0.Endss), .d (eS2 a0.Kids)]]) F (0 : Int) l5 rfl rfl (LeL.refl _) rfl rfl ?_
   intro n13 g11 h1
   unfold p_Good_l3 at h1
   refine AC.seq ?_
   refine AC.region ?_
   refine AO.op rfl (AOp.ilss rfl rfl (ltb rfl) rfl rfl ?_)
   refine AO.nil ?_
   change AC _ _ _ _
   refine AC.seq ?_
   refine AC.cond rfl (fun q14 => ?_) (fun q14 => ?_)
   ·replace h1 := cT h1 q14
    refine AC.skip ?_
    change AC _ _ _ _
    refine AC.seq ?_
    refine AC.block ?_
    refine AC.seq ?_
    refine AC.region ?_
    obtain ⟨x15, q16, h1⟩ := idx_elim h1
    refine AO.op rfl (AOp.indexDs (cells := (List.flatMap c0_TImpl_Geom a0.Kids)) rfl rfl (ltb rfl) rfl rfl el33 (by decide) q16.1 (ltN 7 c0_TImpl_Geom_len (by decide) q16.2) ?_)
    refine AO.op rfl (AOp.loadEpN rfl rfl (ltb rfl) rfl agg35 size35 (leN 7 c0_TImpl_Geom_len q16.2) ((atN 7 c0_TImpl_Geom_len q16.2).trans (c0_TImpl_Geom_eq x15)) ?_)
    refine AO.op rfl (AOp.alloc rfl rfl (ltb rfl) zero35 rfl ?_)
    refine AO.op rfl (AOp.store rfl rfl rfl rfl size35 rfl rfl rfl (leb rfl) ?_)
    refine AO.nil ?_
    change AC _ _ _ _
    refine AC.seq ?_
    refine AC.draw 15 mixed (by kernel_rfl) ?_
    refine AD.op [5] rfl (by kernel_rfl) rfl rfl (fun _ _ h => AOp.loadN rfl rfl (ltb rfl) rfl agg35 size35 rfl (leb rfl) rfl h) ?_
    obtain ⟨y17, q18, h1⟩ := bind_elim h1
    refine AD.op [26] rfl (by kernel_rfl) rfl rfl (fun _ _ h => AOp.callD rfl rfl (ltb rfl) rfl rfl (hR x15 y17 q18) (by rintro _ rfl; exact h)) ?_
    refine AD.op [27] rfl (by kernel_rfl) rfl rfl (fun _ _ h => AOp.bnot rfl rfl (ltb rfl) rfl h) ?_
    refine AD.op [28] rfl (by kernel_rfl) rfl rfl (fun _ _ h => AOp.move rfl rfl (ltb rfl) rfl h) ?_
    refine AD.dec (!y17) (fun q19 => ?_) (fun q19 => ?_)
    ·replace h1 := cT h1 q19
     refine AD.opN rfl rfl rfl (ltb rfl) rfl q19 ?_
     refine AD.opN rfl rfl rfl (ltb rfl) rfl q19 ?_
     refine AD.opN rfl rfl rfl (ltb rfl) rfl q19 ?_
     refine AD.opN rfl rfl rfl (ltb rfl) rfl q19 ?_
     refine AD.opU rfl rfl rfl (ltb rfl) rfl ?_
     refine AD.opU rfl rfl rfl (ltb rfl) rfl ?_
     refine AD.opU rfl rfl rfl (ltb rfl) rfl ?_
     refine AD.opU rfl rfl rfl (ltb rfl) rfl ?_
     refine AD.opU rfl rfl rfl (ltb rfl) rfl ?_
     refine AD.opN rfl rfl rfl (ltb rfl) rfl q19 ?_
     refine AD.op [29, 39] rfl (by kernel_rfl) rfl rfl (fun _ _ h => AOp.pick rfl rfl (ltb rfl) rfl q19 rfl h) ?_
     refine AD.done ?_
     refine AO.nil ?_
     change AC _ _ _ _
     refine AC.condT rfl rfl ?_
     refine AC.seq ?_
     refine AC.region ?_
     refine AO.op rfl (AOp.assign rfl rfl (ltb rfl) rfl ?_)
     refine AO.nil ?_
     change AC _ _ _ _
     refine AC.ret ?_
     change RetQ _ _ _ .ret _
     obtain rfl := Option.some.inj h1
     replace h0 := aftR h0
     obtain rfl := Option.some.inj h0
     refine retq rfl rfl
    replace h1 := cF h1 q19
    refine AD.opY [1, 29] rfl rfl rfl q19 (by kernel_rfl) rfl rfl (fun _ _ h => AOp.fieldAddr rfl rfl (ltb rfl) rfl fo35_1 h) ?_
    refine AD.opY [29, 30] rfl rfl rfl q19 (by kernel_rfl) rfl rfl (fun _ _ h => AOp.load1 rfl rfl (ltb rfl) rfl agg3 rfl rfl h) ?_
    refine AD.opY [29, 31] rfl rfl rfl q19 (by kernel_rfl) rfl rfl (fun _ _ h => AOp.ineq rfl rfl (ltb rfl) rfl rfl h) ?_
    refine AD.opY [29, 32] rfl rfl rfl q19 (by kernel_rfl) rfl rfl (fun _ _ h => AOp.move rfl rfl (ltb rfl) rfl h) ?_
    refine AD.dec (!decide (a0.Layout = (0 : Int))) (fun q20 => ?_) (fun q20 => ?_)
    ·replace h1 := cT h1 q20
     refine AD.opY [5, 33] rfl rfl rfl q20 (by kernel_rfl) rfl rfl (fun _ _ h => AOp.loadN rfl rfl (ltb rfl) rfl agg35 size35 rfl (leb rfl) rfl h) ?_
     obtain ⟨y21, q22, h1⟩ := bind_elim h1
     refine AD.opY [33, 34] rfl rfl rfl q20 (by kernel_rfl) rfl rfl (fun _ _ h => AOp.callD rfl rfl (ltb rfl) rfl rfl (w_LayoutOf F x15 y21 q22) (by rintro _ rfl; exact h)) ?_
     refine AD.opY [1, 33] rfl rfl rfl q20 (by kernel_rfl) rfl rfl (fun _ _ h => AOp.fieldAddr rfl rfl (ltb rfl) rfl fo35_1 h) ?_
     refine AD.opY [33, 36] rfl rfl rfl q20 (by kernel_rfl) rfl rfl (fun _ _ h => AOp.load1 rfl rfl (ltb rfl) rfl agg3 rfl rfl h) ?_
     refine AD.opY [33, 35, 37] rfl rfl rfl q20 (by kernel_rfl) rfl rfl (fun _ _ h => AOp.ineq rfl rfl (ltb rfl) rfl rfl h) ?_
     refine AD.opY [29, 33, 38] rfl rfl rfl q19 (by kernel_rfl) rfl rfl (fun _ _ h => AOp.pick rfl rfl (ltb rfl) rfl q20 rfl h) ?_
     refine AD.op [29, 39] rfl (by kernel_rfl) rfl rfl (fun _ _ h => AOp.pickN rfl rfl (ltb rfl) rfl q19 rfl h) ?_
     refine AD.done ?_
     refine AO.nil ?_
     change AC _ _ _ _
     refine AC.cond rfl (fun q23 => ?_) (fun q23 => ?_)
     ·replace h1 := cT h1 q23
      refine AC.seq ?_
      refine AC.region ?_
      refine AO.op rfl (AOp.assign rfl rfl (ltb rfl) rfl ?_)
      refine AO.nil ?_
      change AC _ _ _ _
      refine AC.ret ?_
      change RetQ _ _ _ .ret _
      obtain rfl := Option.some.inj h1
      replace h0 := aftR h0
      obtain rfl := Option.some.inj h0
      refine retq rfl rfl
     replace h1 := cF h1 q23
     refine AC.skip ?_
     change AC _ _ _ _
     refine AC.region ?_
     obtain ⟨q24, h1⟩ := need_elim h1
     refine AO.op rfl (AOp.iadd rfl rfl (ltb rfl) rfl rfl rfl q24.1 q24.2 ?_)
     refine AO.op rfl (AOp.move rfl rfl (ltb rfl) rfl ?_)
     refine AO.nil ?_
     exact ⟨(g11 + (1 : Int)), _, rfl, (LeL.refl _), rfl, rfl, h1⟩
    replace h1 := cF h1 q20
    refine AD.opN rfl rfl rfl (ltb rfl) rfl q20 ?_
    refine AD.opN rfl rfl rfl (ltb rfl) rfl q20 ?_
    refine AD.opN rfl rfl rfl (ltb rfl) rfl q20 ?_
    refine AD.opN rfl rfl rfl (ltb rfl) rfl q20 ?_
    refine AD.opN rfl rfl rfl (ltb rfl) rfl q20 ?_
    refine AD.opY [29, 33, 38] rfl rfl rfl q19 (by kernel_rfl) rfl rfl (fun _ _ h => AOp.pickN rfl rfl (ltb rfl) rfl q20 rfl h) ?_
    refine AD.op [29, 39] rfl (by kernel_rfl) rfl rfl (fun _ _ h => AOp.pickN rfl rfl (ltb rfl) rfl q19 rfl h) ?_
    refine AD.done ?_
    refine AO.nil ?_
    change AC _ _ _ _
    refine AC.condF rfl rfl ?_
    refine AC.skip ?_
    change AC _ _ _ _
    refine AC.region ?_
    obtain ⟨q25, h1⟩ := need_elim h1
    refine AO.op rfl (AOp.iadd rfl rfl (ltb rfl) rfl rfl rfl q25.1 q25.2 ?_)
    refine AO.op rfl (AOp.move rfl rfl (ltb rfl) rfl ?_)
    refine AO.nil ?_
    exact ⟨(g11 + (1 : Int)), _, rfl, (LeL.refl _), rfl, rfl, h1⟩
   replace h1 := cF h1 q14
   refine AC.exit ?_
   obtain rfl := Option.some.inj h1
   exact ⟨(), _, rfl, (LeL.refl _), rfl, rfl, aftL h0⟩
  intro g6 h0
  unfold p_Good_k1 at h0
  change AC _ _ _ _
  refine AC.joinP (V := Bool) [] [2] 1 (fun g7 => [(2, .d (dbool g7))]) (fun g7 => [.fix 35 [.d (di .i64 a0.Kind), .d (di .i64 a0.Layout), .d (di .i64 a0.SRID), .d (eS0 a0.Flat), .d (eS1 a0.Ends), .d (eS3 a0.Endss), .d (eS2 a0.Kids)]]) (fun g7 => p_Good_k2 g7 = some r0) rfl ?_ ?_
  ·refine AC.region ?_
   refine AO.op rfl (AOp.fieldAddr rfl rfl (ltb rfl) rfl fo35_1 ?_)
   refine AO.op rfl (AOp.load1 rfl rfl (ltb rfl) rfl agg3 rfl rfl ?_)
   refine AO.op rfl (AOp.igeq rfl rfl (ltb rfl) rfl rfl ?_)
   refine AO.op rfl (AOp.move rfl rfl (ltb rfl) rfl ?_)
   refine AO.dec (decide ((0 : Int) ≤ a0.Layout)) (fun q8 => ?_) (fun q8 => ?_)
   ·replace h0 := cT h0 q8
    refine AO.guardY rfl rfl rfl q8 (AOp.fieldAddr rfl rfl (ltb rfl) rfl fo35_3 ?_)
    refine AO.guardY rfl rfl rfl q8 (AOp.load1 rfl rfl (ltb rfl) rfl agg24 rfl rfl ?_)
    refine AO.guardY rfl rfl rfl q8 (AOp.lenDs (n := a0.Flat.length) (cells := (List.map keS0 a0.Flat)) rfl rfl (ltb rfl) rfl el24 (by decide) (len1 _ _) ?_)
    refine AO.guardY rfl rfl rfl q8 (AOp.fieldAddr rfl rfl (ltb rfl) rfl fo35_4 ?_)
    refine AO.guardY rfl rfl rfl q8 (AOp.load1 rfl rfl (ltb rfl) rfl agg31 rfl rfl ?_)
    refine AO.guardY rfl rfl rfl q8 (AOp.lenDs (n := a0.Ends.length) (cells := (List.map keS1 a0.Ends)) rfl rfl (ltb rfl) rfl el31 (by decide) (len1 _ _) ?_)
    obtain ⟨q9, h0⟩ := need_elim h0
    refine AO.guardY rfl rfl rfl q8 (AOp.iadd rfl rfl (ltb rfl) rfl rfl rfl q9.1 q9.2 ?_)
    refine AO.guardY rfl rfl rfl q8 (AOp.fieldAddr rfl rfl (ltb rfl) rfl fo35_5 ?_)
    refine AO.guardY rfl rfl rfl q8 (AOp.load1 rfl rfl (ltb rfl) rfl agg32 rfl rfl ?_)
    refine AO.guardY rfl rfl rfl q8 (AOp.lenDs (n := a0.Endss.length) (cells := (List.map keS3 a0.Endss)) rfl rfl (ltb rfl) rfl el32 (by decide) (len1 _ _) ?_)
    obtain ⟨q10, h0⟩ := need_elim h0
    refine AO.guardY rfl rfl rfl q8 (AOp.iadd rfl rfl (ltb rfl) rfl rfl rfl q10.1 q10.2 ?_)
    refine AO.guardY rfl rfl rfl q8 (AOp.ieql rfl rfl (ltb rfl) rfl rfl ?_)
    refine AO.op rfl (AOp.pick rfl rfl (ltb rfl) rfl q8 rfl ?_)
    refine AO.op rfl (AOp.assign rfl rfl (ltb rfl) rfl ?_)
    refine AO.nil ?_
    exact ⟨(decide (((((a0.Flat.length : Nat) : Int) + ((a0.Ends.length : Nat) : Int)) + ((a0.Endss.length : Nat) : Int)) = (0 : Int))), _, rfl, (LeL.refl _), rfl, rfl, h0⟩
   replace h0 := cF h0 q8
   refine AO.guardN rfl rfl rfl (ltb rfl) rfl q8 ?_
   refine AO.guardN rfl rfl rfl (ltb rfl) rfl q8 ?_
   refine AO.guardN rfl rfl rfl (ltb rfl) rfl q8 ?_
   refine AO.guardN rfl rfl rfl (ltb rfl) rfl q8 ?_
   refine AO.guardN rfl rfl rfl (ltb rfl) rfl q8 ?_
   refine AO.guardN rfl rfl rfl (ltb rfl) rfl q8 ?_
   refine AO.guardN rfl rfl rfl (ltb rfl) rfl q8 ?_
   refine AO.guardN rfl rfl rfl (ltb rfl) rfl q8 ?_
   refine AO.guardN rfl rfl rfl (ltb rfl) rfl q8 ?_
   refine AO.guardN rfl rfl rfl (ltb rfl) rfl q8 ?_
   refine AO.guardN rfl rfl rfl (ltb rfl) rfl q8 ?_
   refine AO.guardN rfl rfl rfl (ltb rfl) rfl q8 ?_
   refine AO.op rfl (AOp.pickN rfl rfl (ltb rfl) rfl q8 rfl ?_)
   refine AO.op rfl (AOp.assign rfl rfl (ltb rfl) rfl ?_)
   refine AO.nil ?_
   exact ⟨false, _, rfl, (LeL.refl _), rfl, rfl, h0⟩
  intro g7 h0
  unfold p_Good_k2 at h0
  refine AC.ret ?_
  change RetQ _ _ _ .ret _
  obtain rfl := Option.some.inj h0
  refine retq rfl rfl
 replace h0 := cF h0 q3
 refine AC.skip ?_
 change AC _ _ _ _
 refine AC.joinP (V := Unit) [1, 3] [] 1 (fun g26 => []) (fun g26 => [.fix 35 [.d (di .i64 a0.Kind), .d (di .i64 a0.Layout), .d (di .i64 a0.SRID), .d (eS0 a0.Flat), .d (eS1 a0.Ends), .d (eS3 a0.Endss), .d (eS2 a0.Kids)]]) (fun g26 => (p_Good_k4 a0 F y1) g26 = some r0) rfl ?_ ?_
 ·refine AC.seq ?_
  refine AC.region ?_
  refine AO.op rfl (AOp.move rfl rfl (ltb rfl) rfl ?_)
  refine AO.op rfl (AOp.ieql rfl rfl (ltb rfl) rfl rfl ?_)
  refine AO.op rfl (AOp.move rfl rfl (ltb rfl) rfl ?_)
  refine AO.dec (decide (y1 = (0 : Int))) (fun q56 => ?_) (fun q56 => ?_)
  ·replace h0 := cT h0 q56
   refine AO.guardN rfl rfl rfl (ltb rfl) rfl q56 ?_
   refine AO.guardN rfl rfl rfl (ltb rfl) rfl q56 ?_
   refine AO.guardN rfl rfl rfl (ltb rfl) rfl q56 ?_
   refine AO.guardN rfl rfl rfl (ltb rfl) rfl q56 ?_
   refine AO.guardN rfl rfl rfl (ltb rfl) rfl q56 ?_
   refine AO.guardN rfl rfl rfl (ltb rfl) rfl q56 ?_
   refine AO.op rfl (AOp.pick rfl rfl (ltb rfl) rfl q56 rfl ?_)
   refine AO.op rfl (AOp.move rfl rfl (ltb rfl) rfl ?_)
   refine AO.guardN rfl rfl rfl (ltb rfl) rfl rfl ?_
   refine AO.guardN rfl rfl rfl (ltb rfl) rfl rfl ?_
   refine AO.guardN rfl rfl rfl (ltb rfl) rfl rfl ?_
   refine AO.guardN rfl rfl rfl (ltb rfl) rfl rfl ?_
   refine AO.op rfl (AOp.pick rfl rfl (ltb rfl) rfl rfl rfl ?_)
   refine AO.op rfl (AOp.move rfl rfl (ltb rfl) rfl ?_)
   refine AO.guardN rfl rfl rfl (ltb rfl) rfl rfl ?_
   refine AO.guardN rfl rfl rfl (ltb rfl) rfl rfl ?_
   refine AO.guardN rfl rfl rfl (ltb rfl) rfl rfl ?_
   refine AO.guardN rfl rfl rfl (ltb rfl) rfl rfl ?_
   refine AO.guardN rfl rfl rfl (ltb rfl) rfl rfl ?_
   refine AO.guardU rfl rfl rfl (ltb rfl) rfl ?_
   refine AO.guardU rfl rfl rfl (ltb rfl) rfl ?_
   refine AO.guardU rfl rfl rfl (ltb rfl) rfl ?_
   refine AO.guardN rfl rfl rfl (ltb rfl) rfl rfl ?_
   refine AO.op rfl (AOp.pick rfl rfl (ltb rfl) rfl rfl rfl ?_)
   refine AO.nil ?_
   change AC _ _ _ _
   refine AC.condT rfl rfl ?_
   refine AC.seq ?_
   refine AC.region ?_
   refine AO.op rfl (AOp.assign rfl rfl (ltb rfl) rfl ?_)
   refine AO.nil ?_
   change AC _ _ _ _
   refine AC.ret ?_
   change RetQ _ _ _ .ret _
   obtain rfl := Option.some.inj h0
   refine retq rfl rfl
  replace h0 := cF h0 q56
  refine AO.guardY rfl rfl rfl q56 (AOp.fieldAddr rfl rfl (ltb rfl) rfl fo35_3 ?_)
  refine AO.guardY rfl rfl rfl q56 (AOp.load1 rfl rfl (ltb rfl) rfl agg24 rfl rfl ?_)
  refine AO.guardY rfl rfl rfl q56 (AOp.lenDs (n := a0.Flat.length) (cells := (List.map keS0 a0.Flat)) rfl rfl (ltb rfl) rfl el24 (by decide) (len1 _ _) ?_)
  refine AO.guardY rfl rfl rfl q56 (AOp.move rfl rfl (ltb rfl) rfl ?_)
  obtain ⟨q57, h0⟩ := need_elim h0
  refine AO.guardY rfl rfl rfl q56 (AOp.irem rfl rfl (ltb rfl) rfl rfl q57 rfl ?_)
  refine AO.guardY rfl rfl rfl q56 (AOp.ineq rfl rfl (ltb rfl) rfl rfl ?_)
  refine AO.op rfl (AOp.pickN rfl rfl (ltb rfl) rfl q56 rfl ?_)
  refine AO.op rfl (AOp.move rfl rfl (ltb rfl) rfl ?_)
  refine AO.dec (!decide ((Int.tmod ((a0.Flat.length : Nat) : Int) y1) = (0 : Int))) (fun q58 => ?_) (fun q58 => ?_)
  ·replace h0 := cT h0 q58
   refine AO.guardN rfl rfl rfl (ltb rfl) rfl q58 ?_
   refine AO.guardN rfl rfl rfl (ltb rfl) rfl q58 ?_
   refine AO.guardN rfl rfl rfl (ltb rfl) rfl q58 ?_
   refine AO.guardN rfl rfl rfl (ltb rfl) rfl q58 ?_
   refine AO.op rfl (AOp.pick rfl rfl (ltb rfl) rfl q58 rfl ?_)
   refine AO.op rfl (AOp.move rfl rfl (ltb rfl) rfl ?_)
   refine AO.guardN rfl rfl rfl (ltb rfl) rfl rfl ?_
   refine AO.guardN rfl rfl rfl (ltb rfl) rfl rfl ?_
   refine AO.guardN rfl rfl rfl (ltb rfl) rfl rfl ?_
   refine AO.guardN rfl rfl rfl (ltb rfl) rfl rfl ?_
   refine AO.guardN rfl rfl rfl (ltb rfl) rfl rfl ?_
   refine AO.guardU rfl rfl rfl (ltb rfl) rfl ?_
   refine AO.guardU rfl rfl rfl (ltb rfl) rfl ?_
   refine AO.guardU rfl rfl rfl (ltb rfl) rfl ?_
   refine AO.guardN rfl rfl rfl (ltb rfl) rfl rfl ?_
   refine AO.op rfl (AOp.pick rfl rfl (ltb rfl) rfl rfl rfl ?_)
   refine AO.nil ?_
   change AC _ _ _ _
   refine AC.condT rfl rfl ?_
   refine AC.seq ?_
   refine AC.region ?_
   refine AO.op rfl (AOp.assign rfl rfl (ltb rfl) rfl ?_)
   refine AO.nil ?_
   change AC _ _ _ _
   refine AC.ret ?_
   change RetQ _ _ _ .ret _
   obtain rfl := Option.some.inj h0
   refine retq rfl rfl
  replace h0 := cF h0 q58
  refine AO.guardY rfl rfl rfl q58 (AOp.fieldAddr rfl rfl (ltb rfl) rfl fo35_6 ?_)
  refine AO.guardY rfl rfl rfl q58 (AOp.load1 rfl rfl (ltb rfl) rfl agg33 rfl rfl ?_)
  refine AO.guardY rfl rfl rfl q58 (AOp.lenDs (n := a0.Kids.length) (cells := (List.flatMap c0_TImpl_Geom a0.Kids)) rfl rfl (ltb rfl) rfl el33 (by decide) (lenN _ 7 c0_TImpl_Geom_len _) ?_)
  refine AO.guardY rfl rfl rfl q58 (AOp.igtr rfl rfl (ltb rfl) rfl rfl ?_)
  refine AO.op rfl (AOp.pickN rfl rfl (ltb rfl) rfl q58 rfl ?_)
  refine AO.op rfl (AOp.move rfl rfl (ltb rfl) rfl ?_)
  refine AO.dec (decide ((0 : Int) < ((a0.Kids.length : Nat) : Int))) (fun q59 => ?_) (fun q59 => ?_)
  ·replace h0 := cT h0 q59
   refine AO.guardN rfl rfl rfl (ltb rfl) rfl q59 ?_
   refine AO.guardN rfl rfl rfl (ltb rfl) rfl q59 ?_
   refine AO.guardN rfl rfl rfl (ltb rfl) rfl q59 ?_
   refine AO.guardN rfl rfl rfl (ltb rfl) rfl q59 ?_
   refine AO.guardN rfl rfl rfl (ltb rfl) rfl q59 ?_
   refine AO.guardU rfl rfl rfl (ltb rfl) rfl ?_
   refine AO.guardU rfl rfl rfl (ltb rfl) rfl ?_
   refine AO.guardU rfl rfl rfl (ltb rfl) rfl ?_
   refine AO.guardN rfl rfl rfl (ltb rfl) rfl q59 ?_
   refine AO.op rfl (AOp.pick rfl rfl (ltb rfl) rfl q59 rfl ?_)
   refine AO.nil ?_
   change AC _ _ _ _
   refine AC.condT rfl rfl ?_
   refine AC.seq ?_
   refine AC.region ?_
   refine AO.op rfl (AOp.assign rfl rfl (ltb rfl) rfl ?_)
   refine AO.nil ?_
   change AC _ _ _ _
   refine AC.ret ?_
   change RetQ _ _ _ .ret _
   obtain rfl := Option.some.inj h0
   refine retq rfl rfl
  replace h0 := cF h0 q59
  refine AO.guardY rfl rfl rfl q59 (AOp.fieldAddr rfl rfl (ltb rfl) rfl fo35_5 ?_)
  refine AO.guardY rfl rfl rfl q59 (AOp.load1 rfl rfl (ltb rfl) rfl agg32 rfl rfl ?_)
  refine AO.guardY rfl rfl rfl q59 (AOp.lenDs (n := a0.Endss.length) (cells := (List.map keS3 a0.Endss)) rfl rfl (ltb rfl) rfl el32 (by decide) (len1 _ _) ?_)
  refine AO.guardY rfl rfl rfl q59 (AOp.igtr rfl rfl (ltb rfl) rfl rfl ?_)
  refine AO.guardY rfl rfl rfl q59 (AOp.move rfl rfl (ltb rfl) rfl ?_)
  refine AO.dec (decide ((0 : Int) < ((a0.Endss.length : Nat) : Int))) (fun q60 => ?_) (fun q60 => ?_)
  ·replace h0 := cT h0 q60
   refine AO.guardY rfl rfl rfl q60 (AOp.fieldAddr rfl rfl (ltb rfl) rfl fo35_0 ?_)
   refine AO.guardY rfl rfl rfl q60 (AOp.load1 rfl rfl (ltb rfl) rfl agg3 rfl rfl ?_)
   refine AO.guardY rfl rfl rfl q60 (AOp.ineq rfl rfl (ltb rfl) rfl rfl ?_)
   refine AO.guardY rfl rfl rfl q59 (AOp.pick rfl rfl (ltb rfl) rfl q60 rfl ?_)
   refine AO.op rfl (AOp.pickN rfl rfl (ltb rfl) rfl q59 rfl ?_)
   refine AO.nil ?_
   change AC _ _ _ _
   refine AC.cond rfl (fun q61 => ?_) (fun q61 => ?_)
   ·replace h0 := cT h0 q61
    refine AC.seq ?_
    refine AC.region ?_
    refine AO.op rfl (AOp.assign rfl rfl (ltb rfl) rfl ?_)
    refine AO.nil ?_
    change AC _ _ _ _
    refine AC.ret ?_
    change RetQ _ _ _ .ret _
    obtain rfl := Option.some.inj h0
    refine retq rfl rfl
   replace h0 := cF h0 q61
   refine AC.skip ?_
   exact ⟨(), _, rfl, (LeL.refl _), rfl, rfl, h0⟩
  replace h0 := cF h0 q60
  refine AO.guardN rfl rfl rfl (ltb rfl) rfl q60 ?_
  refine AO.guardN rfl rfl rfl (ltb rfl) rfl q60 ?_
  refine AO.guardN rfl rfl rfl (ltb rfl) rfl q60 ?_
  refine AO.guardY rfl rfl rfl q59 (AOp.pickN rfl rfl (ltb rfl) rfl q60 rfl ?_)
  refine AO.op rfl (AOp.pickN rfl rfl (ltb rfl) rfl q59 rfl ?_)
  refine AO.nil ?_
  change AC _ _ _ _
  refine AC.condF rfl rfl ?_
  refine AC.skip ?_
  exact ⟨(), _, rfl, (LeL.refl _), rfl, rfl, h0⟩
 intro g26 h0
 unfold p_Good_k4 at h0
 refine AC.seq ?_
 refine AC.seq ?_
 refine AC.region ?_
 refine AO.op rfl (AOp.fieldAddr rfl rfl (ltb rfl) rfl fo35_0 ?_)
 refine AO.op rfl (AOp.load1 rfl rfl (ltb rfl) rfl agg3 rfl rfl ?_)
 refine AO.nil ?_
 change AC _ _ _ _
 refine AC.block ?_
 refine AC.seq ?_
 refine AC.region ?_
 refine AO.op rfl (AOp.ieql rfl rfl (ltb rfl) rfl rfl ?_)
 refine AO.op rfl (AOp.assign rfl rfl (ltb rfl) rfl ?_)
 refine AO.nil ?_
 change AC _ _ _ _
 refine AC.cond rfl (fun q27 => ?_) (fun q27 => ?_)
 ·replace h0 := cT h0 q27
  refine AC.seq ?_
  refine AC.region ?_
  refine AO.op rfl (AOp.fieldAddr rfl rfl (ltb rfl) rfl fo35_4 ?_)
  refine AO.op rfl (AOp.load1 rfl rfl (ltb rfl) rfl agg31 rfl rfl ?_)
  refine AO.op rfl (AOp.lenDs (n := a0.Ends.length) (cells := (List.map keS1 a0.Ends)) rfl rfl (ltb rfl) rfl el31 (by decide) (len1 _ _) ?_)
  refine AO.op rfl (AOp.ieql rfl rfl (ltb rfl) rfl rfl ?_)
  refine AO.op rfl (AOp.move rfl rfl (ltb rfl) rfl ?_)
  refine AO.dec (decide (((a0.Ends.length : Nat) : Int) = (0 : Int))) (fun q28 => ?_) (fun q28 => ?_)
  ·replace h0 := cT h0 q28
   refine AO.guardY rfl rfl rfl q28 (AOp.fieldAddr rfl rfl (ltb rfl) rfl fo35_3 ?_)
   refine AO.guardY rfl rfl rfl q28 (AOp.load1 rfl rfl (ltb rfl) rfl agg24 rfl rfl ?_)
   refine AO.guardY rfl rfl rfl q28 (AOp.lenDs (n := a0.Flat.length) (cells := (List.map keS0 a0.Flat)) rfl rfl (ltb rfl) rfl el24 (by decide) (len1 _ _) ?_)
   refine AO.guardY rfl rfl rfl q28 (AOp.move rfl rfl (ltb rfl) rfl ?_)
   refine AO.guardY rfl rfl rfl q28 (AOp.ileq rfl rfl (ltb rfl) rfl rfl ?_)
   refine AO.op rfl (AOp.pick rfl rfl (ltb rfl) rfl q28 rfl ?_)
   refine AO.op rfl (AOp.assign rfl rfl (ltb rfl) rfl ?_)
   refine AO.nil ?_
   change AC _ _ _ _
   refine AC.ret ?_
   change RetQ _ _ _ .ret _
   obtain rfl := Option.some.inj h0
   refine retq rfl rfl
  replace h0 := cF h0 q28
  refine AO.guardN rfl rfl rfl (ltb rfl) rfl q28 ?_
  refine AO.guardN rfl rfl rfl (ltb rfl) rfl q28 ?_
  refine AO.guardN rfl rfl rfl (ltb rfl) rfl q28 ?_
  refine AO.guardN rfl rfl rfl (ltb rfl) rfl q28 ?_
  refine AO.guardN rfl rfl rfl (ltb rfl) rfl q28 ?_
  refine AO.op rfl (AOp.pickN rfl rfl (ltb rfl) rfl q28 rfl ?_)
  refine AO.op rfl (AOp.assign rfl rfl (ltb rfl) rfl ?_)
  refine AO.nil ?_
  change AC _ _ _ _
  refine AC.ret ?_
  change RetQ _ _ _ .ret _
  obtain rfl := Option.some.inj h0
  refine retq rfl rfl
 replace h0 := cF h0 q27
 refine AC.joinP (V := Bool) [1, 3, 87] [101] 1 (fun g29 => [(101, .d (dbool g29))]) (fun g29 => [.fix 35 [.d (di .i64 a0.Kind), .d (di .i64 a0.Layout), .d (di .i64 a0.SRID), .d (eS0 a0.Flat), .d (eS1 a0.Ends), .d (eS3 a0.Endss), .d (eS2 a0.Kids)]]) (fun g29 => (p_Good_k5 a0 F y1) g29 = some r0) rfl ?_ ?_
 ·refine AC.seq ?_
  refine AC.region ?_
  refine AO.op rfl (AOp.ieql rfl rfl (ltb rfl) rfl rfl ?_)
  refine AO.op rfl (AOp.assign rfl rfl (ltb rfl) rfl ?_)
  refine AO.nil ?_
  change AC _ _ _ _
  refine AC.cond rfl (fun q55 => ?_) (fun q55 => ?_)
  ·replace h0 := cT h0 q55
   refine AC.skip ?_
   exact ⟨(decide (a0.Kind = (2 : Int))), _, rfl, (LeL.refl _), rfl, rfl, h0⟩
  replace h0 := cF h0 q55
  refine AC.region ?_
  refine AO.op rfl (AOp.ieql rfl rfl (ltb rfl) rfl rfl ?_)
  refine AO.op rfl (AOp.assign rfl rfl (ltb rfl) rfl ?_)
  refine AO.nil ?_
  exact ⟨(decide (a0.Kind = (8 : Int))), _, rfl, (LeL.refl _), rfl, rfl, h0⟩
 intro g29 h0
 unfold p_Good_k5 at h0
 refine AC.cond rfl (fun q30 => ?_) (fun q30 => ?_)
 ·replace h0 := cT h0 q30
  refine AC.seq ?_
  refine AC.region ?_
  refine AO.op rfl (AOp.fieldAddr rfl rfl (ltb rfl) rfl fo35_4 ?_)
  refine AO.op rfl (AOp.load1 rfl rfl (ltb rfl) rfl agg31 rfl rfl ?_)
  refine AO.op rfl (AOp.lenDs (n := a0.Ends.length) (cells := (List.map keS1 a0.Ends)) rfl rfl (ltb rfl) rfl el31 (by decide) (len1 _ _) ?_)
  refine AO.op rfl (AOp.ieql rfl rfl (ltb rfl) rfl rfl ?_)
  refine AO.op rfl (AOp.assign rfl rfl (ltb rfl) rfl ?_)
  refine AO.nil ?_
  change AC _ _ _ _
  refine AC.ret ?_
  change RetQ _ _ _ .ret _
  obtain rfl := Option.some.inj h0
  refine retq rfl rfl
 replace h0 := cF h0 q30
 refine AC.joinP (V := Bool) [1, 3, 87] [108] 1 (fun g31 => [(108, .d (dbool g31))]) (fun g31 => [.fix 35 [.d (di .i64 a0.Kind), .d (di .i64 a0.Layout), .d (di .i64 a0.SRID), .d (eS0 a0.Flat), .d (eS1 a0.Ends), .d (eS3 a0.Endss), .d (eS2 a0.Kids)]]) (fun g31 => (p_Good_k6 a0 F y1) g31 = some r0) rfl ?_ ?_
 ·refine AC.seq ?_
  refine AC.region ?_
  refine AO.op rfl (AOp.ieql rfl rfl (ltb rfl) rfl rfl ?_)
  refine AO.op rfl (AOp.assign rfl rfl (ltb rfl) rfl ?_)
  refine AO.nil ?_
  change AC _ _ _ _
  refine AC.cond rfl (fun q53 => ?_) (fun q53 => ?_)
  ·replace h0 := cT h0 q53
   refine AC.skip ?_
   exact ⟨(decide (a0.Kind = (3 : Int))), _, rfl, (LeL.refl _), rfl, rfl, h0⟩
  replace h0 := cF h0 q53
  refine AC.seq ?_
  refine AC.region ?_
  refine AO.op rfl (AOp.ieql rfl rfl (ltb rfl) rfl rfl ?_)
  refine AO.op rfl (AOp.assign rfl rfl (ltb rfl) rfl ?_)
  refine AO.nil ?_
  change AC _ _ _ _
  refine AC.cond rfl (fun q54 => ?_) (fun q54 => ?_)
  ·replace h0 := cT h0 q54
   refine AC.skip ?_
   exact ⟨(decide (a0.Kind = (4 : Int))), _, rfl, (LeL.refl _), rfl, rfl, h0⟩
  replace h0 := cF h0 q54
  refine AC.region ?_
  refine AO.op rfl (AOp.ieql rfl rfl (ltb rfl) rfl rfl ?_)
  refine AO.op rfl (AOp.assign rfl rfl (ltb rfl) rfl ?_)
  refine AO.nil ?_
  exact ⟨(decide (a0.Kind = (5 : Int))), _, rfl, (LeL.refl _), rfl, rfl, h0⟩
 intro g31 h0
 unfold p_Good_k6 at h0
 refine AC.cond rfl (fun q32 => ?_) (fun q32 => ?_)
 ·replace h0 := cT h0 q32
  refine AC.seq ?_
  refine AC.region ?_
  refine AO.op rfl (AOp.fieldAddr rfl rfl (ltb rfl) rfl fo35_4 ?_)
  refine AO.op rfl (AOp.load1 rfl rfl (ltb rfl) rfl agg31 rfl rfl ?_)
  refine AO.op rfl (AOp.move rfl rfl (ltb rfl) rfl ?_)
  refine AO.op rfl (AOp.fieldAddr rfl rfl (ltb rfl) rfl fo35_0 ?_)
  refine AO.op rfl (AOp.load1 rfl rfl (ltb rfl) rfl agg3 rfl rfl ?_)
  refine AO.op rfl (AOp.ieql rfl rfl (ltb rfl) rfl rfl ?_)
  obtain ⟨y33, q34, h0⟩ := bind_elim h0
  refine AO.op rfl (AOp.callD rfl rfl (ltb rfl) rfl rfl (w_goodEnds F a0.Ends (0 : Int) y1 (decide (a0.Kind = (4 : Int))) y33 q34) ?_)
  rintro _ rfl
  refine AO.op rfl (AOp.move rfl rfl (ltb rfl) rfl ?_)
  first | refine AO.op rfl (AOp.extractD rfl rfl (ltb rfl) rfl rfl ?_) | refine AO.op rfl (AOp.extract rfl rfl (ltb rfl) rfl rfl ?_)
  first | refine AO.op rfl (AOp.extractD rfl rfl (ltb rfl) rfl rfl ?_) | refine AO.op rfl (AOp.extract rfl rfl (ltb rfl) rfl rfl ?_)
  refine AO.op rfl (AOp.assign rfl rfl (ltb rfl) rfl ?_)
  refine AO.op rfl (AOp.assign rfl rfl (ltb rfl) rfl ?_)
  refine AO.nil ?_
  change AC _ _ _ _
  refine AC.seq ?_
  refine AC.region ?_
  refine AO.op rfl (AOp.move rfl rfl (ltb rfl) rfl ?_)
  refine AO.op rfl (AOp.move rfl rfl (ltb rfl) rfl ?_)
  refine AO.dec y33.2 (fun q35 => ?_) (fun q35 => ?_)
  ·replace h0 := cT h0 q35
   refine AO.guardY rfl rfl rfl q35 (AOp.move rfl rfl (ltb rfl) rfl ?_)
   refine AO.guardY rfl rfl rfl q35 (AOp.fieldAddr rfl rfl (ltb rfl) rfl fo35_3 ?_)
   refine AO.guardY rfl rfl rfl q35 (AOp.load1 rfl rfl (ltb rfl) rfl agg24 rfl rfl ?_)
   refine AO.guardY rfl rfl rfl q35 (AOp.lenDs (n := a0.Flat.length) (cells := (List.map keS0 a0.Flat)) rfl rfl (ltb rfl) rfl el24 (by decide) (len1 _ _) ?_)
   refine AO.guardY rfl rfl rfl q35 (AOp.ieql rfl rfl (ltb rfl) rfl rfl ?_)
   refine AO.op rfl (AOp.pick rfl rfl (ltb rfl) rfl q35 rfl ?_)
   refine AO.op rfl (AOp.assign rfl rfl (ltb rfl) rfl ?_)
   refine AO.nil ?_
   change AC _ _ _ _
   refine AC.ret ?_
   change RetQ _ _ _ .ret _
   obtain rfl := Option.some.inj h0
   refine retq rfl rfl
  replace h0 := cF h0 q35
  refine AO.guardN rfl rfl rfl (ltb rfl) rfl q35 ?_
  refine AO.guardN rfl rfl rfl (ltb rfl) rfl q35 ?_
  refine AO.guardN rfl rfl rfl (ltb rfl) rfl q35 ?_
  refine AO.guardN rfl rfl rfl (ltb rfl) rfl q35 ?_
  refine AO.guardN rfl rfl rfl (ltb rfl) rfl q35 ?_
  refine AO.op rfl (AOp.pickN rfl rfl (ltb rfl) rfl q35 rfl ?_)
  refine AO.op rfl (AOp.assign rfl rfl (ltb rfl) rfl ?_)
  refine AO.nil ?_
  change AC _ _ _ _
  refine AC.ret ?_
  change RetQ _ _ _ .ret _
  obtain rfl := Option.some.inj h0
  refine retq rfl rfl
 replace h0 := cF h0 q32
 refine AC.seq ?_
 refine AC.region ?_
 refine AO.op rfl (AOp.ieql rfl rfl (ltb rfl) rfl rfl ?_)
 refine AO.op rfl (AOp.assign rfl rfl (ltb rfl) rfl ?_)
 refine AO.nil ?_
 change AC _ _ _ _
 refine AC.cond rfl (fun q36 => ?_) (fun q36 => ?_)
 ·replace h0 := cT h0 q36
  refine AC.seq ?_
  refine AC.region ?_
  refine AO.op rfl (AOp.assign rfl rfl (ltb rfl) rfl ?_)
  refine AO.op rfl (AOp.assign rfl rfl (ltb rfl) rfl ?_)
  refine AO.nil ?_
  change AC _ _ _ _
  refine AC.seq ?_
  refine AC.seq ?_
  refine AC.region ?_
  refine AO.op rfl (AOp.fieldAddr rfl rfl (ltb rfl) rfl fo35_5 ?_)
  refine AO.op rfl (AOp.load1 rfl rfl (ltb rfl) rfl agg32 rfl rfl ?_)
  refine AO.op rfl (AOp.lenDs (n := a0.Endss.length) (cells := (List.map keS3 a0.Endss)) rfl rfl (ltb rfl) rfl el32 (by decide) (len1 _ _) ?_)
  refine AO.op rfl (AOp.move rfl rfl (ltb rfl) rfl ?_)
  refine AO.nil ?_
  change AC _ _ _ _
  obtain ⟨o37, l38, h0⟩ := bind_elim h0
  refine AC.joinE (V := (Int × Bool)) [1] [8, 9] 1 (fun g39 => [(8, .d (di .i64 g39.1)), (9, .d (dbool g39.2))]) (fun g39 => [.fix 35 [.d (di .i64 a0.Kind), .d (di .i64 a0.Layout), .d (di .i64 a0.SRID), .d (eS0 a0.Flat), .d (eS1 a0.Ends), .d (eS3 a0.Endss), .d (eS2 a0.Kids)]]) (fun g39 => (p_Good_k7 a0) g39 = some r0) rfl ?_ ?_
  ·refine AC.block ?_
   refine AC.loopP (V := (Int × Bool × Int)) (p_Good_l8 a0 F y1) o37 [1, 3, 133, 134] [8, 9, 135] 1 (fun g42 => [(8, .d (di .i64 g42.1)), (9, .d (dbool g42.2.1)), (135, .d (di .i64 g42.2.2))]) (fun g42 => [.fix 35 [.d (di .i64 a0.Kind), .d (di .i64 a0.Layout), .d (di .i64 a0.SRID), .d (eS0 a0.Flat), .d (eS1 a0.Ends), .d (eS3 a0.Endss), .d (eS2 a0.Kids)]]) F ((0 : Int), true, (0 : Int)) l38 rfl rfl (LeL.refl _) rfl rfl ?_
   intro n44 g42 h1
   unfold p_Good_l8 at h1
   refine AC.seq ?_
   refine AC.region ?_
   refine AO.op rfl (AOp.ilss rfl rfl (ltb rfl) rfl rfl ?_)
   refine AO.nil ?_
   change AC _ _ _ _
   refine AC.seq ?_
   refine AC.cond rfl (fun q45 => ?_) (fun q45 => ?_)
   ·replace h1 := cT h1 q45
    refine AC.skip ?_
    change AC _ _ _ _
    refine AC.seq ?_
    refine AC.block ?_
    refine AC.seq ?_
    refine AC.region ?_
    obtain ⟨x46, q47, h1⟩ := idx_elim h1
    refine AO.op rfl (AOp.indexDs (cells := (List.map keS3 a0.Endss)) rfl rfl (ltb rfl) rfl rfl el32 (by decide) q47.1 (lt1 q47.2) ?_)
    refine AO.op rfl (AOp.loadEp rfl rfl (ltb rfl) rfl agg31 (at1 q47.2) ?_)
    refine AO.op rfl (AOp.assign rfl rfl (ltb rfl) rfl ?_)
    refine AO.nil ?_
    change AC _ _ _ _
    refine AC.seq ?_
    refine AC.region ?_
    refine AO.op rfl (AOp.assign rfl rfl (ltb rfl) rfl ?_)
    refine AO.nil ?_
    change AC _ _ _ _
    refine AC.seq ?_
    refine AC.region ?_
    refine AO.op rfl (AOp.move rfl rfl (ltb rfl) rfl ?_)
    refine AO.op rfl (AOp.move rfl rfl (ltb rfl) rfl ?_)
    refine AO.op rfl (AOp.move rfl rfl (ltb rfl) rfl ?_)
    obtain ⟨y48, q49, h1⟩ := bind_elim h1
    refine AO.op rfl (AOp.callD rfl rfl (ltb rfl) rfl rfl (w_goodEnds F x46 g42.1 y1 false y48 q49) ?_)
    rintro _ rfl
    refine AO.op rfl (AOp.move rfl rfl (ltb rfl) rfl ?_)
    first | refine AO.op rfl (AOp.extractD rfl rfl (ltb rfl) rfl rfl ?_) | refine AO.op rfl (AOp.extract rfl rfl (ltb rfl) rfl rfl ?_)
    first | refine AO.op rfl (AOp.extractD rfl rfl (ltb rfl) rfl rfl ?_) | refine AO.op rfl (AOp.extract rfl rfl (ltb rfl) rfl rfl ?_)
    refine AO.op rfl (AOp.assign rfl rfl (ltb rfl) rfl ?_)
    refine AO.op rfl (AOp.assign rfl rfl (ltb rfl) rfl ?_)
    refine AO.nil ?_
    change AC _ _ _ _
    refine AC.region ?_
    refine AO.op rfl (AOp.move rfl rfl (ltb rfl) rfl ?_)
    refine AO.op rfl (AOp.move rfl rfl (ltb rfl) rfl ?_)
    refine AO.dec g42.2.1 (fun q50 => ?_) (fun q50 => ?_)
    ·replace h1 := cT h1 q50
     refine AO.guardY rfl rfl rfl q50 (AOp.move rfl rfl (ltb rfl) rfl ?_)
     refine AO.op rfl (AOp.pick rfl rfl (ltb rfl) rfl q50 rfl ?_)
     refine AO.op rfl (AOp.assign rfl rfl (ltb rfl) rfl ?_)
     refine AO.nil ?_
     change AC _ _ _ _
     refine AC.region ?_
     obtain ⟨q51, h1⟩ := need_elim h1
     refine AO.op rfl (AOp.iadd rfl rfl (ltb rfl) rfl rfl rfl q51.1 q51.2 ?_)
     refine AO.op rfl (AOp.move rfl rfl (ltb rfl) rfl ?_)
     refine AO.nil ?_
     exact ⟨(y48.1, y48.2, (g42.2.2 + (1 : Int))), _, rfl, (LeL.refl _), rfl, rfl, h1⟩
    replace h1 := cF h1 q50
    refine AO.guardN rfl rfl rfl (ltb rfl) rfl q50 ?_
    refine AO.op rfl (AOp.pickN rfl rfl (ltb rfl) rfl q50 rfl ?_)
    refine AO.op rfl (AOp.assign rfl rfl (ltb rfl) rfl ?_)
    refine AO.nil ?_
    change AC _ _ _ _
    refine AC.region ?_
    obtain ⟨q52, h1⟩ := need_elim h1
    refine AO.op rfl (AOp.iadd rfl rfl (ltb rfl) rfl rfl rfl q52.1 q52.2 ?_)
    refine AO.op rfl (AOp.move rfl rfl (ltb rfl) rfl ?_)
    refine AO.nil ?_
    exact ⟨(y48.1, false, (g42.2.2 + (1 : Int))), _, rfl, (LeL.refl _), rfl, rfl, h1⟩
   replace h1 := cF h1 q45
   refine AC.exit ?_
   obtain rfl := Option.some.inj h1
   exact ⟨(g42.1, g42.2.1), _, rfl, (LeL.refl _), rfl, rfl, aftL h0⟩
  intro g39 h0
  unfold p_Good_k7 at h0
  change AC _ _ _ _
  refine AC.seq ?_
  refine AC.region ?_
  refine AO.op rfl (AOp.move rfl rfl (ltb rfl) rfl ?_)
  refine AO.op rfl (AOp.move rfl rfl (ltb rfl) rfl ?_)
  refine AO.dec g39.2 (fun q40 => ?_) (fun q40 => ?_)
  ·replace h0 := cT h0 q40
   refine AO.guardY rfl rfl rfl q40 (AOp.move rfl rfl (ltb rfl) rfl ?_)
   refine AO.guardY rfl rfl rfl q40 (AOp.fieldAddr rfl rfl (ltb rfl) rfl fo35_3 ?_)
   refine AO.guardY rfl rfl rfl q40 (AOp.load1 rfl rfl (ltb rfl) rfl agg24 rfl rfl ?_)
   refine AO.guardY rfl rfl rfl q40 (AOp.lenDs (n := a0.Flat.length) (cells := (List.map keS0 a0.Flat)) rfl rfl (ltb rfl) rfl el24 (by decide) (len1 _ _) ?_)
   refine AO.guardY rfl rfl rfl q40 (AOp.ieql rfl rfl (ltb rfl) rfl rfl ?_)
   refine AO.op rfl (AOp.pick rfl rfl (ltb rfl) rfl q40 rfl ?_)
   refine AO.op rfl (AOp.move rfl rfl (ltb rfl) rfl ?_)
   refine AO.dec (decide (g39.1 = ((a0.Flat.length : Nat) : Int))) (fun q41 => ?_) (fun q41 => ?_)
   ·replace h0 := cT h0 q41
    refine AO.guardY rfl rfl rfl q41 (AOp.fieldAddr rfl rfl (ltb rfl) rfl fo35_4 ?_)
    refine AO.guardY rfl rfl rfl q41 (AOp.load1 rfl rfl (ltb rfl) rfl agg31 rfl rfl ?_)
    refine AO.guardY rfl rfl rfl q41 (AOp.lenDs (n := a0.Ends.length) (cells := (List.map keS1 a0.Ends)) rfl rfl (ltb rfl) rfl el31 (by decide) (len1 _ _) ?_)
    refine AO.guardY rfl rfl rfl q41 (AOp.ieql rfl rfl (ltb rfl) rfl rfl ?_)
    refine AO.op rfl (AOp.pick rfl rfl (ltb rfl) rfl q41 rfl ?_)
    refine AO.op rfl (AOp.assign rfl rfl (ltb rfl) rfl ?_)
    refine AO.nil ?_
    change AC _ _ _ _
    refine AC.ret ?_
    change RetQ _ _ _ .ret _
    obtain rfl := Option.some.inj h0
    refine retq rfl rfl
   replace h0 := cF h0 q41
   refine AO.guardN rfl rfl rfl (ltb rfl) rfl q41 ?_
   refine AO.guardN rfl rfl rfl (ltb rfl) rfl q41 ?_
   refine AO.guardN rfl rfl rfl (ltb rfl) rfl q41 ?_
   refine AO.guardN rfl rfl rfl (ltb rfl) rfl q41 ?_
   refine AO.op rfl (AOp.pickN rfl rfl (ltb rfl) rfl q41 rfl ?_)
   refine AO.op rfl (AOp.assign rfl rfl (ltb rfl) rfl ?_)
   refine AO.nil ?_
   change AC _ _ _ _
   refine AC.ret ?_
   change RetQ _ _ _ .ret _
   obtain rfl := Option.some.inj h0
   refine retq rfl rfl
  replace h0 := cF h0 q40
  refine AO.guardN rfl rfl rfl (ltb rfl) rfl q40 ?_
  refine AO.guardN rfl rfl rfl (ltb rfl) rfl q40 ?_
  refine AO.guardN rfl rfl rfl (ltb rfl) rfl q40 ?_
  refine AO.guardN rfl rfl rfl (ltb rfl) rfl q40 ?_
  refine AO.guardN rfl rfl rfl (ltb rfl) rfl q40 ?_
  refine AO.op rfl (AOp.pickN rfl rfl (ltb rfl) rfl q40 rfl ?_)
  refine AO.op rfl (AOp.move rfl rfl (ltb rfl) rfl ?_)
  refine AO.guardN rfl rfl rfl (ltb rfl) rfl rfl ?_
  refine AO.guardN rfl rfl rfl (ltb rfl) rfl rfl ?_
  refine AO.guardN rfl rfl rfl (ltb rfl) rfl rfl ?_
  refine AO.guardN rfl rfl rfl (ltb rfl) rfl rfl ?_
  refine AO.op rfl (AOp.pickN rfl rfl (ltb rfl) rfl rfl rfl ?_)
  refine AO.op rfl (AOp.assign rfl rfl (ltb rfl) rfl ?_)
  refine AO.nil ?_
  change AC _ _ _ _
  refine AC.ret ?_
  change RetQ _ _ _ .ret _
  obtain rfl := Option.some.inj h0
  refine retq rfl rfl
 replace h0 := cF h0 q36
 refine AC.skip ?_
 change AC _ _ _ _
 refine AC.seq ?_
 refine AC.region ?_
 refine AO.op rfl (AOp.assign rfl rfl (ltb rfl) rfl ?_)
 refine AO.nil ?_
 change AC _ _ _ _
 refine AC.ret ?_
 change RetQ _ _ _ .ret _
 obtain rfl := Option.some.inj h0
 refine retq rfl rfl
theorem w_Good : ∀ (F : Nat) (a0 : TImpl_Geom) (r0 : Bool), p_Good F a0 = some r0 → FnD Tryd.prog 41 [e_TImpl_Geom a0] (fun r => r = dbool r0)
 | 0, _, _, h => by cases h
 | F + 1, a0, r0, h => w_Good_b _ (fun a0 r0 h => w_Good F a0 r0 h) F a0 r0 h

set_option maxRecDepth 100000 in
set_option maxHeartbeats 4000000 in
/-- pub-orthodrome/laws.gGood -/
theorem w_gGood (F : Nat) (a0 : (List TImpl_Geom)) (r0 : Bool) (h0 : p_gGood F a0 = some r0) : FnD Tryd.prog 26 [eS2 a0] (fun r => r = dbool r0) := by
 refine FnD.of (by kernel_rfl) Tryd.func26 rfl Tryd.ntmps26 rfl (leb rfl) fun W ok => ?_
 unfold p_gGood at h0
 refine AC.seq ?_
 refine AC.region ?_
 refine AO.op rfl (AOp.assign rfl rfl (ltb rfl) rfl ?_)
 refine AO.nil ?_
 change AC _ _ _ _
 refine AC.seq ?_
 refine AC.seq ?_
 refine AC.region ?_
 refine AO.op rfl (AOp.move rfl rfl (ltb rfl) rfl ?_)
 obtain ⟨y1, q2, h0⟩ := bind_elim h0
 refine AO.op rfl (AOp.callD rfl rfl (ltb rfl) rfl rfl (w_gSmall F a0 y1 q2) ?_)
 rintro _ rfl
 refine AO.op rfl (AOp.bnot rfl rfl (ltb rfl) rfl ?_)
 refine AO.nil ?_
 change AC _ _ _ _
 refine AC.cond rfl (fun q3 => ?_) (fun q3 => ?_)
 ·replace h0 := cT h0 q3
  refine AC.seq ?_
  refine AC.region ?_
  refine AO.op rfl (AOp.assign rfl rfl (ltb rfl) rfl ?_)
  refine AO.nil ?_
  change AC _ _ _ _
  refine AC.ret ?_
  change RetQ _ _ _ .ret _
  obtain rfl := Option.some.inj h0
  refine retq rfl rfl
 replace h0 := cF h0 q3
 refine AC.skip ?_
 change AC _ _ _ _
 refine AC.seq ?_
 refine AC.seq ?_
 refine AC.region ?_
 refine AO.op rfl (AOp.move rfl rfl (ltb rfl) rfl ?_)
 refine AO.op rfl (AOp.lenDs (n := a0.length) (cells := (List.flatMap c0_TImpl_Geom a0)) rfl rfl (ltb rfl) rfl el33 (by decide) (lenN _ 7 c0_TImpl_Geom_len _) ?_)
 refine AO.op rfl (AOp.move rfl rfl (ltb rfl) rfl ?_)
 refine AO.nil ?_
 change AC _ _ _ _
 obtain ⟨o4, l5, h0⟩ := bind_elim h0
 refine AC.joinE (V := Unit) [] [] 0 (fun g6 => []) (fun g6 => []) (fun g6 => p_gGood_k1 g6 = some r0) rfl ?_ ?_
 ·refine AC.block ?_
  refine AC.loopP (V := Int) (p_gGood_l2 a0 F) o4 [8, 9] [10] 0 (fun g7 => [(10, .d (di .i64 g7))]) (fun g7 => []) F (0 : Int) l5 rfl rfl (LeL.refl _) rfl rfl ?_
  intro n9 g7 h1
  unfold p_gGood_l2 at h1
  refine AC.seq ?_
  refine AC.region ?_
  refine AO.op rfl (AOp.ilss rfl rfl (ltb rfl) rfl rfl ?_)
  refine AO.nil ?_
  change AC _ _ _ _
  refine AC.seq ?_
  refine AC.cond rfl (fun q10 => ?_) (fun q10 => ?_)
  ·replace h1 := cT h1 q10
   refine AC.skip ?_
   change AC _ _ _ _
   refine AC.seq ?_
   refine AC.block ?_
   refine AC.seq ?_
   refine AC.region ?_
   obtain ⟨x11, q12, h1⟩ := idx_elim h1
   refine AO.op rfl (AOp.indexDs (cells := (List.flatMap c0_TImpl_Geom a0)) rfl rfl (ltb rfl) rfl rfl el33 (by decide) q12.1 (ltN 7 c0_TImpl_Geom_len (by decide) q12.2) ?_)
   refine AO.op rfl (AOp.loadEpN rfl rfl (ltb rfl) rfl agg35 size35 (leN 7 c0_TImpl_Geom_len q12.2) ((atN 7 c0_TImpl_Geom_len q12.2).trans (c0_TImpl_Geom_eq x11)) ?_)
   refine AO.op rfl (AOp.alloc rfl rfl (ltb rfl) zero35 rfl ?_)
   refine AO.op rfl (AOp.store rfl rfl rfl rfl size35 rfl rfl rfl (leb rfl) ?_)
   refine AO.nil ?_
   change AC _ _ _ _
   refine AC.seq ?_
   refine AC.region ?_
   refine AO.op rfl (AOp.loadN rfl rfl (ltb rfl) rfl agg35 size35 rfl (leb rfl) rfl ?_)
   obtain ⟨y13, q14, h1⟩ := bind_elim h1
   refine AO.op rfl (AOp.callD rfl rfl (ltb rfl) rfl rfl (w_Good F x11 y13 q14) ?_)
   rintro _ rfl
   refine AO.op rfl (AOp.bnot rfl rfl (ltb rfl) rfl ?_)
   refine AO.nil ?_
   change AC _ _ _ _
   refine AC.cond rfl (fun q15 => ?_) (fun q15 => ?_)
   ·replace h1 := cT h1 q15
    refine AC.seq ?_
    refine AC.region ?_
    refine AO.op rfl (AOp.assign rfl rfl (ltb rfl) rfl ?_)
    refine AO.nil ?_
    change AC _ _ _ _
    refine AC.ret ?_
    change RetQ _ _ _ .ret _
    obtain rfl := Option.some.inj h1
    replace h0 := aftR h0
    obtain rfl := Option.some.inj h0
    refine retq rfl rfl
   replace h1 := cF h1 q15
   refine AC.skip ?_
   change AC _ _ _ _
   refine AC.region ?_
   obtain ⟨q16, h1⟩ := need_elim h1
   refine AO.op rfl (AOp.iadd rfl rfl (ltb rfl) rfl rfl rfl q16.1 q16.2 ?_)
   refine AO.op rfl (AOp.move rfl rfl (ltb rfl) rfl ?_)
   refine AO.nil ?_
   exact ⟨(g7 + (1 : Int)), _, rfl, (LeL.refl _), rfl, rfl, h1⟩
  replace h1 := cF h1 q10
  refine AC.exit ?_
  obtain rfl := Option.some.inj h1
  exact ⟨(), _, rfl, (LeL.refl _), rfl, rfl, aftL h0⟩
 intro g6 h0
 unfold p_gGood_k1 at h0
 change AC _ _ _ _
 refine AC.seq ?_
 refine AC.region ?_
 refine AO.op rfl (AOp.assign rfl rfl (ltb rfl) rfl ?_)
 refine AO.nil ?_
 change AC _ _ _ _
 refine AC.ret ?_
 change RetQ _ _ _ .ret _
 obtain rfl := Option.some.inj h0
 refine retq rfl rfl

set_option maxRecDepth 100000 in
set_option maxHeartbeats 4000000 in
/-- pub-orthodrome/laws.fRows -/
theorem w_fRows (F : Nat) (a0 : (List Nat)) (a1 : (List Int)) (a2 : Int) (r0 : (TImpl_Geom × Bool)) (h0 : p_fRows F a0 a1 a2 = some r0) : FnD Tryd.prog 9 [eS0 a0, eS1 a1, di .i64 a2] (fun r => r = .tu [e_TImpl_Geom r0.1, dbool r0.2]) := by
 refine FnD.of (by kernel_rfl) Tryd.func9 rfl Tryd.ntmps9 rfl (leb rfl) fun W ok => ?_
 unfold p_fRows at h0
 refine AC.seq ?_
 refine AC.region ?_
 refine AO.op rfl (AOp.alloc rfl rfl (ltb rfl) zero35 rfl ?_)
 refine AO.op rfl (AOp.assign rfl rfl (ltb rfl) rfl ?_)
 refine AO.nil ?_
 change AC _ _ _ _
 refine AC.seq ?_
 refine AC.seq ?_
 refine AC.region ?_
 refine AO.op rfl (AOp.move rfl rfl (ltb rfl) rfl ?_)
 obtain ⟨y1, q2, h0⟩ := bind_elim h0
 refine AO.op rfl (AOp.callD rfl rfl (ltb rfl) rfl rfl (w_fStride a2 y1 q2) ?_)
 rintro _ rfl
 refine AO.op rfl (AOp.bnot rfl rfl (ltb rfl) rfl ?_)
 refine AO.nil ?_
 change AC _ _ _ _
 refine AC.cond rfl (fun q3 => ?_) (fun q3 => ?_)
 ·replace h0 := cT h0 q3
  refine AC.seq ?_
  refine AC.region ?_
  refine AO.op rfl (AOp.build rfl rfl (ltb rfl) zero35 rfl places35 rfl rfl ?_)
  refine AO.op rfl (AOp.store rfl rfl rfl rfl size35 rfl rfl rfl (leb rfl) ?_)
  refine AO.op rfl (AOp.assign rfl rfl (ltb rfl) rfl ?_)
  refine AO.nil ?_
  change AC _ _ _ _
  refine AC.subO 0 rfl (.cons (SVLe.refl _) (.cons (SVLe.refl _) (.cons (SVLe.refl _) (.cons (SVLe.nil 1) (.cons (SVLe.nil 1) (.cons (SVLe.nil 1) (.cons (SVLe.nil 7) .nil))))))) ?_
  refine AC.ret ?_
  change RetQ _ _ _ .ret _
  obtain rfl := Option.some.inj h0
  refine retq rfl rfl
 replace h0 := cF h0 q3
 refine AC.skip ?_
 change AC _ _ _ _
 refine AC.seq ?_
 refine AC.region ?_
 refine AO.op rfl (AOp.move rfl rfl (ltb rfl) rfl ?_)
 obtain ⟨y4, q5, h0⟩ := bind_elim h0
 refine AO.op rfl (AOp.callD rfl rfl (ltb rfl) rfl rfl (w_fLayout a2 y4 q5) ?_)
 rintro _ rfl
 refine AO.op rfl (AOp.move rfl rfl (ltb rfl) rfl ?_)
 refine AO.op rfl (AOp.move rfl rfl (ltb rfl) rfl ?_)
 refine AO.op rfl (AOp.build rfl rfl (ltb rfl) zero35 rfl places35 rfl rfl ?_)
 refine AO.op rfl (AOp.alloc rfl rfl (ltb rfl) zero35 rfl ?_)
 refine AO.op rfl (AOp.store rfl rfl rfl rfl size35 rfl rfl rfl (leb rfl) ?_)
 refine AO.nil ?_
 change AC _ _ _ _
 refine AC.seq ?_
 refine AC.subO 1 rfl (.cons (SVLe.refl _) (.cons (SVLe.refl _) (.cons (SVLe.refl _) (.cons (SVLe.refl _) (.cons (SVLe.refl _) (.cons (SVLe.nil 1) (.cons (SVLe.nil 7) .nil))))))) ?_
 refine AC.draw 4 mixed (by kernel_rfl) ?_
 refine AD.op [8] rfl (by kernel_rfl) rfl rfl (fun _ _ h => AOp.loadN rfl rfl (ltb rfl) rfl agg35 size35 rfl (leb rfl) rfl h) ?_
 refine AD.op [8] rfl (by kernel_rfl) rfl rfl (fun _ _ h => AOp.loadN rfl rfl (ltb rfl) rfl agg35 size35 rfl (leb rfl) rfl h) ?_
 refine AD.op [19] rfl (by kernel_rfl) rfl rfl (fun _ _ h => AOp.buildSliceD rfl rfl (ltb rfl) el33 zero35 rfl (leb rfl) rfl rfl rfl rfl (AO.top (y := .d (eS2 [(TImpl_Geom.mk (3 : Int) y4 (0 : Int) a0 a1 [] [])])) (SVLe.of_eq (by simp only [eS2, List.flatMap_cons, List.flatMap_nil, c0_TImpl_Geom_eq, List.append_nil] <;> rfl)) h)) ?_
 obtain ⟨y6, q7, h0⟩ := bind_elim h0
 refine AD.op [20] rfl (by kernel_rfl) rfl rfl (fun _ _ h => AOp.callD rfl rfl (ltb rfl) rfl rfl (w_gGood F [(TImpl_Geom.mk (3 : Int) y4 (0 : Int) a0 a1 [] [])] y6 q7) (by rintro _ rfl; exact h)) ?_
 refine AD.done ?_
 refine AO.op rfl (AOp.store rfl rfl rfl rfl size35 rfl rfl rfl (leb rfl) ?_)
 refine AO.op rfl (AOp.assign rfl rfl (ltb rfl) rfl ?_)
 refine AO.nil ?_
 change AC _ _ _ _
 refine AC.ret ?_
 change RetQ _ _ _ .ret _
 obtain rfl := Option.some.inj h0
 refine retq rfl rfl

def RH_WriteUInt32_bigEndian : (Int × (List Int)) → SV → List Ob → Prop
 | z => fun r post => r = .d (.v (.nilIface)) ∧ post = [.fix 71 [.own 1, .d (di .i64 (0 : Int)), .d (di .i8 z.1)], .grow 5 1 (List.map keS4 z.2)]
set_option maxRecDepth 100000 in
set_option maxHeartbeats 4000000 in
/-- pub-orthodrome/pub/gogeom/encoding/wkbcommon.WriteUInt32 -/
theorem wh_WriteUInt32_bigEndian (a0 : TBinary_bigEndian) (a1 : Int) (b0 : Int) (b1 : (List Int)) (r0 : (Int × (List Int))) (h0 : p_WriteUInt32_bigEndian a0 a1 b0 b1 = some r0) : FnH Tryd.prog 42 [.ifc 54 (.ptr 0 0), .ifc 94 (.d (e_TBinary_bigEndian TBinary_bigEndian.mk)), .d (di .u32 a1)] [.fix 71 [.own 1, .d (di .i64 (0 : Int)), .d (di .i8 b0)], .grow 5 1 (List.map keS4 b1)] [0] (RH_WriteUInt32_bigEndian r0) := by
 refine FnH.of (by kernel_rfl) Tryd.func42 rfl Tryd.ntmps42 rfl (leb rfl) fun W ok may pv => ?_
 unfold p_WriteUInt32_bigEndian at h0
 refine AC.seq ?_
 refine AC.region ?_
 refine AO.op rfl (AOp.assign rfl rfl (ltb rfl) rfl ?_)
 refine AO.nil ?_
 change AC _ _ _ _
 refine AC.seq ?_
 refine AC.region ?_
 refine AO.op rfl (AOp.alloc rfl rfl (ltb rfl) zero102 rfl ?_)
 refine AO.nil ?_
 change AC _ _ _ _
 refine AC.seq ?_
 refine AC.draw 6 mixed (by kernel_rfl) ?_
 refine AD.op [1] rfl (by kernel_rfl) rfl rfl (fun _ _ h => AOp.move rfl rfl (ltb rfl) rfl h) ?_
 refine AD.op [7] rfl (by kernel_rfl) rfl rfl (fun _ _ h => AOp.sliceArr rfl rfl (ltb rfl) rfl ar102 ⟨_, _, rfl⟩ h) ?_
 refine AD.op [2] rfl (by kernel_rfl) rfl rfl (fun _ _ h => AOp.move rfl rfl (ltb rfl) rfl h) ?_
 refine AD.op [10] rfl (by kernel_rfl) rfl rfl (fun _ _ h => AOp.makeMeth rfl rfl (ltb rfl) rfl h) ?_
 refine AD.op [13] rfl (by kernel_rfl) rfl rfl (fun _ _ h => AOp.nilMeth rfl rfl (ltb rfl) rfl rfl nilm94_PutUint32 h) ?_
 refine AD.op [10] rfl (by kernel_rfl) rfl rfl (fun _ _ h => AOp.move rfl rfl (ltb rfl) rfl h) ?_
 refine AD.done ?_
 refine AO.op rfl (AOp.inlE [0, 7] (EntersS.meth (by kernel_rfl) rfl rfl rfl meth94_PutUint32 rfl rfl) Tryd.func83 rfl Tryd.ntmps83 rfl (ltb rfl) (leb rfl) rfl ?_)
 intro fr1
 refine AC.seq ?_
 refine AC.region ?_
 refine AO.op rfl (AOp.box rfl rfl (ltb rfl) rfl rfl ?_)
 refine AO.objs (obs' := [.fix 71 [.own 1, .d (di .i64 (0 : Int)), .d (di .i8 b0)], .grow 5 1 (List.map keS4 b1), .frame pv [(0, .ptr 0 0), (1, .own 1)], .fix 102 (List.map (fun z => SV.d (keS4 z)) [(0 : Int), (0 : Int), (0 : Int), (0 : Int)]), .frame fr1 [(0, .ifc 54 (.ptr 0 0)), (7, .ptr 3 0)], .fix 94 []]) rfl ?_
 refine AO.nil ?_
 change AC _ _ _ _
 refine AC.seq ?_
 refine AC.region ?_
 refine AO.op rfl (AOp.move rfl rfl (ltb rfl) rfl ?_)
 obtain ⟨q2, h0⟩ := need_elim h0
 refine AO.op rfl (AOp.indexSl rfl rfl (ltb rfl) rfl rfl el22 q2.1 q2.2 ?_)
 obtain ⟨x3, q4, h0⟩ := idx_elim h0
 refine AO.op rfl (AOp.load1 rfl rfl (ltb rfl) rfl agg5 rfl (atO (f := fun z => SV.d (keS4 z)) q4.2) ?_)
 refine AO.nil ?_
 change AC _ _ _ _
 refine AC.seq ?_
 refine AC.region ?_
 refine AO.op rfl (AOp.move rfl rfl (ltb rfl) rfl ?_)
 refine AO.op rfl (AOp.move rfl rfl (ltb rfl) rfl ?_)
 obtain ⟨q5, h0⟩ := need_elim h0
 refine AO.op rfl (AOp.ishr (n := 24) rfl rfl (ltb rfl) rfl rfl (by decide) q5 rfl ?_)
 refine AO.op rfl (AOp.i2i rfl rfl (ltb rfl) rfl Tryd.underlying43 Tryd.underlying5 rfl ?_)
 obtain ⟨q6, h0⟩ := need_elim h0
 refine AO.op rfl (AOp.indexSl rfl rfl (ltb rfl) rfl rfl el22 q6.1 q6.2 ?_)
 obtain ⟨q7, h0⟩ := need_elim h0
 refine AO.op rfl (AOp.storeL (f := fun z => SV.d (keS4 z)) (l := [(0 : Int), (0 : Int), (0 : Int), (0 : Int)]) (i := ((0 : Int)).toNat) (v := (IntKind.u8.wrap (a1 / 2 ^ 24))) rfl rfl rfl rfl size5 rfl rfl rfl q7 ?_)
 refine AO.nil ?_
 change AC _ _ _ _
 refine AC.seq ?_
 refine AC.region ?_
 refine AO.op rfl (AOp.move rfl rfl (ltb rfl) rfl ?_)
 refine AO.op rfl (AOp.move rfl rfl (ltb rfl) rfl ?_)
 obtain ⟨q8, h0⟩ := need_elim h0
 refine AO.op rfl (AOp.ishr (n := 16) rfl rfl (ltb rfl) rfl rfl (by decide) q8 rfl ?_)
 refine AO.op rfl (AOp.i2i rfl rfl (ltb rfl) rfl Tryd.underlying43 Tryd.underlying5 rfl ?_)
 obtain ⟨q9, h0⟩ := need_elim h0
 refine AO.op rfl (AOp.indexSl rfl rfl (ltb rfl) rfl rfl el22 q9.1 q9.2 ?_)
 obtain ⟨q10, h0⟩ := need_elim h0
 refine AO.op rfl (AOp.storeL (f := fun z => SV.d (keS4 z)) (l := ([(0 : Int), (0 : Int), (0 : Int), (0 : Int)].set ((0 : Int)).toNat (IntKind.u8.wrap (a1 / 2 ^ 24)))) (i := ((1 : Int)).toNat) (v := (IntKind.u8.wrap (a1 / 2 ^ 16))) rfl rfl rfl rfl size5 rfl rfl rfl q10 ?_)
 refine AO.nil ?_
 change AC _ _ _ _
 refine AC.seq ?_
 refine AC.region ?_
 refine AO.op rfl (AOp.move rfl rfl (ltb rfl) rfl ?_)
 refine AO.op rfl (AOp.move rfl rfl (ltb rfl) rfl ?_)
 obtain ⟨q11, h0⟩ := need_elim h0
 refine AO.op rfl (AOp.ishr (n := 8) rfl rfl (ltb rfl) rfl rfl (by decide) q11 rfl ?_)
 refine AO.op rfl (AOp.i2i rfl rfl (ltb rfl) rfl Tryd.underlying43 Tryd.underlying5 rfl ?_)
 obtain ⟨q12, h0⟩ := need_elim h0
 refine AO.op rfl (AOp.indexSl rfl rfl (ltb rfl) rfl rfl el22 q12.1 q12.2 ?_)
 obtain ⟨q13, h0⟩ := need_elim h0
 refine AO.op rfl (AOp.storeL (f := fun z => SV.d (keS4 z)) (l := (([(0 : Int), (0 : Int), (0 : Int), (0 : Int)].set ((0 : Int)).toNat (IntKind.u8.wrap (a1 / 2 ^ 24))).set ((1 : Int)).toNat (IntKind.u8.wrap (a1 / 2 ^ 16)))) (i := ((2 : Int)).toNat) (v := (IntKind.u8.wrap (a1 / 2 ^ 8))) rfl rfl rfl rfl size5 rfl rfl rfl q13 ?_)
 refine AO.nil ?_
 change AC _ _ _ _
 refine AC.region ?_
 refine AO.op rfl (AOp.move rfl rfl (ltb rfl) rfl ?_)
 refine AO.op rfl (AOp.move rfl rfl (ltb rfl) rfl ?_)
 refine AO.op rfl (AOp.i2i rfl rfl (ltb rfl) rfl Tryd.underlying43 Tryd.underlying5 rfl ?_)
 obtain ⟨q14, h0⟩ := need_elim h0
 refine AO.op rfl (AOp.indexSl rfl rfl (ltb rfl) rfl rfl el22 q14.1 q14.2 ?_)
 obtain ⟨q15, h0⟩ := need_elim h0
 refine AO.op rfl (AOp.storeL (f := fun z => SV.d (keS4 z)) (l := ((([(0 : Int), (0 : Int), (0 : Int), (0 : Int)].set ((0 : Int)).toNat (IntKind.u8.wrap (a1 / 2 ^ 24))).set ((1 : Int)).toNat (IntKind.u8.wrap (a1 / 2 ^ 16))).set ((2 : Int)).toNat (IntKind.u8.wrap (a1 / 2 ^ 8)))) (i := ((3 : Int)).toNat) (v := (IntKind.u8.wrap a1)) rfl rfl rfl rfl size5 rfl rfl rfl q15 ?_)
 refine AO.nil ?_
 refine inlend (ob' := [.fix 71 [.own 1, .d (di .i64 (0 : Int)), .d (di .i8 b0)], .grow 5 1 (List.map keS4 b1), .frame pv [(0, .ptr 0 0), (1, .own 1)], .fix 102 (List.map (fun z => SV.d (keS4 z)) (((([(0 : Int), (0 : Int), (0 : Int), (0 : Int)].set ((0 : Int)).toNat (IntKind.u8.wrap (a1 / 2 ^ 24))).set ((1 : Int)).toNat (IntKind.u8.wrap (a1 / 2 ^ 16))).set ((2 : Int)).toNat (IntKind.u8.wrap (a1 / 2 ^ 8))).set ((3 : Int)).toNat (IntKind.u8.wrap a1))), .dead, .fix 94 []]) (e' := [(0, .ifc 54 (.ptr 0 0)), (7, .ptr 3 0)]) (r := .tu []) rfl rfl rfl ?_
 change AO _ _ _ _ _
 refine AO.objs (obs' := [.fix 71 [.own 1, .d (di .i64 (0 : Int)), .d (di .i8 b0)], .grow 5 1 (List.map keS4 b1), .frame pv [(0, .ptr 0 0), (1, .own 1)], .fix 102 (List.map (fun z => SV.d (keS4 z)) (((([(0 : Int), (0 : Int), (0 : Int), (0 : Int)].set ((0 : Int)).toNat (IntKind.u8.wrap (a1 / 2 ^ 24))).set ((1 : Int)).toNat (IntKind.u8.wrap (a1 / 2 ^ 16))).set ((2 : Int)).toNat (IntKind.u8.wrap (a1 / 2 ^ 8))).set ((3 : Int)).toNat (IntKind.u8.wrap a1))), .dead, .fix 94 []]) rfl ?_
 refine AO.nil ?_
 change AC _ _ _ _
 refine AC.seq ?_
 refine AC.drawC 5 mixed (by kernel_rfl) rfl ?_
 refine AD.op [0] rfl (by kernel_rfl) rfl rfl (fun _ _ h => AOp.move rfl rfl (ltb rfl) rfl h) ?_
 refine AD.op [7] rfl (by kernel_rfl) rfl rfl (fun _ _ h => AOp.sliceArr rfl rfl (ltb rfl) rfl ar102 ⟨_, _, rfl⟩ h) ?_
 refine AD.op [18] rfl (by kernel_rfl) rfl rfl (fun _ _ h => AOp.makeMeth rfl rfl (ltb rfl) rfl h) ?_
 refine AD.op [20] rfl (by kernel_rfl) rfl rfl (fun _ _ h => AOp.nilMeth rfl rfl (ltb rfl) rfl rfl nilm54_Write h) ?_
 refine AD.op [18] rfl (by kernel_rfl) rfl rfl (fun _ _ h => AOp.move rfl rfl (ltb rfl) rfl h) ?_
 refine AD.done ?_
 refine AO.subF 2 [0] rfl rfl ?_
 obtain ⟨q16, h0⟩ := need_elim h0
 obtain ⟨q17, h0⟩ := need_elim h0
 refine AO.op rfl (AOp.callW' (p := 0) (q := 1) (m := b1.length) (n := (((([(0 : Int), (0 : Int), (0 : Int), (0 : Int)].set ((0 : Int)).toNat (IntKind.u8.wrap (a1 / 2 ^ 24))).set ((1 : Int)).toNat (IntKind.u8.wrap (a1 / 2 ^ 16))).set ((2 : Int)).toNat (IntKind.u8.wrap (a1 / 2 ^ 8))).set ((3 : Int)).toNat (IntKind.u8.wrap a1)).length) (bs := (List.map keS4 b1)) (cs := (List.map keS4 (((([(0 : Int), (0 : Int), (0 : Int), (0 : Int)].set ((0 : Int)).toNat (IntKind.u8.wrap (a1 / 2 ^ 24))).set ((1 : Int)).toNat (IntKind.u8.wrap (a1 / 2 ^ 16))).set ((2 : Int)).toNat (IntKind.u8.wrap (a1 / 2 ^ 8))).set ((3 : Int)).toNat (IntKind.u8.wrap a1)))) (EntersS.meth (by kernel_rfl) rfl rfl rfl meth54_Write rfl rfl) bufW rfl (ltb rfl) rfl rfl (src_arr (f := keS4) rfl q16) rfl (isV_map (fun _ => rfl) _) (isV_map (fun _ => rfl) _) (one_map (fun _ => rfl) _) (one_map (fun _ => rfl) _) (len1 _ _) (len1 _ _) q17 (allNo (.cons rfl (.cons rfl (.cons rfl (.cons (noO2_fixl fun _ => rfl) (.cons rfl (.cons rfl .nil))))))) rfl (cat1 _ _ _) ?_)
 refine AO.nil ?_
 change AD _ _ _ _ _
 refine AD.op [23] rfl (by kernel_rfl) rfl rfl (fun _ _ h => AOp.move rfl rfl (ltb rfl) rfl h) ?_
 first | refine AD.op [17] rfl (by kernel_rfl) rfl rfl (fun _ _ h => AOp.extractD rfl rfl (ltb rfl) rfl rfl h) ?_ | refine AD.op [17] rfl (by kernel_rfl) rfl rfl (fun _ _ h => AOp.extract rfl rfl (ltb rfl) rfl rfl h) ?_
 first | refine AD.op [17] rfl (by kernel_rfl) rfl rfl (fun _ _ h => AOp.extractD rfl rfl (ltb rfl) rfl rfl h) ?_ | refine AD.op [17] rfl (by kernel_rfl) rfl rfl (fun _ _ h => AOp.extract rfl rfl (ltb rfl) rfl rfl h) ?_
 refine AD.op [24] rfl (by kernel_rfl) rfl rfl (fun _ _ h => AOp.assign rfl rfl (ltb rfl) rfl h) ?_
 refine AD.op [25] rfl (by kernel_rfl) rfl rfl (fun _ _ h => AOp.assign rfl rfl (ltb rfl) rfl h) ?_
 refine AD.done ?_
 refine AO.nil ?_
 change AC _ _ _ _
 refine AC.seq ?_
 refine AC.region ?_
 refine AO.op rfl (AOp.move rfl rfl (ltb rfl) rfl ?_)
 refine AO.op rfl (AOp.assign rfl rfl (ltb rfl) rfl ?_)
 refine AO.nil ?_
 change AC _ _ _ _
 obtain rfl := Option.some.inj h0
 refine AC.ret ?_
 change RetH _ _ _ _ _ _ .ret _
 refine reth (post := [.fix 71 [.own 1, .d (di .i64 (0 : Int)), .d (di .i8 (0 : Int))], .grow 5 1 (List.map keS4 (b1 ++ (((([(0 : Int), (0 : Int), (0 : Int), (0 : Int)].set ((0 : Int)).toNat (IntKind.u8.wrap (a1 / 2 ^ 24))).set ((1 : Int)).toNat (IntKind.u8.wrap (a1 / 2 ^ 16))).set ((2 : Int)).toNat (IntKind.u8.wrap (a1 / 2 ^ 8))).set ((3 : Int)).toNat (IntKind.u8.wrap a1))))]) rfl rfl rfl rfl rfl ?_
 exact ⟨rfl, rfl⟩

theorem callBits (x : Nat) (w : World) : (callFunc 24 #[.float .f64 x]).run Tryd.prog w = .ok (.value (.int .u64 x)) w := by
 rw [run_callFunc_extern Tryd.func24 (by kernel_rfl) (by kernel_rfl) (by kernel_rfl) (e := Extern.MathFloatBits.float64bits) (by kernel_rfl), run_f64bits Tryd.prog x]
 rfl

def RH_WriteFloatArray_bigEndian : (Int × (List Int)) → SV → List Ob → Prop
 | z => fun r post => r = .d (.v (.nilIface)) ∧ post = [.fix 71 [.own 1, .d (di .i64 (0 : Int)), .d (di .i8 z.1)], .grow 5 1 (List.map keS4 z.2)]
set_option maxRecDepth 100000 in
set_option maxHeartbeats 4000000 in
/-- pub-orthodrome/pub/gogeom/encoding/wkbcommon.WriteFloatArray -/
theorem wh_WriteFloatArray_bigEndian (F : Nat) (a0 : TBinary_bigEndian) (a1 : (List Nat)) (b0 : Int) (b1 : (List Int)) (r0 : (Int × (List Int))) (h0 : p_WriteFloatArray_bigEndian F a0 a1 b0 b1 = some r0) : FnH Tryd.prog 52 [.ifc 54 (.ptr 0 0), .ifc 94 (.d (e_TBinary_bigEndian TBinary_bigEndian.mk)), .d (eS0 a1)] [.fix 71 [.own 1, .d (di .i64 (0 : Int)), .d (di .i8 b0)], .grow 5 1 (List.map keS4 b1)] [0] (RH_WriteFloatArray_bigEndian r0) := by
 refine FnH.of (by kernel_rfl) Tryd.func52 rfl Tryd.ntmps52 rfl (leb rfl) fun W ok may pv => ?_
 unfold p_WriteFloatArray_bigEndian at h0
 refine AC.seq ?_
 refine AC.region ?_
 refine AO.op rfl (AOp.assign rfl rfl (ltb rfl) rfl ?_)
 refine AO.nil ?_
 change AC _ _ _ _
 refine AC.seq ?_
 refine AC.region ?_
 refine AO.op rfl (AOp.move rfl rfl (ltb rfl) rfl ?_)
 refine AO.op rfl (AOp.lenDs (n := a1.length) (cells := (List.map keS0 a1)) rfl rfl (ltb rfl) rfl el24 (by decide) (len1 _ _) ?_)
 obtain ⟨q1, h0⟩ := need_elim h0
 refine AO.op rfl (AOp.imul rfl rfl (ltb rfl) rfl rfl rfl q1.1 q1.2 ?_)
 obtain ⟨q2, h0⟩ := need_elim h0
 refine AO.op rfl (AOp.makeL (f := fun z => SV.d (keS4 z)) (z0 := (0 : Int)) rfl rfl (ltb rfl) rfl rfl el22 info5 rfl rfl (by decide) q2.1 q2.2 rfl ?_)
 refine AO.op rfl (AOp.assign rfl rfl (ltb rfl) rfl ?_)
 refine AO.nil ?_
 change AC _ _ _ _
 refine AC.seq ?_
 refine AC.seq ?_
 refine AC.region ?_
 refine AO.op rfl (AOp.move rfl rfl (ltb rfl) rfl ?_)
 refine AO.op rfl (AOp.lenDs (n := a1.length) (cells := (List.map keS0 a1)) rfl rfl (ltb rfl) rfl el24 (by decide) (len1 _ _) ?_)
 refine AO.op rfl (AOp.move rfl rfl (ltb rfl) rfl ?_)
 refine AO.nil ?_
 change AC _ _ _ _
 obtain ⟨o3, l4, h0⟩ := bind_elim h0
 refine AC.joinE (V := (List Int)) [0, 7] [] 4 (fun g5 => []) (fun g5 => [.fix 71 [.own 1, .d (di .i64 (0 : Int)), .d (di .i8 b0)], .grow 5 1 (List.map keS4 b1), .frame pv [(0, .ptr 0 0), (1, .own 1)], .fix 5 (List.map (fun z => SV.d (keS4 z)) g5)]) (fun g5 => (p_WriteFloatArray_bigEndian_k1 a1 b1) g5 = some r0) rfl ?_ ?_
 ·refine AC.block ?_
  refine AC.loopP (V := (Int × (List Int))) (p_WriteFloatArray_bigEndian_l2 a1) o3 [0, 1, 7, 16, 17] [18] 4 (fun g8 => [(18, .d (di .i64 g8.1))]) (fun g8 => [.fix 71 [.own 1, .d (di .i64 (0 : Int)), .d (di .i8 b0)], .grow 5 1 (List.map keS4 b1), .frame pv [(0, .ptr 0 0), (1, .own 1)], .fix 5 (List.map (fun z => SV.d (keS4 z)) g8.2)]) F ((0 : Int), (List.replicate (((8 : Int) * ((a1.length : Nat) : Int))).toNat (0 : Int))) l4 rfl rfl (LeL.refl _) rfl (okU_mk rfl (okU_cons rfl (okU_cons rfl (okU_cons rfl (okU_cons (okU_fixl (fun _ => rfl)) okU_nil))))) ?_
  intro n10 g8 h1
  unfold p_WriteFloatArray_bigEndian_l2 at h1
  refine AC.seq ?_
  refine AC.region ?_
  refine AO.op rfl (AOp.ilss rfl rfl (ltb rfl) rfl rfl ?_)
  refine AO.nil ?_
  change AC _ _ _ _
  refine AC.seq ?_
  refine AC.cond rfl (fun q11 => ?_) (fun q11 => ?_)
  ·replace h1 := cT h1 q11
   refine AC.skip ?_
   change AC _ _ _ _
   refine AC.seq ?_
   refine AC.block ?_
   refine AC.seq ?_
   refine AC.region ?_
   refine AO.op rfl (AOp.move rfl rfl (ltb rfl) rfl ?_)
   obtain ⟨x12, q13, h1⟩ := idx_elim h1
   refine AO.op rfl (AOp.indexDs (cells := (List.map keS0 a1)) rfl rfl (ltb rfl) rfl rfl el24 (by decide) q13.1 (lt1 q13.2) ?_)
   refine AO.op rfl (AOp.loadEp rfl rfl (ltb rfl) rfl agg63 (at1 q13.2) ?_)
   refine AO.op rfl (AOp.assign rfl rfl (ltb rfl) rfl ?_)
   refine AO.op rfl (AOp.assign rfl rfl (ltb rfl) rfl ?_)
   refine AO.nil ?_
   change AC _ _ _ _
   refine AC.region ?_
   refine AO.op rfl (AOp.move rfl rfl (ltb rfl) rfl ?_)
   refine AO.op rfl (AOp.move rfl rfl (ltb rfl) rfl ?_)
   obtain ⟨q14, h1⟩ := need_elim h1
   refine AO.op rfl (AOp.imul rfl rfl (ltb rfl) rfl rfl rfl q14.1 q14.2 ?_)
   obtain ⟨q15, h1⟩ := need_elim h1
   refine AO.op rfl (AOp.sliceSl (cap := ((((8 : Int) * ((a1.length : Nat) : Int))).toNat)) rfl rfl (ltb rfl) rfl rfl el22 q15.1 q15.2 ?_)
   refine AO.op rfl (AOp.move rfl rfl (ltb rfl) rfl ?_)
   refine AO.op rfl (AOp.move rfl rfl (ltb rfl) rfl ?_)
   refine AO.op rfl (AOp.inl [0, 1, 7, 16, 17, 18] (by kernel_rfl) Tryd.func55 rfl Tryd.ntmps55 rfl rfl (ltb rfl) rfl (leb rfl) rfl ?_)
   intro fr16
   refine AC.seq ?_
   refine AC.region ?_
   refine AO.op rfl (AOp.move rfl rfl (ltb rfl) rfl ?_)
   refine AO.op rfl (AOp.callX [.float .f64 x12] rfl rfl (ltb rfl) rfl (callBits x12) ?_)
   refine AO.op rfl (AOp.assign rfl rfl (ltb rfl) rfl ?_)
   refine AO.nil ?_
   change AC _ _ _ _
   refine AC.region ?_
   refine AO.op rfl (AOp.move rfl rfl (ltb rfl) rfl ?_)
   refine AO.op rfl (AOp.move rfl rfl (ltb rfl) rfl ?_)
   refine AO.op rfl (AOp.move rfl rfl (ltb rfl) rfl ?_)
   refine AO.op rfl (AOp.inlE [] (EntersS.meth (by kernel_rfl) rfl rfl rfl meth94_PutUint64 rfl rfl) Tryd.func84 rfl Tryd.ntmps84 rfl (ltb rfl) (leb rfl) rfl ?_)
   intro fr17
   refine AC.seq ?_
   refine AC.region ?_
   refine AO.op rfl (AOp.box rfl rfl (ltb rfl) rfl rfl ?_)
   refine AO.objs (obs' := [.fix 71 [.own 1, .d (di .i64 (0 : Int)), .d (di .i8 b0)], .grow 5 1 (List.map keS4 b1), .frame pv [(0, .ptr 0 0), (1, .own 1)], .fix 5 (List.map (fun z => SV.d (keS4 z)) g8.2), .frame fr16 [(0, .ifc 54 (.ptr 0 0)), (1, .ifc 94 (.d (e_TBinary_bigEndian TBinary_bigEndian.mk))), (7, .sl 3 1 0 ((((8 : Int) * ((a1.length : Nat) : Int))).toNat) ((((8 : Int) * ((a1.length : Nat) : Int))).toNat)), (16, .d (eS0 a1)), (17, .d (di .i64 ((a1.length : Nat) : Int))), (18, .d (di .i64 g8.1))], .frame fr17 [], .fix 94 []]) rfl ?_
   refine AO.nil ?_
   change AC _ _ _ _
   refine AC.seq ?_
   refine AC.region ?_
   refine AO.op rfl (AOp.move rfl rfl (ltb rfl) rfl ?_)
   obtain ⟨q18, h1⟩ := need_elim h1
   refine AO.op rfl (AOp.indexSf (lo := ((8 : Int) * g8.1)) (n := (((8 : Int) * ((a1.length : Nat) : Int))).toNat) rfl rfl (ltb rfl) rfl rfl el22 q18 ?_)
   obtain ⟨x19, q20, h1⟩ := idx_elim h1
   refine AO.op rfl (AOp.load1 rfl rfl (ltb rfl) rfl agg5 rfl (atO q20.2) ?_)
   refine AO.nil ?_
   change AC _ _ _ _
   refine AC.seq ?_
   refine AC.region ?_
   refine AO.op rfl (AOp.move rfl rfl (ltb rfl) rfl ?_)
   refine AO.op rfl (AOp.move rfl rfl (ltb rfl) rfl ?_)
   obtain ⟨q21, h1⟩ := need_elim h1
   refine AO.op rfl (AOp.ishr (n := 56) rfl rfl (ltb rfl) rfl rfl (by decide) q21 rfl ?_)
   refine AO.op rfl (AOp.i2i rfl rfl (ltb rfl) rfl Tryd.underlying64 Tryd.underlying5 rfl ?_)
   obtain ⟨q22, h1⟩ := need_elim h1
   refine AO.op rfl (AOp.indexSf (lo := ((8 : Int) * g8.1)) (n := (((8 : Int) * ((a1.length : Nat) : Int))).toNat) rfl rfl (ltb rfl) rfl rfl el22 q22 ?_)
   obtain ⟨q23, h1⟩ := need_elim h1
   refine AO.op rfl (AOp.storeL (f := fun z => SV.d (keS4 z)) (l := g8.2) (i := ((((8 : Int) * g8.1) + (0 : Int))).toNat) (v := (IntKind.u8.wrap (((x12 : Nat) : Int) / 2 ^ 56))) rfl rfl rfl rfl size5 rfl rfl rfl q23 ?_)
   refine AO.nil ?_
   change AC _ _ _ _
   refine AC.seq ?_
   refine AC.region ?_
   refine AO.op rfl (AOp.move rfl rfl (ltb rfl) rfl ?_)
   refine AO.op rfl (AOp.move rfl rfl (ltb rfl) rfl ?_)
   obtain ⟨q24, h1⟩ := need_elim h1
   refine AO.op rfl (AOp.ishr (n := 48) rfl rfl (ltb rfl) rfl rfl (by decide) q24 rfl ?_)
   refine AO.op rfl (AOp.i2i rfl rfl (ltb rfl) rfl Tryd.underlying64 Tryd.underlying5 rfl ?_)
   obtain ⟨q25, h1⟩ := need_elim h1
   refine AO.op rfl (AOp.indexSf (lo := ((8 : Int) * g8.1)) (n := (((8 : Int) * ((a1.length : Nat) : Int))).toNat) rfl rfl (ltb rfl) rfl rfl el22 q25 ?_)
   obtain ⟨q26, h1⟩ := need_elim h1
   refine AO.op rfl (AOp.storeL (f := fun z => SV.d (keS4 z)) (l := (g8.2.set ((((8 : Int) * g8.1) + (0 : Int))).toNat (IntKind.u8.wrap (((x12 : Nat) : Int) / 2 ^ 56)))) (i := ((((8 : Int) * g8.1) + (1 : Int))).toNat) (v := (IntKind.u8.wrap (((x12 : Nat) : Int) / 2 ^ 48))) rfl rfl rfl rfl size5 rfl rfl rfl q26 ?_)
   refine AO.nil ?_
   change AC _ _ _ _
   refine AC.seq ?_
   refine AC.region ?_
   refine AO.op rfl (AOp.move rfl rfl (ltb rfl) rfl ?_)
   refine AO.op rfl (AOp.move rfl rfl (ltb rfl) rfl ?_)
   obtain ⟨q27, h1⟩ := need_elim h1
   refine AO.op rfl (AOp.ishr (n := 40) rfl rfl (ltb rfl) rfl rfl (by decide) q27 rfl ?_)
   refine AO.op rfl (AOp.i2i rfl rfl (ltb rfl) rfl Tryd.underlying64 Tryd.underlying5 rfl ?_)
   obtain ⟨q28, h1⟩ := need_elim h1
   refine AO.op rfl (AOp.indexSf (lo := ((8 : Int) * g8.1)) (n := (((8 : Int) * ((a1.length : Nat) : Int))).toNat) rfl rfl (ltb rfl) rfl rfl el22 q28 ?_)
   obtain ⟨q29, h1⟩ := need_elim h1
   refine AO.op rfl (AOp.storeL (f := fun z => SV.d (keS4 z)) (l := ((g8.2.set ((((8 : Int) * g8.1) + (0 : Int))).toNat (IntKind.u8.wrap (((x12 : Nat) : Int) / 2 ^ 56))).set ((((8 : Int) * g8.1) + (1 : Int))).toNat (IntKind.u8.wrap (((x12 : Nat) : Int) / 2 ^ 48)))) (i := ((((8 : Int) * g8.1) + (2 : Int))).toNat) (v := (IntKind.u8.wrap (((x12 : Nat) : Int) / 2 ^ 40))) rfl rfl rfl rfl size5 rfl rfl rfl q29 ?_)
   refine AO.nil ?_
   change AC _ _ _ _
   refine AC.seq ?_
   refine AC.region ?_
   refine AO.op rfl (AOp.move rfl rfl (ltb rfl) rfl ?_)
   refine AO.op rfl (AOp.move rfl rfl (ltb rfl) rfl ?_)
   obtain ⟨q30, h1⟩ := need_elim h1
   refine AO.op rfl (AOp.ishr (n := 32) rfl rfl (ltb rfl) rfl rfl (by decide) q30 rfl ?_)
   refine AO.op rfl (AOp.i2i rfl rfl (ltb rfl) rfl Tryd.underlying64 Tryd.underlying5 rfl ?_)
   obtain ⟨q31, h1⟩ := need_elim h1
   refine AO.op rfl (AOp.indexSf (lo := ((8 : Int) * g8.1)) (n := (((8 : Int) * ((a1.length : Nat) : Int))).toNat) rfl rfl (ltb rfl) rfl rfl el22 q31 ?_)
   obtain ⟨q32, h1⟩ := need_elim h1
   refine AO.op rfl (AOp.storeL (f := fun z => SV.d (keS4 z)) (l := (((g8.2.set ((((8 : Int) * g8.1) + (0 : Int))).toNat (IntKind.u8.wrap (((x12 : Nat) : Int) / 2 ^ 56))).set ((((8 : Int) * g8.1) + (1 : Int))).toNat (IntKind.u8.wrap (((x12 : Nat) : Int) / 2 ^ 48))).set ((((8 : Int) * g8.1) + (2 : Int))).toNat (IntKind.u8.wrap (((x12 : Nat) : Int) / 2 ^ 40)))) (i := ((((8 : Int) * g8.1) + (3 : Int))).toNat) (v := (IntKind.u8.wrap (((x12 : Nat) : Int) / 2 ^ 32))) rfl rfl rfl rfl size5 rfl rfl rfl q32 ?_)
   refine AO.nil ?_
   change AC _ _ _ _
   refine AC.seq ?_
   refine AC.region ?_
   refine AO.op rfl (AOp.move rfl rfl (ltb rfl) rfl ?_)
   refine AO.op rfl (AOp.move rfl rfl (ltb rfl) rfl ?_)
   obtain ⟨q33, h1⟩ := need_elim h1
   refine AO.op rfl (AOp.ishr (n := 24) rfl rfl (ltb rfl) rfl rfl (by decide) q33 rfl ?_)
   refine AO.op rfl (AOp.i2i rfl rfl (ltb rfl) rfl Tryd.underlying64 Tryd.underlying5 rfl ?_)
   obtain ⟨q34, h1⟩ := need_elim h1
   refine AO.op rfl (AOp.indexSf (lo := ((8 : Int) * g8.1)) (n := (((8 : Int) * ((a1.length : Nat) : Int))).toNat) rfl rfl (ltb rfl) rfl rfl el22 q34 ?_)
   obtain ⟨q35, h1⟩ := need_elim h1
   refine AO.op rfl (AOp.storeL (f := fun z => SV.d (keS4 z)) (l := ((((g8.2.set ((((8 : Int) * g8.1) + (0 : Int))).toNat (IntKind.u8.wrap (((x12 : Nat) : Int) / 2 ^ 56))).set ((((8 : Int) * g8.1) + (1 : Int))).toNat (IntKind.u8.wrap (((x12 : Nat) : Int) / 2 ^ 48))).set ((((8 : Int) * g8.1) + (2 : Int))).toNat (IntKind.u8.wrap (((x12 : Nat) : Int) / 2 ^ 40))).set ((((8 : Int) * g8.1) + (3 : Int))).toNat (IntKind.u8.wrap (((x12 : Nat) : Int) / 2 ^ 32)))) (i := ((((8 : Int) * g8.1) + (4 : Int))).toNat) (v := (IntKind.u8.wrap (((x12 : Nat) : Int) / 2 ^ 24))) rfl rfl rfl rfl size5 rfl rfl rfl q35 ?_)
   refine AO.nil ?_
   change AC _ _ _ _
   refine AC.seq ?_
   refine AC.region ?_
   refine AO.op rfl (AOp.move rfl rfl (ltb rfl) rfl ?_)
   refine AO.op rfl (AOp.move rfl rfl (ltb rfl) rfl ?_)
   obtain ⟨q36, h1⟩ := need_elim h1
   refine AO.op rfl (AOp.ishr (n := 16) rfl rfl (ltb rfl) rfl rfl (by decide) q36 rfl ?_)
   refine AO.op rfl (AOp.i2i rfl rfl (ltb rfl) rfl Tryd.underlying64 Tryd.underlying5 rfl ?_)
   obtain ⟨q37, h1⟩ := need_elim h1
   refine AO.op rfl (AOp.indexSf (lo := ((8 : Int) * g8.1)) (n := (((8 : Int) * ((a1.length : Nat) : Int))).toNat) rfl rfl (ltb rfl) rfl rfl el22 q37 ?_)
   obtain ⟨q38, h1⟩ := need_elim h1
   refine AO.op rfl (AOp.storeL (f := fun z => SV.d (keS4 z)) (l := (((((g8.2.set ((((8 : Int) * g8.1) + (0 : Int))).toNat (IntKind.u8.wrap (((x12 : Nat) : Int) / 2 ^ 56))).set ((((8 : Int) * g8.1) + (1 : Int))).toNat (IntKind.u8.wrap (((x12 : Nat) : Int) / 2 ^ 48))).set ((((8 : Int) * g8.1) + (2 : Int))).toNat (IntKind.u8.wrap (((x12 : Nat) : Int) / 2 ^ 40))).set ((((8 : Int) * g8.1) + (3 : Int))).toNat (IntKind.u8.wrap (((x12 : Nat) : Int) / 2 ^ 32))).set ((((8 : Int) * g8.1) + (4 : Int))).toNat (IntKind.u8.wrap (((x12 : Nat) : Int) / 2 ^ 24)))) (i := ((((8 : Int) * g8.1) + (5 : Int))).toNat) (v := (IntKind.u8.wrap (((x12 : Nat) : Int) / 2 ^ 16))) rfl rfl rfl rfl size5 rfl rfl rfl q38 ?_)
   refine AO.objs (obs' := [.fix 71 [.own 1, .d (di .i64 (0 : Int)), .d (di .i8 b0)], .grow 5 1 (List.map keS4 b1), .frame pv [(0, .ptr 0 0), (1, .own 1)], .fix 5 (List.map (fun z => SV.d (keS4 z)) ((((((g8.2.set ((((8 : Int) * g8.1) + (0 : Int))).toNat (IntKind.u8.wrap (((x12 : Nat) : Int) / 2 ^ 56))).set ((((8 : Int) * g8.1) + (1 : Int))).toNat (IntKind.u8.wrap (((x12 : Nat) : Int) / 2 ^ 48))).set ((((8 : Int) * g8.1) + (2 : Int))).toNat (IntKind.u8.wrap (((x12 : Nat) : Int) / 2 ^ 40))).set ((((8 : Int) * g8.1) + (3 : Int))).toNat (IntKind.u8.wrap (((x12 : Nat) : Int) / 2 ^ 32))).set ((((8 : Int) * g8.1) + (4 : Int))).toNat (IntKind.u8.wrap (((x12 : Nat) : Int) / 2 ^ 24))).set ((((8 : Int) * g8.1) + (5 : Int))).toNat (IntKind.u8.wrap (((x12 : Nat) : Int) / 2 ^ 16)))), .frame fr16 [(0, .ifc 54 (.ptr 0 0)), (1, .ifc 94 (.d (e_TBinary_bigEndian TBinary_bigEndian.mk))), (7, .sl 3 1 0 ((((8 : Int) * ((a1.length : Nat) : Int))).toNat) ((((8 : Int) * ((a1.length : Nat) : Int))).toNat)), (16, .d (eS0 a1)), (17, .d (di .i64 ((a1.length : Nat) : Int))), (18, .d (di .i64 g8.1))], .frame fr17 [], .fix 94 []]) rfl ?_
   refine AO.nil ?_
   change AC _ _ _ _
   refine AC.seq ?_
   refine AC.region ?_
   refine AO.op rfl (AOp.move rfl rfl (ltb rfl) rfl ?_)
   refine AO.op rfl (AOp.move rfl rfl (ltb rfl) rfl ?_)
   obtain ⟨q39, h1⟩ := need_elim h1
   refine AO.op rfl (AOp.ishr (n := 8) rfl rfl (ltb rfl) rfl rfl (by decide) q39 rfl ?_)
   refine AO.op rfl (AOp.i2i rfl rfl (ltb rfl) rfl Tryd.underlying64 Tryd.underlying5 rfl ?_)
   obtain ⟨q40, h1⟩ := need_elim h1
   refine AO.op rfl (AOp.indexSf (lo := ((8 : Int) * g8.1)) (n := (((8 : Int) * ((a1.length : Nat) : Int))).toNat) rfl rfl (ltb rfl) rfl rfl el22 q40 ?_)
   obtain ⟨q41, h1⟩ := need_elim h1
   refine AO.op rfl (AOp.storeL (f := fun z => SV.d (keS4 z)) (l := ((((((g8.2.set ((((8 : Int) * g8.1) + (0 : Int))).toNat (IntKind.u8.wrap (((x12 : Nat) : Int) / 2 ^ 56))).set ((((8 : Int) * g8.1) + (1 : Int))).toNat (IntKind.u8.wrap (((x12 : Nat) : Int) / 2 ^ 48))).set ((((8 : Int) * g8.1) + (2 : Int))).toNat (IntKind.u8.wrap (((x12 : Nat) : Int) / 2 ^ 40))).set ((((8 : Int) * g8.1) + (3 : Int))).toNat (IntKind.u8.wrap (((x12 : Nat) : Int) / 2 ^ 32))).set ((((8 : Int) * g8.1) + (4 : Int))).toNat (IntKind.u8.wrap (((x12 : Nat) : Int) / 2 ^ 24))).set ((((8 : Int) * g8.1) + (5 : Int))).toNat (IntKind.u8.wrap (((x12 : Nat) : Int) / 2 ^ 16)))) (i := ((((8 : Int) * g8.1) + (6 : Int))).toNat) (v := (IntKind.u8.wrap (((x12 : Nat) : Int) / 2 ^ 8))) rfl rfl rfl rfl size5 rfl rfl rfl q41 ?_)
   refine AO.nil ?_
   change AC _ _ _ _
   refine AC.region ?_
   refine AO.op rfl (AOp.move rfl rfl (ltb rfl) rfl ?_)
   refine AO.op rfl (AOp.move rfl rfl (ltb rfl) rfl ?_)
   refine AO.op rfl (AOp.i2i rfl rfl (ltb rfl) rfl Tryd.underlying64 Tryd.underlying5 rfl ?_)
   obtain ⟨q42, h1⟩ := need_elim h1
   refine AO.op rfl (AOp.indexSf (lo := ((8 : Int) * g8.1)) (n := (((8 : Int) * ((a1.length : Nat) : Int))).toNat) rfl rfl (ltb rfl) rfl rfl el22 q42 ?_)
   obtain ⟨q43, h1⟩ := need_elim h1
   refine AO.op rfl (AOp.storeL (f := fun z => SV.d (keS4 z)) (l := (((((((g8.2.set ((((8 : Int) * g8.1) + (0 : Int))).toNat (IntKind.u8.wrap (((x12 : Nat) : Int) / 2 ^ 56))).set ((((8 : Int) * g8.1) + (1 : Int))).toNat (IntKind.u8.wrap (((x12 : Nat) : Int) / 2 ^ 48))).set ((((8 : Int) * g8.1) + (2 : Int))).toNat (IntKind.u8.wrap (((x12 : Nat) : Int) / 2 ^ 40))).set ((((8 : Int) * g8.1) + (3 : Int))).toNat (IntKind.u8.wrap (((x12 : Nat) : Int) / 2 ^ 32))).set ((((8 : Int) * g8.1) + (4 : Int))).toNat (IntKind.u8.wrap (((x12 : Nat) : Int) / 2 ^ 24))).set ((((8 : Int) * g8.1) + (5 : Int))).toNat (IntKind.u8.wrap (((x12 : Nat) : Int) / 2 ^ 16))).set ((((8 : Int) * g8.1) + (6 : Int))).toNat (IntKind.u8.wrap (((x12 : Nat) : Int) / 2 ^ 8)))) (i := ((((8 : Int) * g8.1) + (7 : Int))).toNat) (v := (IntKind.u8.wrap ((x12 : Nat) : Int))) rfl rfl rfl rfl size5 rfl rfl rfl q43 ?_)
   refine AO.nil ?_
   refine inlend (ob' := [.fix 71 [.own 1, .d (di .i64 (0 : Int)), .d (di .i8 b0)], .grow 5 1 (List.map keS4 b1), .frame pv [(0, .ptr 0 0), (1, .own 1)], .fix 5 (List.map (fun z => SV.d (keS4 z)) ((((((((g8.2.set ((((8 : Int) * g8.1) + (0 : Int))).toNat (IntKind.u8.wrap (((x12 : Nat) : Int) / 2 ^ 56))).set ((((8 : Int) * g8.1) + (1 : Int))).toNat (IntKind.u8.wrap (((x12 : Nat) : Int) / 2 ^ 48))).set ((((8 : Int) * g8.1) + (2 : Int))).toNat (IntKind.u8.wrap (((x12 : Nat) : Int) / 2 ^ 40))).set ((((8 : Int) * g8.1) + (3 : Int))).toNat (IntKind.u8.wrap (((x12 : Nat) : Int) / 2 ^ 32))).set ((((8 : Int) * g8.1) + (4 : Int))).toNat (IntKind.u8.wrap (((x12 : Nat) : Int) / 2 ^ 24))).set ((((8 : Int) * g8.1) + (5 : Int))).toNat (IntKind.u8.wrap (((x12 : Nat) : Int) / 2 ^ 16))).set ((((8 : Int) * g8.1) + (6 : Int))).toNat (IntKind.u8.wrap (((x12 : Nat) : Int) / 2 ^ 8))).set ((((8 : Int) * g8.1) + (7 : Int))).toNat (IntKind.u8.wrap ((x12 : Nat) : Int)))), .frame fr16 [(0, .ifc 54 (.ptr 0 0)), (1, .ifc 94 (.d (e_TBinary_bigEndian TBinary_bigEndian.mk))), (7, .sl 3 1 0 ((((8 : Int) * ((a1.length : Nat) : Int))).toNat) ((((8 : Int) * ((a1.length : Nat) : Int))).toNat)), (16, .d (eS0 a1)), (17, .d (di .i64 ((a1.length : Nat) : Int))), (18, .d (di .i64 g8.1))], .dead, .fix 94 []]) (e' := []) (r := .tu []) rfl rfl rfl ?_
   change AO _ _ _ _ _
   refine AO.objs (obs' := [.fix 71 [.own 1, .d (di .i64 (0 : Int)), .d (di .i8 b0)], .grow 5 1 (List.map keS4 b1), .frame pv [(0, .ptr 0 0), (1, .own 1)], .fix 5 (List.map (fun z => SV.d (keS4 z)) ((((((((g8.2.set ((((8 : Int) * g8.1) + (0 : Int))).toNat (IntKind.u8.wrap (((x12 : Nat) : Int) / 2 ^ 56))).set ((((8 : Int) * g8.1) + (1 : Int))).toNat (IntKind.u8.wrap (((x12 : Nat) : Int) / 2 ^ 48))).set ((((8 : Int) * g8.1) + (2 : Int))).toNat (IntKind.u8.wrap (((x12 : Nat) : Int) / 2 ^ 40))).set ((((8 : Int) * g8.1) + (3 : Int))).toNat (IntKind.u8.wrap (((x12 : Nat) : Int) / 2 ^ 32))).set ((((8 : Int) * g8.1) + (4 : Int))).toNat (IntKind.u8.wrap (((x12 : Nat) : Int) / 2 ^ 24))).set ((((8 : Int) * g8.1) + (5 : Int))).toNat (IntKind.u8.wrap (((x12 : Nat) : Int) / 2 ^ 16))).set ((((8 : Int) * g8.1) + (6 : Int))).toNat (IntKind.u8.wrap (((x12 : Nat) : Int) / 2 ^ 8))).set ((((8 : Int) * g8.1) + (7 : Int))).toNat (IntKind.u8.wrap ((x12 : Nat) : Int)))), .frame fr16 [(0, .ifc 54 (.ptr 0 0)), (1, .ifc 94 (.d (e_TBinary_bigEndian TBinary_bigEndian.mk))), (7, .sl 3 1 0 ((((8 : Int) * ((a1.length : Nat) : Int))).toNat) ((((8 : Int) * ((a1.length : Nat) : Int))).toNat)), (16, .d (eS0 a1)), (17, .d (di .i64 ((a1.length : Nat) : Int))), (18, .d (di .i64 g8.1))], .dead, .fix 94 []]) rfl ?_
   refine AO.nil ?_
   refine inlend (ob' := [.fix 71 [.own 1, .d (di .i64 (0 : Int)), .d (di .i8 b0)], .grow 5 1 (List.map keS4 b1), .frame pv [(0, .ptr 0 0), (1, .own 1)], .fix 5 (List.map (fun z => SV.d (keS4 z)) ((((((((g8.2.set ((((8 : Int) * g8.1) + (0 : Int))).toNat (IntKind.u8.wrap (((x12 : Nat) : Int) / 2 ^ 56))).set ((((8 : Int) * g8.1) + (1 : Int))).toNat (IntKind.u8.wrap (((x12 : Nat) : Int) / 2 ^ 48))).set ((((8 : Int) * g8.1) + (2 : Int))).toNat (IntKind.u8.wrap (((x12 : Nat) : Int) / 2 ^ 40))).set ((((8 : Int) * g8.1) + (3 : Int))).toNat (IntKind.u8.wrap (((x12 : Nat) : Int) / 2 ^ 32))).set ((((8 : Int) * g8.1) + (4 : Int))).toNat (IntKind.u8.wrap (((x12 : Nat) : Int) / 2 ^ 24))).set ((((8 : Int) * g8.1) + (5 : Int))).toNat (IntKind.u8.wrap (((x12 : Nat) : Int) / 2 ^ 16))).set ((((8 : Int) * g8.1) + (6 : Int))).toNat (IntKind.u8.wrap (((x12 : Nat) : Int) / 2 ^ 8))).set ((((8 : Int) * g8.1) + (7 : Int))).toNat (IntKind.u8.wrap ((x12 : Nat) : Int)))), .dead, .dead, .fix 94 []]) (e' := [(0, .ifc 54 (.ptr 0 0)), (1, .ifc 94 (.d (e_TBinary_bigEndian TBinary_bigEndian.mk))), (7, .sl 3 1 0 ((((8 : Int) * ((a1.length : Nat) : Int))).toNat) ((((8 : Int) * ((a1.length : Nat) : Int))).toNat)), (16, .d (eS0 a1)), (17, .d (di .i64 ((a1.length : Nat) : Int))), (18, .d (di .i64 g8.1))]) (r := .tu []) rfl rfl rfl ?_
   change AO _ _ _ _ _
   refine AO.objs (obs' := [.fix 71 [.own 1, .d (di .i64 (0 : Int)), .d (di .i8 b0)], .grow 5 1 (List.map keS4 b1), .frame pv [(0, .ptr 0 0), (1, .own 1)], .fix 5 (List.map (fun z => SV.d (keS4 z)) ((((((((g8.2.set ((((8 : Int) * g8.1) + (0 : Int))).toNat (IntKind.u8.wrap (((x12 : Nat) : Int) / 2 ^ 56))).set ((((8 : Int) * g8.1) + (1 : Int))).toNat (IntKind.u8.wrap (((x12 : Nat) : Int) / 2 ^ 48))).set ((((8 : Int) * g8.1) + (2 : Int))).toNat (IntKind.u8.wrap (((x12 : Nat) : Int) / 2 ^ 40))).set ((((8 : Int) * g8.1) + (3 : Int))).toNat (IntKind.u8.wrap (((x12 : Nat) : Int) / 2 ^ 32))).set ((((8 : Int) * g8.1) + (4 : Int))).toNat (IntKind.u8.wrap (((x12 : Nat) : Int) / 2 ^ 24))).set ((((8 : Int) * g8.1) + (5 : Int))).toNat (IntKind.u8.wrap (((x12 : Nat) : Int) / 2 ^ 16))).set ((((8 : Int) * g8.1) + (6 : Int))).toNat (IntKind.u8.wrap (((x12 : Nat) : Int) / 2 ^ 8))).set ((((8 : Int) * g8.1) + (7 : Int))).toNat (IntKind.u8.wrap ((x12 : Nat) : Int)))), .dead, .dead, .fix 94 []]) rfl ?_
   refine AO.nil ?_
   change AC _ _ _ _
   refine AC.region ?_
   obtain ⟨q44, h1⟩ := need_elim h1
   refine AO.op rfl (AOp.iadd rfl rfl (ltb rfl) rfl rfl rfl q44.1 q44.2 ?_)
   refine AO.op rfl (AOp.move rfl rfl (ltb rfl) rfl ?_)
   refine AO.nil ?_
   exact ⟨((g8.1 + (1 : Int)), ((((((((g8.2.set ((((8 : Int) * g8.1) + (0 : Int))).toNat (IntKind.u8.wrap (((x12 : Nat) : Int) / 2 ^ 56))).set ((((8 : Int) * g8.1) + (1 : Int))).toNat (IntKind.u8.wrap (((x12 : Nat) : Int) / 2 ^ 48))).set ((((8 : Int) * g8.1) + (2 : Int))).toNat (IntKind.u8.wrap (((x12 : Nat) : Int) / 2 ^ 40))).set ((((8 : Int) * g8.1) + (3 : Int))).toNat (IntKind.u8.wrap (((x12 : Nat) : Int) / 2 ^ 32))).set ((((8 : Int) * g8.1) + (4 : Int))).toNat (IntKind.u8.wrap (((x12 : Nat) : Int) / 2 ^ 24))).set ((((8 : Int) * g8.1) + (5 : Int))).toNat (IntKind.u8.wrap (((x12 : Nat) : Int) / 2 ^ 16))).set ((((8 : Int) * g8.1) + (6 : Int))).toNat (IntKind.u8.wrap (((x12 : Nat) : Int) / 2 ^ 8))).set ((((8 : Int) * g8.1) + (7 : Int))).toNat (IntKind.u8.wrap ((x12 : Nat) : Int)))), _, rfl, (LeL.refl _), rfl, (okU_mk rfl (okU_cons rfl (okU_cons rfl (okU_cons rfl (okU_cons (okU_fixl (fun _ => rfl)) okU_nil))))), h1⟩
  replace h1 := cF h1 q11
  refine AC.exit ?_
  obtain rfl := Option.some.inj h1
  exact ⟨g8.2, _, rfl, (LeL.refl _), rfl, (okU_mk rfl (okU_cons rfl (okU_cons rfl (okU_cons rfl (okU_cons (okU_fixl (fun _ => rfl)) okU_nil))))), aftL h0⟩
 intro g5 h0
 unfold p_WriteFloatArray_bigEndian_k1 at h0
 change AC _ _ _ _
 refine AC.seq ?_
 refine AC.region ?_
 refine AO.op rfl (AOp.move rfl rfl (ltb rfl) rfl ?_)
 refine AO.op rfl (AOp.move rfl rfl (ltb rfl) rfl ?_)
 refine AO.subF 2 [0] rfl rfl ?_
 obtain ⟨q6, h0⟩ := need_elim h0
 obtain ⟨q7, h0⟩ := need_elim h0
 refine AO.op rfl (AOp.callW' (p := 0) (q := 1) (m := b1.length) (n := g5.length) (bs := (List.map keS4 b1)) (cs := (List.map keS4 g5)) (EntersS.meth (by kernel_rfl) rfl rfl rfl meth54_Write rfl rfl) bufW rfl (ltb rfl) rfl rfl (src_arr (f := keS4) rfl q6) rfl (isV_map (fun _ => rfl) _) (isV_map (fun _ => rfl) _) (one_map (fun _ => rfl) _) (one_map (fun _ => rfl) _) (len1 _ _) (len1 _ _) q7 (allNo (.cons rfl (.cons rfl (.cons rfl (.cons (noO2_fixl fun _ => rfl) .nil))))) rfl (cat1 _ _ _) ?_)
 refine AO.op rfl (AOp.move rfl rfl (ltb rfl) rfl ?_)
 first | refine AO.op rfl (AOp.extractD rfl rfl (ltb rfl) rfl rfl ?_) | refine AO.op rfl (AOp.extract rfl rfl (ltb rfl) rfl rfl ?_)
 first | refine AO.op rfl (AOp.extractD rfl rfl (ltb rfl) rfl rfl ?_) | refine AO.op rfl (AOp.extract rfl rfl (ltb rfl) rfl rfl ?_)
 refine AO.op rfl (AOp.assign rfl rfl (ltb rfl) rfl ?_)
 refine AO.op rfl (AOp.assign rfl rfl (ltb rfl) rfl ?_)
 refine AO.nil ?_
 change AC _ _ _ _
 refine AC.seq ?_
 refine AC.region ?_
 refine AO.op rfl (AOp.move rfl rfl (ltb rfl) rfl ?_)
 refine AO.op rfl (AOp.assign rfl rfl (ltb rfl) rfl ?_)
 refine AO.nil ?_
 change AC _ _ _ _
 obtain rfl := Option.some.inj h0
 refine AC.ret ?_
 change RetH _ _ _ _ _ _ .ret _
 refine reth (post := [.fix 71 [.own 1, .d (di .i64 (0 : Int)), .d (di .i8 (0 : Int))], .grow 5 1 (List.map keS4 (b1 ++ g5))]) rfl rfl rfl rfl rfl ?_
 exact ⟨rfl, rfl⟩

def RH_WriteFlatCoords1_bigEndian : (Int × (List Int)) → SV → List Ob → Prop
 | z => fun r post => r = .d (.v (.nilIface)) ∧ post = [.fix 71 [.own 1, .d (di .i64 (0 : Int)), .d (di .i8 z.1)], .grow 5 1 (List.map keS4 z.2)]
set_option maxRecDepth 100000 in
set_option maxHeartbeats 4000000 in
/-- pub-orthodrome/pub/gogeom/encoding/wkbcommon.WriteFlatCoords1 -/
theorem wh_WriteFlatCoords1_bigEndian (F : Nat) (a0 : TBinary_bigEndian) (a1 : (List Nat)) (a2 : Int) (b0 : Int) (b1 : (List Int)) (r0 : (Int × (List Int))) (h0 : p_WriteFlatCoords1_bigEndian F a0 a1 a2 b0 b1 = some r0) : FnH Tryd.prog 43 [.ifc 54 (.ptr 0 0), .ifc 94 (.d (e_TBinary_bigEndian TBinary_bigEndian.mk)), .d (eS0 a1), .d (di .i64 a2)] [.fix 71 [.own 1, .d (di .i64 (0 : Int)), .d (di .i8 b0)], .grow 5 1 (List.map keS4 b1)] [0] (RH_WriteFlatCoords1_bigEndian r0) := by
 refine FnH.of (by kernel_rfl) Tryd.func43 rfl Tryd.ntmps43 rfl (leb rfl) fun W ok may pv => ?_
 unfold p_WriteFlatCoords1_bigEndian at h0
 refine AC.seq ?_
 refine AC.region ?_
 refine AO.op rfl (AOp.assign rfl rfl (ltb rfl) rfl ?_)
 refine AO.nil ?_
 change AC _ _ _ _
 refine AC.seq ?_
 refine AC.seq ?_
 refine AC.region ?_
 refine AO.op rfl (AOp.move rfl rfl (ltb rfl) rfl ?_)
 refine AO.op rfl (AOp.move rfl rfl (ltb rfl) rfl ?_)
 refine AO.op rfl (AOp.move rfl rfl (ltb rfl) rfl ?_)
 refine AO.op rfl (AOp.lenDs (n := a1.length) (cells := (List.map keS0 a1)) rfl rfl (ltb rfl) rfl el24 (by decide) (len1 _ _) ?_)
 refine AO.op rfl (AOp.move rfl rfl (ltb rfl) rfl ?_)
 obtain ⟨q1, h0⟩ := need_elim h0
 refine AO.op rfl (AOp.iquo rfl rfl (ltb rfl) rfl rfl q1.1 rfl q1.2.1 q1.2.2 ?_)
 refine AO.op rfl (AOp.i2i rfl rfl (ltb rfl) rfl Tryd.underlying3 Tryd.underlying43 rfl ?_)
 refine AO.subF 2 [0] rfl rfl ?_
 obtain ⟨y2, q3, h0⟩ := bind_elim h0
 refine AO.op rfl (AOp.callH (ys := [.ifc 54 (.ptr 0 0), .ifc 94 (.d (e_TBinary_bigEndian TBinary_bigEndian.mk)), .d (di .u32 (IntKind.u32.wrap (Int.tdiv ((a1.length : Nat) : Int) a2)))]) (hs := [0, 1]) (pins := [0]) (unp := [1]) (pre := [.fix 71 [.own 1, .d (di .i64 (0 : Int)), .d (di .i8 b0)], .grow 5 1 (List.map keS4 b1)]) (EntersS.call (by kernel_rfl) rfl rfl) (wh_WriteUInt32_bigEndian TBinary_bigEndian.mk (IntKind.u32.wrap (Int.tdiv ((a1.length : Nat) : Int) a2)) b0 b1 _ q3) (ltb rfl) (.cons (SVLe.refl _) (.cons (SVLe.refl _) (.cons (SVLe.refl _) .nil))) rfl rfl rfl (.cons rfl (.cons rfl .nil)) (.cons ⟨rfl, rfl⟩ (.cons ⟨rfl, rfl⟩ .nil)) rfl (.cons (.inl rfl) (.cons (.inl rfl) (.cons (.inr rfl) .nil))) rfl ?_)
 rintro _ _ ⟨rfl, rfl⟩
 refine ⟨.d (.v (.nilIface)), [.fix 71 [.own 1, .d (di .i64 (0 : Int)), .d (di .i8 y2.1)], .grow 5 1 (List.map keS4 y2.2)], rfl, (.cons rfl (.cons rfl .nil)), ?_⟩
 refine AO.objs (obs' := [.fix 71 [.own 1, .d (di .i64 (0 : Int)), .d (di .i8 y2.1)], .grow 5 1 (List.map keS4 y2.2), .frame pv [(0, .ptr 0 0)]]) rfl ?_
 refine AO.op rfl (AOp.assign rfl rfl (ltb rfl) rfl ?_)
 refine AO.nil ?_
 change AC _ _ _ _
 refine AC.seq ?_
 refine AC.region ?_
 refine AO.op rfl (AOp.move rfl rfl (ltb rfl) rfl ?_)
 refine AO.op rfl (AOp.nilNeq rfl rfl (ltb rfl) rfl imeth57 ?_)
 refine AO.nil ?_
 change AC _ _ _ _
 refine AC.condF rfl rfl ?_
 refine AC.skip ?_
 change AC _ _ _ _
 refine AC.seq ?_
 refine AC.region ?_
 refine AO.op rfl (AOp.move rfl rfl (ltb rfl) rfl ?_)
 refine AO.op rfl (AOp.move rfl rfl (ltb rfl) rfl ?_)
 refine AO.op rfl (AOp.move rfl rfl (ltb rfl) rfl ?_)
 obtain ⟨y5, q6, h0⟩ := bind_elim h0
 refine AO.op rfl (AOp.callH (ys := [.ifc 54 (.ptr 0 0), .ifc 94 (.d (e_TBinary_bigEndian TBinary_bigEndian.mk)), .d (eS0 a1)]) (hs := [0, 1]) (pins := [0]) (unp := [1]) (pre := [.fix 71 [.own 1, .d (di .i64 (0 : Int)), .d (di .i8 y2.1)], .grow 5 1 (List.map keS4 y2.2)]) (EntersS.call (by kernel_rfl) rfl rfl) (wh_WriteFloatArray_bigEndian F TBinary_bigEndian.mk a1 y2.1 y2.2 _ q6) (ltb rfl) (.cons (SVLe.refl _) (.cons (SVLe.refl _) (.cons (SVLe.refl _) .nil))) rfl rfl rfl (.cons rfl (.cons rfl .nil)) (.cons ⟨rfl, rfl⟩ (.cons ⟨rfl, rfl⟩ .nil)) rfl (.cons (.inl rfl) (.cons (.inl rfl) (.cons (.inr rfl) .nil))) rfl ?_)
 rintro _ _ ⟨rfl, rfl⟩
 refine ⟨.d (.v (.nilIface)), [.fix 71 [.own 1, .d (di .i64 (0 : Int)), .d (di .i8 y5.1)], .grow 5 1 (List.map keS4 y5.2)], rfl, (.cons rfl (.cons rfl .nil)), ?_⟩
 refine AO.objs (obs' := [.fix 71 [.own 1, .d (di .i64 (0 : Int)), .d (di .i8 y5.1)], .grow 5 1 (List.map keS4 y5.2), .frame pv [(0, .ptr 0 0)]]) rfl ?_
 refine AO.op rfl (AOp.assign rfl rfl (ltb rfl) rfl ?_)
 refine AO.nil ?_
 change AC _ _ _ _
 obtain rfl := Option.some.inj h0
 refine AC.ret ?_
 change RetH _ _ _ _ _ _ .ret _
 refine reth (post := [.fix 71 [.own 1, .d (di .i64 (0 : Int)), .d (di .i8 y5.1)], .grow 5 1 (List.map keS4 y5.2)]) rfl rfl rfl rfl rfl ?_
 exact ⟨rfl, rfl⟩

def RH_WriteFlatCoords2_bigEndian : (Int × (List Int)) → SV → List Ob → Prop
 | z => fun r post => r = .d (.v (.nilIface)) ∧ post = [.fix 71 [.own 1, .d (di .i64 (0 : Int)), .d (di .i8 z.1)], .grow 5 1 (List.map keS4 z.2)]
set_option maxRecDepth 100000 in
set_option maxHeartbeats 4000000 in
/-- pub-orthodrome/pub/gogeom/encoding/wkbcommon.WriteFlatCoords2 -/
theorem wh_WriteFlatCoords2_bigEndian (F : Nat) (a0 : TBinary_bigEndian) (a1 : (List Nat)) (a2 : (List Int)) (a3 : Int) (b0 : Int) (b1 : (List Int)) (r0 : (Int × (List Int))) (h0 : p_WriteFlatCoords2_bigEndian F a0 a1 a2 a3 b0 b1 = some r0) : FnH Tryd.prog 28 [.ifc 54 (.ptr 0 0), .ifc 94 (.d (e_TBinary_bigEndian TBinary_bigEndian.mk)), .d (eS0 a1), .d (eS1 a2), .d (di .i64 a3)] [.fix 71 [.own 1, .d (di .i64 (0 : Int)), .d (di .i8 b0)], .grow 5 1 (List.map keS4 b1)] [0] (RH_WriteFlatCoords2_bigEndian r0) := by
 refine FnH.of (by kernel_rfl) Tryd.func28 rfl Tryd.ntmps28 rfl (leb rfl) fun W ok may pv => ?_
 unfold p_WriteFlatCoords2_bigEndian at h0
 refine AC.seq ?_
 refine AC.region ?_
 refine AO.op rfl (AOp.assign rfl rfl (ltb rfl) rfl ?_)
 refine AO.nil ?_
 change AC _ _ _ _
 refine AC.seq ?_
 refine AC.seq ?_
 refine AC.region ?_
 refine AO.op rfl (AOp.move rfl rfl (ltb rfl) rfl ?_)
 refine AO.op rfl (AOp.move rfl rfl (ltb rfl) rfl ?_)
 refine AO.op rfl (AOp.move rfl rfl (ltb rfl) rfl ?_)
 refine AO.op rfl (AOp.lenDs (n := a2.length) (cells := (List.map keS1 a2)) rfl rfl (ltb rfl) rfl el31 (by decide) (len1 _ _) ?_)
 refine AO.op rfl (AOp.i2i rfl rfl (ltb rfl) rfl Tryd.underlying3 Tryd.underlying43 rfl ?_)
 refine AO.subF 2 [0] rfl rfl ?_
 obtain ⟨y1, q2, h0⟩ := bind_elim h0
 refine AO.op rfl (AOp.callH (ys := [.ifc 54 (.ptr 0 0), .ifc 94 (.d (e_TBinary_bigEndian TBinary_bigEndian.mk)), .d (di .u32 (IntKind.u32.wrap ((a2.length : Nat) : Int)))]) (hs := [0, 1]) (pins := [0]) (unp := [1]) (pre := [.fix 71 [.own 1, .d (di .i64 (0 : Int)), .d (di .i8 b0)], .grow 5 1 (List.map keS4 b1)]) (EntersS.call (by kernel_rfl) rfl rfl) (wh_WriteUInt32_bigEndian TBinary_bigEndian.mk (IntKind.u32.wrap ((a2.length : Nat) : Int)) b0 b1 _ q2) (ltb rfl) (.cons (SVLe.refl _) (.cons (SVLe.refl _) (.cons (SVLe.refl _) .nil))) rfl rfl rfl (.cons rfl (.cons rfl .nil)) (.cons ⟨rfl, rfl⟩ (.cons ⟨rfl, rfl⟩ .nil)) rfl (.cons (.inl rfl) (.cons (.inl rfl) (.cons (.inr rfl) .nil))) rfl ?_)
 rintro _ _ ⟨rfl, rfl⟩
 refine ⟨.d (.v (.nilIface)), [.fix 71 [.own 1, .d (di .i64 (0 : Int)), .d (di .i8 y1.1)], .grow 5 1 (List.map keS4 y1.2)], rfl, (.cons rfl (.cons rfl .nil)), ?_⟩
 refine AO.objs (obs' := [.fix 71 [.own 1, .d (di .i64 (0 : Int)), .d (di .i8 y1.1)], .grow 5 1 (List.map keS4 y1.2), .frame pv [(0, .ptr 0 0)]]) rfl ?_
 refine AO.op rfl (AOp.assign rfl rfl (ltb rfl) rfl ?_)
 refine AO.nil ?_
 change AC _ _ _ _
 refine AC.seq ?_
 refine AC.region ?_
 refine AO.op rfl (AOp.move rfl rfl (ltb rfl) rfl ?_)
 refine AO.op rfl (AOp.nilNeq rfl rfl (ltb rfl) rfl imeth57 ?_)
 refine AO.nil ?_
 change AC _ _ _ _
 refine AC.condF rfl rfl ?_
 refine AC.skip ?_
 change AC _ _ _ _
 refine AC.seq ?_
 refine AC.region ?_
 refine AO.op rfl (AOp.assign rfl rfl (ltb rfl) rfl ?_)
 refine AO.nil ?_
 change AC _ _ _ _
 refine AC.seq ?_
 refine AC.seq ?_
 refine AC.region ?_
 refine AO.op rfl (AOp.move rfl rfl (ltb rfl) rfl ?_)
 refine AO.op rfl (AOp.lenDs (n := a2.length) (cells := (List.map keS1 a2)) rfl rfl (ltb rfl) rfl el31 (by decide) (len1 _ _) ?_)
 refine AO.op rfl (AOp.move rfl rfl (ltb rfl) rfl ?_)
 refine AO.nil ?_
 change AC _ _ _ _
 obtain ⟨o4, l5, h0⟩ := bind_elim h0
 refine AC.joinE (V := (Int × (List Int))) [] [] 3 (fun g6 => []) (fun g6 => [.fix 71 [.own 1, .d (di .i64 (0 : Int)), .d (di .i8 g6.1)], .grow 5 1 (List.map keS4 g6.2), .frame pv [(0, .ptr 0 0)]]) (fun g6 => p_WriteFlatCoords2_bigEndian_k1 g6 = some r0) rfl ?_ ?_
 ·refine AC.block ?_
  refine AC.loopP (V := (Int × Int × Int × (List Int))) (p_WriteFlatCoords2_bigEndian_l2 a1 a2 a3 F) o4 [0, 1, 2, 4, 25, 26] [12, 27] 3 (fun g7 => [(12, .d (di .i64 g7.1)), (27, .d (di .i64 g7.2.1))]) (fun g7 => [.fix 71 [.own 1, .d (di .i64 (0 : Int)), .d (di .i8 g7.2.2.1)], .grow 5 1 (List.map keS4 g7.2.2.2), .frame pv [(0, .ptr 0 0)]]) F ((0 : Int), (0 : Int), y1.1, y1.2) l5 rfl rfl (LeL.refl _) rfl rfl ?_
  intro n9 g7 h1
  unfold p_WriteFlatCoords2_bigEndian_l2 at h1
  refine AC.seq ?_
  refine AC.region ?_
  refine AO.op rfl (AOp.ilss rfl rfl (ltb rfl) rfl rfl ?_)
  refine AO.nil ?_
  change AC _ _ _ _
  refine AC.seq ?_
  refine AC.cond rfl (fun q10 => ?_) (fun q10 => ?_)
  ·replace h1 := cT h1 q10
   refine AC.skip ?_
   change AC _ _ _ _
   refine AC.seq ?_
   refine AC.block ?_
   refine AC.seq ?_
   refine AC.region ?_
   obtain ⟨x11, q12, h1⟩ := idx_elim h1
   refine AO.op rfl (AOp.indexDs (cells := (List.map keS1 a2)) rfl rfl (ltb rfl) rfl rfl el31 (by decide) q12.1 (lt1 q12.2) ?_)
   refine AO.op rfl (AOp.loadEp rfl rfl (ltb rfl) rfl agg3 (at1 q12.2) ?_)
   refine AO.op rfl (AOp.assign rfl rfl (ltb rfl) rfl ?_)
   refine AO.nil ?_
   change AC _ _ _ _
   refine AC.seq ?_
   refine AC.seq ?_
   refine AC.region ?_
   refine AO.op rfl (AOp.move rfl rfl (ltb rfl) rfl ?_)
   refine AO.op rfl (AOp.move rfl rfl (ltb rfl) rfl ?_)
   refine AO.op rfl (AOp.move rfl rfl (ltb rfl) rfl ?_)
   refine AO.op rfl (AOp.move rfl rfl (ltb rfl) rfl ?_)
   refine AO.op rfl (AOp.move rfl rfl (ltb rfl) rfl ?_)
   obtain ⟨q13, h1⟩ := need_elim h1
   refine AO.op rfl (AOp.sliceD (cells := (List.map keS0 a1)) (n := a1.length) (l := (g7.1).toNat) (hh := (x11).toNat) rfl rfl (ltb rfl) rfl (.inr ⟨_, _, _, rfl, rfl, q13.1.1, rfl⟩) (.inr ⟨_, _, _, rfl, rfl, q13.1.2, rfl⟩) el24 (by decide) (len1 _ _) q13.2.1 q13.2.2 (sub1 _ _ _ _) ?_)
   refine AO.op rfl (AOp.move rfl rfl (ltb rfl) rfl ?_)
   obtain ⟨y14, q15, h1⟩ := bind_elim h1
   refine AO.op rfl (AOp.callH (ys := [.ifc 54 (.ptr 0 0), .ifc 94 (.d (e_TBinary_bigEndian TBinary_bigEndian.mk)), .d (eS0 ((a1.drop (g7.1).toNat).take ((x11).toNat - (g7.1).toNat))), .d (di .i64 a3)]) (hs := [0, 1]) (pins := [0]) (unp := [1]) (pre := [.fix 71 [.own 1, .d (di .i64 (0 : Int)), .d (di .i8 g7.2.2.1)], .grow 5 1 (List.map keS4 g7.2.2.2)]) (EntersS.call (by kernel_rfl) rfl rfl) (wh_WriteFlatCoords1_bigEndian F TBinary_bigEndian.mk ((a1.drop (g7.1).toNat).take ((x11).toNat - (g7.1).toNat)) a3 g7.2.2.1 g7.2.2.2 _ q15) (ltb rfl) (.cons (SVLe.refl _) (.cons (SVLe.refl _) (.cons (SVLe.refl _) (.cons (SVLe.refl _) .nil)))) rfl rfl rfl (.cons rfl (.cons rfl .nil)) (.cons ⟨rfl, rfl⟩ (.cons ⟨rfl, rfl⟩ .nil)) rfl (.cons (.inl rfl) (.cons (.inl rfl) (.cons (.inr rfl) .nil))) rfl ?_)
   rintro _ _ ⟨rfl, rfl⟩
   refine ⟨.d (.v (.nilIface)), [.fix 71 [.own 1, .d (di .i64 (0 : Int)), .d (di .i8 y14.1)], .grow 5 1 (List.map keS4 y14.2)], rfl, (.cons rfl (.cons rfl .nil)), ?_⟩
   refine AO.objs (obs' := [.fix 71 [.own 1, .d (di .i64 (0 : Int)), .d (di .i8 y14.1)], .grow 5 1 (List.map keS4 y14.2), .frame pv [(0, .ptr 0 0)]]) rfl ?_
   refine AO.op rfl (AOp.assign rfl rfl (ltb rfl) rfl ?_)
   refine AO.nil ?_
   change AC _ _ _ _
   refine AC.seq ?_
   refine AC.region ?_
   refine AO.op rfl (AOp.move rfl rfl (ltb rfl) rfl ?_)
   refine AO.op rfl (AOp.nilNeq rfl rfl (ltb rfl) rfl imeth57 ?_)
   refine AO.nil ?_
   change AC _ _ _ _
   refine AC.condF rfl rfl ?_
   refine AC.skip ?_
   change AC _ _ _ _
   refine AC.region ?_
   refine AO.op rfl (AOp.move rfl rfl (ltb rfl) rfl ?_)
   refine AO.op rfl (AOp.assign rfl rfl (ltb rfl) rfl ?_)
   refine AO.nil ?_
   change AC _ _ _ _
   refine AC.region ?_
   obtain ⟨q17, h1⟩ := need_elim h1
   refine AO.op rfl (AOp.iadd rfl rfl (ltb rfl) rfl rfl rfl q17.1 q17.2 ?_)
   refine AO.op rfl (AOp.move rfl rfl (ltb rfl) rfl ?_)
   refine AO.nil ?_
   exact ⟨(x11, (g7.2.1 + (1 : Int)), y14.1, y14.2), _, rfl, (LeL.refl _), rfl, rfl, h1⟩
  replace h1 := cF h1 q10
  refine AC.exit ?_
  obtain rfl := Option.some.inj h1
  exact ⟨(g7.2.2.1, g7.2.2.2), _, rfl, (LeL.refl _), rfl, rfl, aftL h0⟩
 intro g6 h0
 unfold p_WriteFlatCoords2_bigEndian_k1 at h0
 change AC _ _ _ _
 refine AC.seq ?_
 refine AC.region ?_
 refine AO.op rfl (AOp.assign rfl rfl (ltb rfl) rfl ?_)
 refine AO.nil ?_
 change AC _ _ _ _
 obtain rfl := Option.some.inj h0
 refine AC.ret ?_
 change RetH _ _ _ _ _ _ .ret _
 refine reth (post := [.fix 71 [.own 1, .d (di .i64 (0 : Int)), .d (di .i8 g6.1)], .grow 5 1 (List.map keS4 g6.2)]) rfl rfl rfl rfl rfl ?_
 exact ⟨rfl, rfl⟩

set_option maxRecDepth 100000 in
set_option maxHeartbeats 4000000 in
/-- (*bytes.Buffer).Bytes -/
theorem w_Buffer_Bytes (a0 : TBytes_Buffer) (r0 : (List Int)) (h0 : p_Buffer_Bytes a0 = some r0) : FnD Tryd.prog 29 [.pt (c_TBytes_Buffer a0)] (fun r => r = eS4 r0) := by
 refine FnD.of (by kernel_rfl) Tryd.func29 rfl Tryd.ntmps29 rfl (leb rfl) fun W ok => ?_
 unfold p_Buffer_Bytes at h0
 refine AC.seq ?_
 refine AC.region ?_
 refine AO.op rfl (AOp.assign rfl rfl (ltb rfl) rfl ?_)
 refine AO.nil ?_
 change AC _ _ _ _
 refine AC.seq ?_
 refine AC.draw 10 mixed (by kernel_rfl) ?_
 refine AD.op [0] rfl (by kernel_rfl) rfl rfl (fun _ _ h => AOp.move rfl rfl (ltb rfl) rfl h) ?_
 refine AD.op [3] rfl (by kernel_rfl) rfl rfl (fun _ _ h => AOp.nilCheck rfl rfl (ltb rfl) rfl rfl h) ?_
 refine AD.op [4] rfl (by kernel_rfl) rfl rfl (fun _ _ h => AOp.fieldAddrPt rfl rfl (ltb rfl) rfl fo71_0 h) ?_
 refine AD.op [5] rfl (by kernel_rfl) rfl rfl (fun _ _ h => AOp.loadEp rfl rfl (ltb rfl) rfl agg22 rfl h) ?_
 refine AD.op [0] rfl (by kernel_rfl) rfl rfl (fun _ _ h => AOp.move rfl rfl (ltb rfl) rfl h) ?_
 refine AD.op [7] rfl (by kernel_rfl) rfl rfl (fun _ _ h => AOp.nilCheck rfl rfl (ltb rfl) rfl rfl h) ?_
 refine AD.op [8] rfl (by kernel_rfl) rfl rfl (fun _ _ h => AOp.fieldAddrPt rfl rfl (ltb rfl) rfl fo71_1 h) ?_
 refine AD.op [9] rfl (by kernel_rfl) rfl rfl (fun _ _ h => AOp.loadEp rfl rfl (ltb rfl) rfl agg3 rfl h) ?_
 obtain ⟨q1, h0⟩ := need_elim h0
 refine AD.op [6, 10] rfl (by kernel_rfl) rfl rfl (fun _ _ h => AOp.sliceD (cells := (List.map keS4 a0.buf)) (n := a0.buf.length) (l := (a0.off).toNat) (hh := a0.buf.length) rfl rfl (ltb rfl) rfl (.inr ⟨_, _, _, rfl, rfl, q1.1.1, rfl⟩) (.inl ⟨rfl, rfl⟩) el22 (by decide) (len1 _ _) q1.2.1 q1.2.2 (sub1 _ _ _ _) h) ?_
 refine AD.op [11] rfl (by kernel_rfl) rfl rfl (fun _ _ h => AOp.assign rfl rfl (ltb rfl) rfl h) ?_
 refine AD.done ?_
 refine AO.nil ?_
 change AC _ _ _ _
 refine AC.ret ?_
 change RetQ _ _ _ .ret _
 obtain rfl := Option.some.inj h0
 refine retq rfl rfl

def RH_WriteUInt32_littleEndian : (Int × (List Int)) → SV → List Ob → Prop
 | z => fun r post => r = .d (.v (.nilIface)) ∧ post = [.fix 71 [.own 1, .d (di .i64 (0 : Int)), .d (di .i8 z.1)], .grow 5 1 (List.map keS4 z.2)]
set_option maxRecDepth 100000 in
set_option maxHeartbeats 4000000 in
/-- pub-orthodrome/pub/gogeom/encoding/wkbcommon.WriteUInt32 -/
theorem wh_WriteUInt32_littleEndian (a0 : TBinary_bigEndian) (a1 : Int) (b0 : Int) (b1 : (List Int)) (r0 : (Int × (List Int))) (h0 : p_WriteUInt32_littleEndian a0 a1 b0 b1 = some r0) : FnH Tryd.prog 42 [.ifc 54 (.ptr 0 0), .ifc 95 (.d (e_TBinary_bigEndian TBinary_bigEndian.mk)), .d (di .u32 a1)] [.fix 71 [.own 1, .d (di .i64 (0 : Int)), .d (di .i8 b0)], .grow 5 1 (List.map keS4 b1)] [0] (RH_WriteUInt32_littleEndian r0) := by
 refine FnH.of (by kernel_rfl) Tryd.func42 rfl Tryd.ntmps42 rfl (leb rfl) fun W ok may pv => ?_
 unfold p_WriteUInt32_littleEndian at h0
 refine AC.seq ?_
 refine AC.region ?_
 refine AO.op rfl (AOp.assign rfl rfl (ltb rfl) rfl ?_)
 refine AO.nil ?_
 change AC _ _ _ _
 refine AC.seq ?_
 refine AC.region ?_
 refine AO.op rfl (AOp.alloc rfl rfl (ltb rfl) zero102 rfl ?_)
 refine AO.nil ?_
 change AC _ _ _ _
 refine AC.seq ?_
 refine AC.draw 6 mixed (by kernel_rfl) ?_
 refine AD.op [1] rfl (by kernel_rfl) rfl rfl (fun _ _ h => AOp.move rfl rfl (ltb rfl) rfl h) ?_
 refine AD.op [7] rfl (by kernel_rfl) rfl rfl (fun _ _ h => AOp.sliceArr rfl rfl (ltb rfl) rfl ar102 ⟨_, _, rfl⟩ h) ?_
 refine AD.op [2] rfl (by kernel_rfl) rfl rfl (fun _ _ h => AOp.move rfl rfl (ltb rfl) rfl h) ?_
 refine AD.op [10] rfl (by kernel_rfl) rfl rfl (fun _ _ h => AOp.makeMeth rfl rfl (ltb rfl) rfl h) ?_
 refine AD.op [13] rfl (by kernel_rfl) rfl rfl (fun _ _ h => AOp.nilMeth rfl rfl (ltb rfl) rfl rfl nilm95_PutUint32 h) ?_
 refine AD.op [10] rfl (by kernel_rfl) rfl rfl (fun _ _ h => AOp.move rfl rfl (ltb rfl) rfl h) ?_
 refine AD.done ?_
 refine AO.op rfl (AOp.inlE [0, 7] (EntersS.meth (by kernel_rfl) rfl rfl rfl meth95_PutUint32 rfl rfl) Tryd.func91 rfl Tryd.ntmps91 rfl (ltb rfl) (leb rfl) rfl ?_)
 intro fr1
 refine AC.seq ?_
 refine AC.region ?_
 refine AO.op rfl (AOp.box rfl rfl (ltb rfl) rfl rfl ?_)
 refine AO.objs (obs' := [.fix 71 [.own 1, .d (di .i64 (0 : Int)), .d (di .i8 b0)], .grow 5 1 (List.map keS4 b1), .frame pv [(0, .ptr 0 0), (1, .own 1)], .fix 102 (List.map (fun z => SV.d (keS4 z)) [(0 : Int), (0 : Int), (0 : Int), (0 : Int)]), .frame fr1 [(0, .ifc 54 (.ptr 0 0)), (7, .ptr 3 0)], .fix 95 []]) rfl ?_
 refine AO.nil ?_
 change AC _ _ _ _
 refine AC.seq ?_
 refine AC.region ?_
 refine AO.op rfl (AOp.move rfl rfl (ltb rfl) rfl ?_)
 obtain ⟨q2, h0⟩ := need_elim h0
 refine AO.op rfl (AOp.indexSl rfl rfl (ltb rfl) rfl rfl el22 q2.1 q2.2 ?_)
 obtain ⟨x3, q4, h0⟩ := idx_elim h0
 refine AO.op rfl (AOp.load1 rfl rfl (ltb rfl) rfl agg5 rfl (atO (f := fun z => SV.d (keS4 z)) q4.2) ?_)
 refine AO.nil ?_
 change AC _ _ _ _
 refine AC.seq ?_
 refine AC.region ?_
 refine AO.op rfl (AOp.move rfl rfl (ltb rfl) rfl ?_)
 refine AO.op rfl (AOp.move rfl rfl (ltb rfl) rfl ?_)
 refine AO.op rfl (AOp.i2i rfl rfl (ltb rfl) rfl Tryd.underlying43 Tryd.underlying5 rfl ?_)
 obtain ⟨q5, h0⟩ := need_elim h0
 refine AO.op rfl (AOp.indexSl rfl rfl (ltb rfl) rfl rfl el22 q5.1 q5.2 ?_)
 obtain ⟨q6, h0⟩ := need_elim h0
 refine AO.op rfl (AOp.storeL (f := fun z => SV.d (keS4 z)) (l := [(0 : Int), (0 : Int), (0 : Int), (0 : Int)]) (i := ((0 : Int)).toNat) (v := (IntKind.u8.wrap a1)) rfl rfl rfl rfl size5 rfl rfl rfl q6 ?_)
 refine AO.nil ?_
 change AC _ _ _ _
 refine AC.seq ?_
 refine AC.region ?_
 refine AO.op rfl (AOp.move rfl rfl (ltb rfl) rfl ?_)
 refine AO.op rfl (AOp.move rfl rfl (ltb rfl) rfl ?_)
 obtain ⟨q7, h0⟩ := need_elim h0
 refine AO.op rfl (AOp.ishr (n := 8) rfl rfl (ltb rfl) rfl rfl (by decide) q7 rfl ?_)
 refine AO.op rfl (AOp.i2i rfl rfl (ltb rfl) rfl Tryd.underlying43 Tryd.underlying5 rfl ?_)
 obtain ⟨q8, h0⟩ := need_elim h0
 refine AO.op rfl (AOp.indexSl rfl rfl (ltb rfl) rfl rfl el22 q8.1 q8.2 ?_)
 obtain ⟨q9, h0⟩ := need_elim h0
 refine AO.op rfl (AOp.storeL (f := fun z => SV.d (keS4 z)) (l := ([(0 : Int), (0 : Int), (0 : Int), (0 : Int)].set ((0 : Int)).toNat (IntKind.u8.wrap a1))) (i := ((1 : Int)).toNat) (v := (IntKind.u8.wrap (a1 / 2 ^ 8))) rfl rfl rfl rfl size5 rfl rfl rfl q9 ?_)
 refine AO.nil ?_
 change AC _ _ _ _
 refine AC.seq ?_
 refine AC.region ?_
 refine AO.op rfl (AOp.move rfl rfl (ltb rfl) rfl ?_)
 refine AO.op rfl (AOp.move rfl rfl (ltb rfl) rfl ?_)
 obtain ⟨q10, h0⟩ := need_elim h0
 refine AO.op rfl (AOp.ishr (n := 16) rfl rfl (ltb rfl) rfl rfl (by decide) q10 rfl ?_)
 refine AO.op rfl (AOp.i2i rfl rfl (ltb rfl) rfl Tryd.underlying43 Tryd.underlying5 rfl ?_)
 obtain ⟨q11, h0⟩ := need_elim h0
 refine AO.op rfl (AOp.indexSl rfl rfl (ltb rfl) rfl rfl el22 q11.1 q11.2 ?_)
 obtain ⟨q12, h0⟩ := need_elim h0
 refine AO.op rfl (AOp.storeL (f := fun z => SV.d (keS4 z)) (l := (([(0 : Int), (0 : Int), (0 : Int), (0 : Int)].set ((0 : Int)).toNat (IntKind.u8.wrap a1)).set ((1 : Int)).toNat (IntKind.u8.wrap (a1 / 2 ^ 8)))) (i := ((2 : Int)).toNat) (v := (IntKind.u8.wrap (a1 / 2 ^ 16))) rfl rfl rfl rfl size5 rfl rfl rfl q12 ?_)
 refine AO.nil ?_
 change AC _ _ _ _
 refine AC.region ?_
 refine AO.op rfl (AOp.move rfl rfl (ltb rfl) rfl ?_)
 refine AO.op rfl (AOp.move rfl rfl (ltb rfl) rfl ?_)
 obtain ⟨q13, h0⟩ := need_elim h0
 refine AO.op rfl (AOp.ishr (n := 24) rfl rfl (ltb rfl) rfl rfl (by decide) q13 rfl ?_)
 refine AO.op rfl (AOp.i2i rfl rfl (ltb rfl) rfl Tryd.underlying43 Tryd.underlying5 rfl ?_)
 obtain ⟨q14, h0⟩ := need_elim h0
 refine AO.op rfl (AOp.indexSl rfl rfl (ltb rfl) rfl rfl el22 q14.1 q14.2 ?_)
 obtain ⟨q15, h0⟩ := need_elim h0
 refine AO.op rfl (AOp.storeL (f := fun z => SV.d (keS4 z)) (l := ((([(0 : Int), (0 : Int), (0 : Int), (0 : Int)].set ((0 : Int)).toNat (IntKind.u8.wrap a1)).set ((1 : Int)).toNat (IntKind.u8.wrap (a1 / 2 ^ 8))).set ((2 : Int)).toNat (IntKind.u8.wrap (a1 / 2 ^ 16)))) (i := ((3 : Int)).toNat) (v := (IntKind.u8.wrap (a1 / 2 ^ 24))) rfl rfl rfl rfl size5 rfl rfl rfl q15 ?_)
 refine AO.nil ?_
 refine inlend (ob' := [.fix 71 [.own 1, .d (di .i64 (0 : Int)), .d (di .i8 b0)], .grow 5 1 (List.map keS4 b1), .frame pv [(0, .ptr 0 0), (1, .own 1)], .fix 102 (List.map (fun z => SV.d (keS4 z)) (((([(0 : Int), (0 : Int), (0 : Int), (0 : Int)].set ((0 : Int)).toNat (IntKind.u8.wrap a1)).set ((1 : Int)).toNat (IntKind.u8.wrap (a1 / 2 ^ 8))).set ((2 : Int)).toNat (IntKind.u8.wrap (a1 / 2 ^ 16))).set ((3 : Int)).toNat (IntKind.u8.wrap (a1 / 2 ^ 24)))), .dead, .fix 95 []]) (e' := [(0, .ifc 54 (.ptr 0 0)), (7, .ptr 3 0)]) (r := .tu []) rfl rfl rfl ?_
 change AO _ _ _ _ _
 refine AO.objs (obs' := [.fix 71 [.own 1, .d (di .i64 (0 : Int)), .d (di .i8 b0)], .grow 5 1 (List.map keS4 b1), .frame pv [(0, .ptr 0 0), (1, .own 1)], .fix 102 (List.map (fun z => SV.d (keS4 z)) (((([(0 : Int), (0 : Int), (0 : Int), (0 : Int)].set ((0 : Int)).toNat (IntKind.u8.wrap a1)).set ((1 : Int)).toNat (IntKind.u8.wrap (a1 / 2 ^ 8))).set ((2 : Int)).toNat (IntKind.u8.wrap (a1 / 2 ^ 16))).set ((3 : Int)).toNat (IntKind.u8.wrap (a1 / 2 ^ 24)))), .dead, .fix 95 []]) rfl ?_
 refine AO.nil ?_
 change AC _ _ _ _
 refine AC.seq ?_
 refine AC.drawC 5 mixed (by kernel_rfl) rfl ?_
 refine AD.op [0] rfl (by kernel_rfl) rfl rfl (fun _ _ h => AOp.move rfl rfl (ltb rfl) rfl h) ?_
 refine AD.op [7] rfl (by kernel_rfl) rfl rfl (fun _ _ h => AOp.sliceArr rfl rfl (ltb rfl) rfl ar102 ⟨_, _, rfl⟩ h) ?_
 refine AD.op [18] rfl (by kernel_rfl) rfl rfl (fun _ _ h => AOp.makeMeth rfl rfl (ltb rfl) rfl h) ?_
 refine AD.op [20] rfl (by kernel_rfl) rfl rfl (fun _ _ h => AOp.nilMeth rfl rfl (ltb rfl) rfl rfl nilm54_Write h) ?_
 refine AD.op [18] rfl (by kernel_rfl) rfl rfl (fun _ _ h => AOp.move rfl rfl (ltb rfl) rfl h) ?_
 refine AD.done ?_
 refine AO.subF 2 [0] rfl rfl ?_
 obtain ⟨q16, h0⟩ := need_elim h0
 obtain ⟨q17, h0⟩ := need_elim h0
 refine AO.op rfl (AOp.callW' (p := 0) (q := 1) (m := b1.length) (n := (((([(0 : Int), (0 : Int), (0 : Int), (0 : Int)].set ((0 : Int)).toNat (IntKind.u8.wrap a1)).set ((1 : Int)).toNat (IntKind.u8.wrap (a1 / 2 ^ 8))).set ((2 : Int)).toNat (IntKind.u8.wrap (a1 / 2 ^ 16))).set ((3 : Int)).toNat (IntKind.u8.wrap (a1 / 2 ^ 24))).length) (bs := (List.map keS4 b1)) (cs := (List.map keS4 (((([(0 : Int), (0 : Int), (0 : Int), (0 : Int)].set ((0 : Int)).toNat (IntKind.u8.wrap a1)).set ((1 : Int)).toNat (IntKind.u8.wrap (a1 / 2 ^ 8))).set ((2 : Int)).toNat (IntKind.u8.wrap (a1 / 2 ^ 16))).set ((3 : Int)).toNat (IntKind.u8.wrap (a1 / 2 ^ 24))))) (EntersS.meth (by kernel_rfl) rfl rfl rfl meth54_Write rfl rfl) bufW rfl (ltb rfl) rfl rfl (src_arr (f := keS4) rfl q16) rfl (isV_map (fun _ => rfl) _) (isV_map (fun _ => rfl) _) (one_map (fun _ => rfl) _) (one_map (fun _ => rfl) _) (len1 _ _) (len1 _ _) q17 (allNo (.cons rfl (.cons rfl (.cons rfl (.cons (noO2_fixl fun _ => rfl) (.cons rfl (.cons rfl .nil))))))) rfl (cat1 _ _ _) ?_)
 refine AO.nil ?_
 change AD _ _ _ _ _
 refine AD.op [23] rfl (by kernel_rfl) rfl rfl (fun _ _ h => AOp.move rfl rfl (ltb rfl) rfl h) ?_
 first | refine AD.op [17] rfl (by kernel_rfl) rfl rfl (fun _ _ h => AOp.extractD rfl rfl (ltb rfl) rfl rfl h) ?_ | refine AD.op [17] rfl (by kernel_rfl) rfl rfl (fun _ _ h => AOp.extract rfl rfl (ltb rfl) rfl rfl h) ?_
 first | refine AD.op [17] rfl (by kernel_rfl) rfl rfl (fun _ _ h => AOp.extractD rfl rfl (ltb rfl) rfl rfl h) ?_ | refine AD.op [17] rfl (by kernel_rfl) rfl rfl (fun _ _ h => AOp.extract rfl rfl (ltb rfl) rfl rfl h) ?_
 refine AD.op [24] rfl (by kernel_rfl) rfl rfl (fun _ _ h => AOp.assign rfl rfl (ltb rfl) rfl h) ?_
 refine AD.op [25] rfl (by kernel_rfl) rfl rfl (fun _ _ h => AOp.assign rfl rfl (ltb rfl) rfl h) ?_
 refine AD.done ?_
 refine AO.nil ?_
 change AC _ _ _ _
 refine AC.seq ?_
 refine AC.region ?_
 refine AO.op rfl (AOp.move rfl rfl (ltb rfl) rfl ?_)
 refine AO.op rfl (AOp.assign rfl rfl (ltb rfl) rfl ?_)
 refine AO.nil ?_
 change AC _ _ _ _
 obtain rfl := Option.some.inj h0
 refine AC.ret ?_
 change RetH _ _ _ _ _ _ .ret _
 refine reth (post := [.fix 71 [.own 1, .d (di .i64 (0 : Int)), .d (di .i8 (0 : Int))], .grow 5 1 (List.map keS4 (b1 ++ (((([(0 : Int), (0 : Int), (0 : Int), (0 : Int)].set ((0 : Int)).toNat (IntKind.u8.wrap a1)).set ((1 : Int)).toNat (IntKind.u8.wrap (a1 / 2 ^ 8))).set ((2 : Int)).toNat (IntKind.u8.wrap (a1 / 2 ^ 16))).set ((3 : Int)).toNat (IntKind.u8.wrap (a1 / 2 ^ 24)))))]) rfl rfl rfl rfl rfl ?_
 exact ⟨rfl, rfl⟩

def RH_WriteFloatArray_littleEndian : (Int × (List Int)) → SV → List Ob → Prop
 | z => fun r post => r = .d (.v (.nilIface)) ∧ post = [.fix 71 [.own 1, .d (di .i64 (0 : Int)), .d (di .i8 z.1)], .grow 5 1 (List.map keS4 z.2)]
set_option maxRecDepth 100000 in
set_option maxHeartbeats 4000000 in
/-- pub-orthodrome/pub/gogeom/encoding/wkbcommon.WriteFloatArray -/
theorem wh_WriteFloatArray_littleEndian (F : Nat) (a0 : TBinary_bigEndian) (a1 : (List Nat)) (b0 : Int) (b1 : (List Int)) (r0 : (Int × (List Int))) (h0 : p_WriteFloatArray_littleEndian F a0 a1 b0 b1 = some r0) : FnH Tryd.prog 52 [.ifc 54 (.ptr 0 0), .ifc 95 (.d (e_TBinary_bigEndian TBinary_bigEndian.mk)), .d (eS0 a1)] [.fix 71 [.own 1, .d (di .i64 (0 : Int)), .d (di .i8 b0)], .grow 5 1 (List.map keS4 b1)] [0] (RH_WriteFloatArray_littleEndian r0) := by
 refine FnH.of (by kernel_rfl) Tryd.func52 rfl Tryd.ntmps52 rfl (leb rfl) fun W ok may pv => ?_
 unfold p_WriteFloatArray_littleEndian at h0
 refine AC.seq ?_
 refine AC.region ?_
 refine AO.op rfl (AOp.assign rfl rfl (ltb rfl) rfl ?_)
 refine AO.nil ?_
 change AC _ _ _ _
 refine AC.seq ?_
 refine AC.region ?_
 refine AO.op rfl (AOp.move rfl rfl (ltb rfl) rfl ?_)
 refine AO.op rfl (AOp.lenDs (n := a1.length) (cells := (List.map keS0 a1)) rfl rfl (ltb rfl) rfl el24 (by decide) (len1 _ _) ?_)
 obtain ⟨q1, h0⟩ := need_elim h0
 refine AO.op rfl (AOp.imul rfl rfl (ltb rfl) rfl rfl rfl q1.1 q1.2 ?_)
 obtain ⟨q2, h0⟩ := need_elim h0
 refine AO.op rfl (AOp.makeL (f := fun z => SV.d (keS4 z)) (z0 := (0 : Int)) rfl rfl (ltb rfl) rfl rfl el22 info5 rfl rfl (by decide) q2.1 q2.2 rfl ?_)
 refine AO.op rfl (AOp.assign rfl rfl (ltb rfl) rfl ?_)
 refine AO.nil ?_
 change AC _ _ _ _
 refine AC.seq ?_
 refine AC.seq ?_
 refine AC.region ?_
 refine AO.op rfl (AOp.move rfl rfl (ltb rfl) rfl ?_)
 refine AO.op rfl (AOp.lenDs (n := a1.length) (cells := (List.map keS0 a1)) rfl rfl (ltb rfl) rfl el24 (by decide) (len1 _ _) ?_)
 refine AO.op rfl (AOp.move rfl rfl (ltb rfl) rfl ?_)
 refine AO.nil ?_
 change AC _ _ _ _
 obtain ⟨o3, l4, h0⟩ := bind_elim h0
 refine AC.joinE (V := (List Int)) [0, 7] [] 4 (fun g5 => []) (fun g5 => [.fix 71 [.own 1, .d (di .i64 (0 : Int)), .d (di .i8 b0)], .grow 5 1 (List.map keS4 b1), .frame pv [(0, .ptr 0 0), (1, .own 1)], .fix 5 (List.map (fun z => SV.d (keS4 z)) g5)]) (fun g5 => (p_WriteFloatArray_littleEndian_k1 a1 b1) g5 = some r0) rfl ?_ ?_
 ·refine AC.block ?_
  refine AC.loopP (V := (Int × (List Int))) (p_WriteFloatArray_littleEndian_l2 a1) o3 [0, 1, 7, 16, 17] [18] 4 (fun g8 => [(18, .d (di .i64 g8.1))]) (fun g8 => [.fix 71 [.own 1, .d (di .i64 (0 : Int)), .d (di .i8 b0)], .grow 5 1 (List.map keS4 b1), .frame pv [(0, .ptr 0 0), (1, .own 1)], .fix 5 (List.map (fun z => SV.d (keS4 z)) g8.2)]) F ((0 : Int), (List.replicate (((8 : Int) * ((a1.length : Nat) : Int))).toNat (0 : Int))) l4 rfl rfl (LeL.refl _) rfl (okU_mk rfl (okU_cons rfl (okU_cons rfl (okU_cons rfl (okU_cons (okU_fixl (fun _ => rfl)) okU_nil))))) ?_
  intro n10 g8 h1
  unfold p_WriteFloatArray_littleEndian_l2 at h1
  refine AC.seq ?_
  refine AC.region ?_
  refine AO.op rfl (AOp.ilss rfl rfl (ltb rfl) rfl rfl ?_)
  refine AO.nil ?_
  change AC _ _ _ _
  refine AC.seq ?_
  refine AC.cond rfl (fun q11 => ?_) (fun q11 => ?_)
  ·replace h1 := cT h1 q11
   refine AC.skip ?_
   change AC _ _ _ _
   refine AC.seq ?_
   refine AC.block ?_
   refine AC.seq ?_
   refine AC.region ?_
   refine AO.op rfl (AOp.move rfl rfl (ltb rfl) rfl ?_)
   obtain ⟨x12, q13, h1⟩ := idx_elim h1
   refine AO.op rfl (AOp.indexDs (cells := (List.map keS0 a1)) rfl rfl (ltb rfl) rfl rfl el24 (by decide) q13.1 (lt1 q13.2) ?_)
   refine AO.op rfl (AOp.loadEp rfl rfl (ltb rfl) rfl agg63 (at1 q13.2) ?_)
   refine AO.op rfl (AOp.assign rfl rfl (ltb rfl) rfl ?_)
   refine AO.op rfl (AOp.assign rfl rfl (ltb rfl) rfl ?_)
   refine AO.nil ?_
   change AC _ _ _ _
   refine AC.region ?_
   refine AO.op rfl (AOp.move rfl rfl (ltb rfl) rfl ?_)
   refine AO.op rfl (AOp.move rfl rfl (ltb rfl) rfl ?_)
   obtain ⟨q14, h1⟩ := need_elim h1
   refine AO.op rfl (AOp.imul rfl rfl (ltb rfl) rfl rfl rfl q14.1 q14.2 ?_)
   obtain ⟨q15, h1⟩ := need_elim h1
   refine AO.op rfl (AOp.sliceSl (cap := ((((8 : Int) * ((a1.length : Nat) : Int))).toNat)) rfl rfl (ltb rfl) rfl rfl el22 q15.1 q15.2 ?_)
   refine AO.op rfl (AOp.move rfl rfl (ltb rfl) rfl ?_)
   refine AO.op rfl (AOp.move rfl rfl (ltb rfl) rfl ?_)
   refine AO.op rfl (AOp.inl [0, 1, 7, 16, 17, 18] (by kernel_rfl) Tryd.func55 rfl Tryd.ntmps55 rfl rfl (ltb rfl) rfl (leb rfl) rfl ?_)
   intro fr16
   refine AC.seq ?_
   refine AC.region ?_
   refine AO.op rfl (AOp.move rfl rfl (ltb rfl) rfl ?_)
   refine AO.op rfl (AOp.callX [.float .f64 x12] rfl rfl (ltb rfl) rfl (callBits x12) ?_)
   refine AO.op rfl (AOp.assign rfl rfl (ltb rfl) rfl ?_)
   refine AO.nil ?_
   change AC _ _ _ _
   refine AC.region ?_
   refine AO.op rfl (AOp.move rfl rfl (ltb rfl) rfl ?_)
   refine AO.op rfl (AOp.move rfl rfl (ltb rfl) rfl ?_)
   refine AO.op rfl (AOp.move rfl rfl (ltb rfl) rfl ?_)
   refine AO.op rfl (AOp.inlE [] (EntersS.meth (by kernel_rfl) rfl rfl rfl meth95_PutUint64 rfl rfl) Tryd.func92 rfl Tryd.ntmps92 rfl (ltb rfl) (leb rfl) rfl ?_)
   intro fr17
   refine AC.seq ?_
   refine AC.region ?_
   refine AO.op rfl (AOp.box rfl rfl (ltb rfl) rfl rfl ?_)
   refine AO.objs (obs' := [.fix 71 [.own 1, .d (di .i64 (0 : Int)), .d (di .i8 b0)], .grow 5 1 (List.map keS4 b1), .frame pv [(0, .ptr 0 0), (1, .own 1)], .fix 5 (List.map (fun z => SV.d (keS4 z)) g8.2), .frame fr16 [(0, .ifc 54 (.ptr 0 0)), (1, .ifc 95 (.d (e_TBinary_bigEndian TBinary_bigEndian.mk))), (7, .sl 3 1 0 ((((8 : Int) * ((a1.length : Nat) : Int))).toNat) ((((8 : Int) * ((a1.length : Nat) : Int))).toNat)), (16, .d (eS0 a1)), (17, .d (di .i64 ((a1.length : Nat) : Int))), (18, .d (di .i64 g8.1))], .frame fr17 [], .fix 95 []]) rfl ?_
   refine AO.nil ?_
   change AC _ _ _ _
   refine AC.seq ?_
   refine AC.region ?_
   refine AO.op rfl (AOp.move rfl rfl (ltb rfl) rfl ?_)
   obtain ⟨q18, h1⟩ := need_elim h1
   refine AO.op rfl (AOp.indexSf (lo := ((8 : Int) * g8.1)) (n := (((8 : Int) * ((a1.length : Nat) : Int))).toNat) rfl rfl (ltb rfl) rfl rfl el22 q18 ?_)
   obtain ⟨x19, q20, h1⟩ := idx_elim h1
   refine AO.op rfl (AOp.load1 rfl rfl (ltb rfl) rfl agg5 rfl (atO q20.2) ?_)
   refine AO.nil ?_
   change AC _ _ _ _
   refine AC.seq ?_
   refine AC.region ?_
   refine AO.op rfl (AOp.move rfl rfl (ltb rfl) rfl ?_)
   refine AO.op rfl (AOp.move rfl rfl (ltb rfl) rfl ?_)
   refine AO.op rfl (AOp.i2i rfl rfl (ltb rfl) rfl Tryd.underlying64 Tryd.underlying5 rfl ?_)
   obtain ⟨q21, h1⟩ := need_elim h1
   refine AO.op rfl (AOp.indexSf (lo := ((8 : Int) * g8.1)) (n := (((8 : Int) * ((a1.length : Nat) : Int))).toNat) rfl rfl (ltb rfl) rfl rfl el22 q21 ?_)
   obtain ⟨q22, h1⟩ := need_elim h1
   refine AO.op rfl (AOp.storeL (f := fun z => SV.d (keS4 z)) (l := g8.2) (i := ((((8 : Int) * g8.1) + (0 : Int))).toNat) (v := (IntKind.u8.wrap ((x12 : Nat) : Int))) rfl rfl rfl rfl size5 rfl rfl rfl q22 ?_)
   refine AO.nil ?_
   change AC _ _ _ _
   refine AC.seq ?_
   refine AC.region ?_
   refine AO.op rfl (AOp.move rfl rfl (ltb rfl) rfl ?_)
   refine AO.op rfl (AOp.move rfl rfl (ltb rfl) rfl ?_)
   obtain ⟨q23, h1⟩ := need_elim h1
   refine AO.op rfl (AOp.ishr (n := 8) rfl rfl (ltb rfl) rfl rfl (by decide) q23 rfl ?_)
   refine AO.op rfl (AOp.i2i rfl rfl (ltb rfl) rfl Tryd.underlying64 Tryd.underlying5 rfl ?_)
   obtain ⟨q24, h1⟩ := need_elim h1
   refine AO.op rfl (AOp.indexSf (lo := ((8 : Int) * g8.1)) (n := (((8 : Int) * ((a1.length : Nat) : Int))).toNat) rfl rfl (ltb rfl) rfl rfl el22 q24 ?_)
   obtain ⟨q25, h1⟩ := need_elim h1
   refine AO.op rfl (AOp.storeL (f := fun z => SV.d (keS4 z)) (l := (g8.2.set ((((8 : Int) * g8.1) + (0 : Int))).toNat (IntKind.u8.wrap ((x12 : Nat) : Int)))) (i := ((((8 : Int) * g8.1) + (1 : Int))).toNat) (v := (IntKind.u8.wrap (((x12 : Nat) : Int) / 2 ^ 8))) rfl rfl rfl rfl size5 rfl rfl rfl q25 ?_)
   refine AO.nil ?_
   change AC _ _ _ _
   refine AC.seq ?_
   refine AC.region ?_
   refine AO.op rfl (AOp.move rfl rfl (ltb rfl) rfl ?_)
   refine AO.op rfl (AOp.move rfl rfl (ltb rfl) rfl ?_)
   obtain ⟨q26, h1⟩ := need_elim h1
   refine AO.op rfl (AOp.ishr (n := 16) rfl rfl (ltb rfl) rfl rfl (by decide) q26 rfl ?_)
   refine AO.op rfl (AOp.i2i rfl rfl (ltb rfl) rfl Tryd.underlying64 Tryd.underlying5 rfl ?_)
   obtain ⟨q27, h1⟩ := need_elim h1
   refine AO.op rfl (AOp.indexSf (lo := ((8 : Int) * g8.1)) (n := (((8 : Int) * ((a1.length : Nat) : Int))).toNat) rfl rfl (ltb rfl) rfl rfl el22 q27 ?_)
   obtain ⟨q28, h1⟩ := need_elim h1
   refine AO.op rfl (AOp.storeL (f := fun z => SV.d (keS4 z)) (l := ((g8.2.set ((((8 : Int) * g8.1) + (0 : Int))).toNat (IntKind.u8.wrap ((x12 : Nat) : Int))).set ((((8 : Int) * g8.1) + (1 : Int))).toNat (IntKind.u8.wrap (((x12 : Nat) : Int) / 2 ^ 8)))) (i := ((((8 : Int) * g8.1) + (2 : Int))).toNat) (v := (IntKind.u8.wrap (((x12 : Nat) : Int) / 2 ^ 16))) rfl rfl rfl rfl size5 rfl rfl rfl q28 ?_)
   refine AO.nil ?_
   change AC _ _ _ _
   refine AC.seq ?_
   refine AC.region ?_
   refine AO.op rfl (AOp.move rfl rfl (ltb rfl) rfl ?_)
   refine AO.op rfl (AOp.move rfl rfl (ltb rfl) rfl ?_)
   obtain ⟨q29, h1⟩ := need_elim h1
   refine AO.op rfl (AOp.ishr (n := 24) rfl rfl (ltb rfl) rfl rfl (by decide) q29 rfl ?_)
   refine AO.op rfl (AOp.i2i rfl rfl (ltb rfl) rfl Tryd.underlying64 Tryd.underlying5 rfl ?_)
   obtain ⟨q30, h1⟩ := need_elim h1
   refine AO.op rfl (AOp.indexSf (lo := ((8 : Int) * g8.1)) (n := (((8 : Int) * ((a1.length : Nat) : Int))).toNat) rfl rfl (ltb rfl) rfl rfl el22 q30 ?_)
   obtain ⟨q31, h1⟩ := need_elim h1
   refine AO.op rfl (AOp.storeL (f := fun z => SV.d (keS4 z)) (l := (((g8.2.set ((((8 : Int) * g8.1) + (0 : Int))).toNat (IntKind.u8.wrap ((x12 : Nat) : Int))).set ((((8 : Int) * g8.1) + (1 : Int))).toNat (IntKind.u8.wrap (((x12 : Nat) : Int) / 2 ^ 8))).set ((((8 : Int) * g8.1) + (2 : Int))).toNat (IntKind.u8.wrap (((x12 : Nat) : Int) / 2 ^ 16)))) (i := ((((8 : Int) * g8.1) + (3 : Int))).toNat) (v := (IntKind.u8.wrap (((x12 : Nat) : Int) / 2 ^ 24))) rfl rfl rfl rfl size5 rfl rfl rfl q31 ?_)
   refine AO.nil ?_
   change AC _ _ _ _
   refine AC.seq ?_
   refine AC.region ?_
   refine AO.op rfl (AOp.move rfl rfl (ltb rfl) rfl ?_)
   refine AO.op rfl (AOp.move rfl rfl (ltb rfl) rfl ?_)
   obtain ⟨q32, h1⟩ := need_elim h1
   refine AO.op rfl (AOp.ishr (n := 32) rfl rfl (ltb rfl) rfl rfl (by decide) q32 rfl ?_)
   refine AO.op rfl (AOp.i2i rfl rfl (ltb rfl) rfl Tryd.underlying64 Tryd.underlying5 rfl ?_)
   obtain ⟨q33, h1⟩ := need_elim h1
   refine AO.op rfl (AOp.indexSf (lo := ((8 : Int) * g8.1)) (n := (((8 : Int) * ((a1.length : Nat) : Int))).toNat) rfl rfl (ltb rfl) rfl rfl el22 q33 ?_)
   obtain ⟨q34, h1⟩ := need_elim h1
   refine AO.op rfl (AOp.storeL (f := fun z => SV.d (keS4 z)) (l := ((((g8.2.set ((((8 : Int) * g8.1) + (0 : Int))).toNat (IntKind.u8.wrap ((x12 : Nat) : Int))).set ((((8 : Int) * g8.1) + (1 : Int))).toNat (IntKind.u8.wrap (((x12 : Nat) : Int) / 2 ^ 8))).set ((((8 : Int) * g8.1) + (2 : Int))).toNat (IntKind.u8.wrap (((x12 : Nat) : Int) / 2 ^ 16))).set ((((8 : Int) * g8.1) + (3 : Int))).toNat (IntKind.u8.wrap (((x12 : Nat) : Int) / 2 ^ 24)))) (i := ((((8 : Int) * g8.1) + (4 : Int))).toNat) (v := (IntKind.u8.wrap (((x12 : Nat) : Int) / 2 ^ 32))) rfl rfl rfl rfl size5 rfl rfl rfl q34 ?_)
   refine AO.nil ?_
   change AC _ _ _ _
   refine AC.seq ?_
   refine AC.region ?_
   refine AO.op rfl (AOp.move rfl rfl (ltb rfl) rfl ?_)
   refine AO.op rfl (AOp.move rfl rfl (ltb rfl) rfl ?_)
   obtain ⟨q35, h1⟩ := need_elim h1
   refine AO.op rfl (AOp.ishr (n := 40) rfl rfl (ltb rfl) rfl rfl (by decide) q35 rfl ?_)
   refine AO.op rfl (AOp.i2i rfl rfl (ltb rfl) rfl Tryd.underlying64 Tryd.underlying5 rfl ?_)
   obtain ⟨q36, h1⟩ := need_elim h1
   refine AO.op rfl (AOp.indexSf (lo := ((8 : Int) * g8.1)) (n := (((8 : Int) * ((a1.length : Nat) : Int))).toNat) rfl rfl (ltb rfl) rfl rfl el22 q36 ?_)
   obtain ⟨q37, h1⟩ := need_elim h1
   refine AO.op rfl (AOp.storeL (f := fun z => SV.d (keS4 z)) (l := (((((g8.2.set ((((8 : Int) * g8.1) + (0 : Int))).toNat (IntKind.u8.wrap ((x12 : Nat) : Int))).set ((((8 : Int) * g8.1) + (1 : Int))).toNat (IntKind.u8.wrap (((x12 : Nat) : Int) / 2 ^ 8))).set ((((8 : Int) * g8.1) + (2 : Int))).toNat (IntKind.u8.wrap (((x12 : Nat) : Int) / 2 ^ 16))).set ((((8 : Int) * g8.1) + (3 : Int))).toNat (IntKind.u8.wrap (((x12 : Nat) : Int) / 2 ^ 24))).set ((((8 : Int) * g8.1) + (4 : Int))).toNat (IntKind.u8.wrap (((x12 : Nat) : Int) / 2 ^ 32)))) (i := ((((8 : Int) * g8.1) + (5 : Int))).toNat) (v := (IntKind.u8.wrap (((x12 : Nat) : Int) / 2 ^ 40))) rfl rfl rfl rfl size5 rfl rfl rfl q37 ?_)
   refine AO.objs (obs' := [.fix 71 [.own 1, .d (di .i64 (0 : Int)), .d (di .i8 b0)], .grow 5 1 (List.map keS4 b1), .frame pv [(0, .ptr 0 0), (1, .own 1)], .fix 5 (List.map (fun z => SV.d (keS4 z)) ((((((g8.2.set ((((8 : Int) * g8.1) + (0 : Int))).toNat (IntKind.u8.wrap ((x12 : Nat) : Int))).set ((((8 : Int) * g8.1) + (1 : Int))).toNat (IntKind.u8.wrap (((x12 : Nat) : Int) / 2 ^ 8))).set ((((8 : Int) * g8.1) + (2 : Int))).toNat (IntKind.u8.wrap (((x12 : Nat) : Int) / 2 ^ 16))).set ((((8 : Int) * g8.1) + (3 : Int))).toNat (IntKind.u8.wrap (((x12 : Nat) : Int) / 2 ^ 24))).set ((((8 : Int) * g8.1) + (4 : Int))).toNat (IntKind.u8.wrap (((x12 : Nat) : Int) / 2 ^ 32))).set ((((8 : Int) * g8.1) + (5 : Int))).toNat (IntKind.u8.wrap (((x12 : Nat) : Int) / 2 ^ 40)))), .frame fr16 [(0, .ifc 54 (.ptr 0 0)), (1, .ifc 95 (.d (e_TBinary_bigEndian TBinary_bigEndian.mk))), (7, .sl 3 1 0 ((((8 : Int) * ((a1.length : Nat) : Int))).toNat) ((((8 : Int) * ((a1.length : Nat) : Int))).toNat)), (16, .d (eS0 a1)), (17, .d (di .i64 ((a1.length : Nat) : Int))), (18, .d (di .i64 g8.1))], .frame fr17 [], .fix 95 []]) rfl ?_
   refine AO.nil ?_
   change AC _ _ _ _
   refine AC.seq ?_
   refine AC.region ?_
   refine AO.op rfl (AOp.move rfl rfl (ltb rfl) rfl ?_)
   refine AO.op rfl (AOp.move rfl rfl (ltb rfl) rfl ?_)
   obtain ⟨q38, h1⟩ := need_elim h1
   refine AO.op rfl (AOp.ishr (n := 48) rfl rfl (ltb rfl) rfl rfl (by decide) q38 rfl ?_)
   refine AO.op rfl (AOp.i2i rfl rfl (ltb rfl) rfl Tryd.underlying64 Tryd.underlying5 rfl ?_)
   obtain ⟨q39, h1⟩ := need_elim h1
   refine AO.op rfl (AOp.indexSf (lo := ((8 : Int) * g8.1)) (n := (((8 : Int) * ((a1.length : Nat) : Int))).toNat) rfl rfl (ltb rfl) rfl rfl el22 q39 ?_)
   obtain ⟨q40, h1⟩ := need_elim h1
   refine AO.op rfl (AOp.storeL (f := fun z => SV.d (keS4 z)) (l := ((((((g8.2.set ((((8 : Int) * g8.1) + (0 : Int))).toNat (IntKind.u8.wrap ((x12 : Nat) : Int))).set ((((8 : Int) * g8.1) + (1 : Int))).toNat (IntKind.u8.wrap (((x12 : Nat) : Int) / 2 ^ 8))).set ((((8 : Int) * g8.1) + (2 : Int))).toNat (IntKind.u8.wrap (((x12 : Nat) : Int) / 2 ^ 16))).set ((((8 : Int) * g8.1) + (3 : Int))).toNat (IntKind.u8.wrap (((x12 : Nat) : Int) / 2 ^ 24))).set ((((8 : Int) * g8.1) + (4 : Int))).toNat (IntKind.u8.wrap (((x12 : Nat) : Int) / 2 ^ 32))).set ((((8 : Int) * g8.1) + (5 : Int))).toNat (IntKind.u8.wrap (((x12 : Nat) : Int) / 2 ^ 40)))) (i := ((((8 : Int) * g8.1) + (6 : Int))).toNat) (v := (IntKind.u8.wrap (((x12 : Nat) : Int) / 2 ^ 48))) rfl rfl rfl rfl size5 rfl rfl rfl q40 ?_)
   refine AO.nil ?_
   change AC _ _ _ _
   refine AC.region ?_
   refine AO.op rfl (AOp.move rfl rfl (ltb rfl) rfl ?_)
   refine AO.op rfl (AOp.move rfl rfl (ltb rfl) rfl ?_)
   obtain ⟨q41, h1⟩ := need_elim h1
   refine AO.op rfl (AOp.ishr (n := 56) rfl rfl (ltb rfl) rfl rfl (by decide) q41 rfl ?_)
   refine AO.op rfl (AOp.i2i rfl rfl (ltb rfl) rfl Tryd.underlying64 Tryd.underlying5 rfl ?_)
   obtain ⟨q42, h1⟩ := need_elim h1
   refine AO.op rfl (AOp.indexSf (lo := ((8 : Int) * g8.1)) (n := (((8 : Int) * ((a1.length : Nat) : Int))).toNat) rfl rfl (ltb rfl) rfl rfl el22 q42 ?_)
   obtain ⟨q43, h1⟩ := need_elim h1
   refine AO.op rfl (AOp.storeL (f := fun z => SV.d (keS4 z)) (l := (((((((g8.2.set ((((8 : Int) * g8.1) + (0 : Int))).toNat (IntKind.u8.wrap ((x12 : Nat) : Int))).set ((((8 : Int) * g8.1) + (1 : Int))).toNat (IntKind.u8.wrap (((x12 : Nat) : Int) / 2 ^ 8))).set ((((8 : Int) * g8.1) + (2 : Int))).toNat (IntKind.u8.wrap (((x12 : Nat) : Int) / 2 ^ 16))).set ((((8 : Int) * g8.1) + (3 : Int))).toNat (IntKind.u8.wrap (((x12 : Nat) : Int) / 2 ^ 24))).set ((((8 : Int) * g8.1) + (4 : Int))).toNat (IntKind.u8.wrap (((x12 : Nat) : Int) / 2 ^ 32))).set ((((8 : Int) * g8.1) + (5 : Int))).toNat (IntKind.u8.wrap (((x12 : Nat) : Int) / 2 ^ 40))).set ((((8 : Int) * g8.1) + (6 : Int))).toNat (IntKind.u8.wrap (((x12 : Nat) : Int) / 2 ^ 48)))) (i := ((((8 : Int) * g8.1) + (7 : Int))).toNat) (v := (IntKind.u8.wrap (((x12 : Nat) : Int) / 2 ^ 56))) rfl rfl rfl rfl size5 rfl rfl rfl q43 ?_)
   refine AO.nil ?_
   refine inlend (ob' := [.fix 71 [.own 1, .d (di .i64 (0 : Int)), .d (di .i8 b0)], .grow 5 1 (List.map keS4 b1), .frame pv [(0, .ptr 0 0), (1, .own 1)], .fix 5 (List.map (fun z => SV.d (keS4 z)) ((((((((g8.2.set ((((8 : Int) * g8.1) + (0 : Int))).toNat (IntKind.u8.wrap ((x12 : Nat) : Int))).set ((((8 : Int) * g8.1) + (1 : Int))).toNat (IntKind.u8.wrap (((x12 : Nat) : Int) / 2 ^ 8))).set ((((8 : Int) * g8.1) + (2 : Int))).toNat (IntKind.u8.wrap (((x12 : Nat) : Int) / 2 ^ 16))).set ((((8 : Int) * g8.1) + (3 : Int))).toNat (IntKind.u8.wrap (((x12 : Nat) : Int) / 2 ^ 24))).set ((((8 : Int) * g8.1) + (4 : Int))).toNat (IntKind.u8.wrap (((x12 : Nat) : Int) / 2 ^ 32))).set ((((8 : Int) * g8.1) + (5 : Int))).toNat (IntKind.u8.wrap (((x12 : Nat) : Int) / 2 ^ 40))).set ((((8 : Int) * g8.1) + (6 : Int))).toNat (IntKind.u8.wrap (((x12 : Nat) : Int) / 2 ^ 48))).set ((((8 : Int) * g8.1) + (7 : Int))).toNat (IntKind.u8.wrap (((x12 : Nat) : Int) / 2 ^ 56)))), .frame fr16 [(0, .ifc 54 (.ptr 0 0)), (1, .ifc 95 (.d (e_TBinary_bigEndian TBinary_bigEndian.mk))), (7, .sl 3 1 0 ((((8 : Int) * ((a1.length : Nat) : Int))).toNat) ((((8 : Int) * ((a1.length : Nat) : Int))).toNat)), (16, .d (eS0 a1)), (17, .d (di .i64 ((a1.length : Nat) : Int))), (18, .d (di .i64 g8.1))], .dead, .fix 95 []]) (e' := []) (r := .tu []) rfl rfl rfl ?_
   change AO _ _ _ _ _
   refine AO.objs (obs' := [.fix 71 [.own 1, .d (di .i64 (0 : Int)), .d (di .i8 b0)], .grow 5 1 (List.map keS4 b1), .frame pv [(0, .ptr 0 0), (1, .own 1)], .fix 5 (List.map (fun z => SV.d (keS4 z)) ((((((((g8.2.set ((((8 : Int) * g8.1) + (0 : Int))).toNat (IntKind.u8.wrap ((x12 : Nat) : Int))).set ((((8 : Int) * g8.1) + (1 : Int))).toNat (IntKind.u8.wrap (((x12 : Nat) : Int) / 2 ^ 8))).set ((((8 : Int) * g8.1) + (2 : Int))).toNat (IntKind.u8.wrap (((x12 : Nat) : Int) / 2 ^ 16))).set ((((8 : Int) * g8.1) + (3 : Int))).toNat (IntKind.u8.wrap (((x12 : Nat) : Int) / 2 ^ 24))).set ((((8 : Int) * g8.1) + (4 : Int))).toNat (IntKind.u8.wrap (((x12 : Nat) : Int) / 2 ^ 32))).set ((((8 : Int) * g8.1) + (5 : Int))).toNat (IntKind.u8.wrap (((x12 : Nat) : Int) / 2 ^ 40))).set ((((8 : Int) * g8.1) + (6 : Int))).toNat (IntKind.u8.wrap (((x12 : Nat) : Int) / 2 ^ 48))).set ((((8 : Int) * g8.1) + (7 : Int))).toNat (IntKind.u8.wrap (((x12 : Nat) : Int) / 2 ^ 56)))), .frame fr16 [(0, .ifc 54 (.ptr 0 0)), (1, .ifc 95 (.d (e_TBinary_bigEndian TBinary_bigEndian.mk))), (7, .sl 3 1 0 ((((8 : Int) * ((a1.length : Nat) : Int))).toNat) ((((8 : Int) * ((a1.length : Nat) : Int))).toNat)), (16, .d (eS0 a1)), (17, .d (di .i64 ((a1.length : Nat) : Int))), (18, .d (di .i64 g8.1))], .dead, .fix 95 []]) rfl ?_
   refine AO.nil ?_
   refine inlend (ob' := [.fix 71 [.own 1, .d (di .i64 (0 : Int)), .d (di .i8 b0)], .grow 5 1 (List.map keS4 b1), .frame pv [(0, .ptr 0 0), (1, .own 1)], .fix 5 (List.map (fun z => SV.d (keS4 z)) ((((((((g8.2.set ((((8 : Int) * g8.1) + (0 : Int))).toNat (IntKind.u8.wrap ((x12 : Nat) : Int))).set ((((8 : Int) * g8.1) + (1 : Int))).toNat (IntKind.u8.wrap (((x12 : Nat) : Int) / 2 ^ 8))).set ((((8 : Int) * g8.1) + (2 : Int))).toNat (IntKind.u8.wrap (((x12 : Nat) : Int) / 2 ^ 16))).set ((((8 : Int) * g8.1) + (3 : Int))).toNat (IntKind.u8.wrap (((x12 : Nat) : Int) / 2 ^ 24))).set ((((8 : Int) * g8.1) + (4 : Int))).toNat (IntKind.u8.wrap (((x12 : Nat) : Int) / 2 ^ 32))).set ((((8 : Int) * g8.1) + (5 : Int))).toNat (IntKind.u8.wrap (((x12 : Nat) : Int) / 2 ^ 40))).set ((((8 : Int) * g8.1) + (6 : Int))).toNat (IntKind.u8.wrap (((x12 : Nat) : Int) / 2 ^ 48))).set ((((8 : Int) * g8.1) + (7 : Int))).toNat (IntKind.u8.wrap (((x12 : Nat) : Int) / 2 ^ 56)))), .dead, .dead, .fix 95 []]) (e' := [(0, .ifc 54 (.ptr 0 0)), (1, .ifc 95 (.d (e_TBinary_bigEndian TBinary_bigEndian.mk))), (7, .sl 3 1 0 ((((8 : Int) * ((a1.length : Nat) : Int))).toNat) ((((8 : Int) * ((a1.length : Nat) : Int))).toNat)), (16, .d (eS0 a1)), (17, .d (di .i64 ((a1.length : Nat) : Int))), (18, .d (di .i64 g8.1))]) (r := .tu []) rfl rfl rfl ?_
   change AO _ _ _ _ _
   refine AO.objs (obs' := [.fix 71 [.own 1, .d (di .i64 (0 : Int)), .d (di .i8 b0)], .grow 5 1 (List.map keS4 b1), .frame pv [(0, .ptr 0 0), (1, .own 1)], .fix 5 (List.map (fun z => SV.d (keS4 z)) ((((((((g8.2.set ((((8 : Int) * g8.1) + (0 : Int))).toNat (IntKind.u8.wrap ((x12 : Nat) : Int))).set ((((8 : Int) * g8.1) + (1 : Int))).toNat (IntKind.u8.wrap (((x12 : Nat) : Int) / 2 ^ 8))).set ((((8 : Int) * g8.1) + (2 : Int))).toNat (IntKind.u8.wrap (((x12 : Nat) : Int) / 2 ^ 16))).set ((((8 : Int) * g8.1) + (3 : Int))).toNat (IntKind.u8.wrap (((x12 : Nat) : Int) / 2 ^ 24))).set ((((8 : Int) * g8.1) + (4 : Int))).toNat (IntKind.u8.wrap (((x12 : Nat) : Int) / 2 ^ 32))).set ((((8 : Int) * g8.1) + (5 : Int))).toNat (IntKind.u8.wrap (((x12 : Nat) : Int) / 2 ^ 40))).set ((((8 : Int) * g8.1) + (6 : Int))).toNat (IntKind.u8.wrap (((x12 : Nat) : Int) / 2 ^ 48))).set ((((8 : Int) * g8.1) + (7 : Int))).toNat (IntKind.u8.wrap (((x12 : Nat) : Int) / 2 ^ 56)))), .dead, .dead, .fix 95 []]) rfl ?_
   refine AO.nil ?_
   change AC _ _ _ _
   refine AC.region ?_
   obtain ⟨q44, h1⟩ := need_elim h1
   refine AO.op rfl (AOp.iadd rfl rfl (ltb rfl) rfl rfl rfl q44.1 q44.2 ?_)
   refine AO.op rfl (AOp.move rfl rfl (ltb rfl) rfl ?_)
   refine AO.nil ?_
   exact ⟨((g8.1 + (1 : Int)), ((((((((g8.2.set ((((8 : Int) * g8.1) + (0 : Int))).toNat (IntKind.u8.wrap ((x12 : Nat) : Int))).set ((((8 : Int) * g8.1) + (1 : Int))).toNat (IntKind.u8.wrap (((x12 : Nat) : Int) / 2 ^ 8))).set ((((8 : Int) * g8.1) + (2 : Int))).toNat (IntKind.u8.wrap (((x12 : Nat) : Int) / 2 ^ 16))).set ((((8 : Int) * g8.1) + (3 : Int))).toNat (IntKind.u8.wrap (((x12 : Nat) : Int) / 2 ^ 24))).set ((((8 : Int) * g8.1) + (4 : Int))).toNat (IntKind.u8.wrap (((x12 : Nat) : Int) / 2 ^ 32))).set ((((8 : Int) * g8.1) + (5 : Int))).toNat (IntKind.u8.wrap (((x12 : Nat) : Int) / 2 ^ 40))).set ((((8 : Int) * g8.1) + (6 : Int))).toNat (IntKind.u8.wrap (((x12 : Nat) : Int) / 2 ^ 48))).set ((((8 : Int) * g8.1) + (7 : Int))).toNat (IntKind.u8.wrap (((x12 : Nat) : Int) / 2 ^ 56)))), _, rfl, (LeL.refl _), rfl, (okU_mk rfl (okU_cons rfl (okU_cons rfl (okU_cons rfl (okU_cons (okU_fixl (fun _ => rfl)) okU_nil))))), h1⟩
  replace h1 := cF h1 q11
  refine AC.exit ?_
  obtain rfl := Option.some.inj h1
  exact ⟨g8.2, _, rfl, (LeL.refl _), rfl, (okU_mk rfl (okU_cons rfl (okU_cons rfl (okU_cons rfl (okU_cons (okU_fixl (fun _ => rfl)) okU_nil))))), aftL h0⟩
 intro g5 h0
 unfold p_WriteFloatArray_littleEndian_k1 at h0
 change AC _ _ _ _
 refine AC.seq ?_
 refine AC.region ?_
 refine AO.op rfl (AOp.move rfl rfl (ltb rfl) rfl ?_)
 refine AO.op rfl (AOp.move rfl rfl (ltb rfl) rfl ?_)
 refine AO.subF 2 [0] rfl rfl ?_
 obtain ⟨q6, h0⟩ := need_elim h0
 obtain ⟨q7, h0⟩ := need_elim h0
 refine AO.op rfl (AOp.callW' (p := 0) (q := 1) (m := b1.length) (n := g5.length) (bs := (List.map keS4 b1)) (cs := (List.map keS4 g5)) (EntersS.meth (by kernel_rfl) rfl rfl rfl meth54_Write rfl rfl) bufW rfl (ltb rfl) rfl rfl (src_arr (f := keS4) rfl q6) rfl (isV_map (fun _ => rfl) _) (isV_map (fun _ => rfl) _) (one_map (fun _ => rfl) _) (one_map (fun _ => rfl) _) (len1 _ _) (len1 _ _) q7 (allNo (.cons rfl (.cons rfl (.cons rfl (.cons (noO2_fixl fun _ => rfl) .nil))))) rfl (cat1 _ _ _) ?_)
 refine AO.op rfl (AOp.move rfl rfl (ltb rfl) rfl ?_)
 first | refine AO.op rfl (AOp.extractD rfl rfl (ltb rfl) rfl rfl ?_) | refine AO.op rfl (AOp.extract rfl rfl (ltb rfl) rfl rfl ?_)
 first | refine AO.op rfl (AOp.extractD rfl rfl (ltb rfl) rfl rfl ?_) | refine AO.op rfl (AOp.extract rfl rfl (ltb rfl) rfl rfl ?_)
 refine AO.op rfl (AOp.assign rfl rfl (ltb rfl) rfl ?_)
 refine AO.op rfl (AOp.assign rfl rfl (ltb rfl) rfl ?_)
 refine AO.nil ?_
 change AC _ _ _ _
 refine AC.seq ?_
 refine AC.region ?_
 refine AO.op rfl (AOp.move rfl rfl (ltb rfl) rfl ?_)
 refine AO.op rfl (AOp.assign rfl rfl (ltb rfl) rfl ?_)
 refine AO.nil ?_
 change AC _ _ _ _
 obtain rfl := Option.some.inj h0
 refine AC.ret ?_
 change RetH _ _ _ _ _ _ .ret _
 refine reth (post := [.fix 71 [.own 1, .d (di .i64 (0 : Int)), .d (di .i8 (0 : Int))], .grow 5 1 (List.map keS4 (b1 ++ g5))]) rfl rfl rfl rfl rfl ?_
 exact ⟨rfl, rfl⟩

def RH_WriteFlatCoords1_littleEndian : (Int × (List Int)) → SV → List Ob → Prop
 | z => fun r post => r = .d (.v (.nilIface)) ∧ post = [.fix 71 [.own 1, .d (di .i64 (0 : Int)), .d (di .i8 z.1)], .grow 5 1 (List.map keS4 z.2)]
set_option maxRecDepth 100000 in
set_option maxHeartbeats 4000000 in
/-- pub-orthodrome/pub/gogeom/encoding/wkbcommon.WriteFlatCoords1 -/
theorem wh_WriteFlatCoords1_littleEndian (F : Nat) (a0 : TBinary_bigEndian) (a1 : (List Nat)) (a2 : Int) (b0 : Int) (b1 : (List Int)) (r0 : (Int × (List Int))) (h0 : p_WriteFlatCoords1_littleEndian F a0 a1 a2 b0 b1 = some r0) : FnH Tryd.prog 43 [.ifc 54 (.ptr 0 0), .ifc 95 (.d (e_TBinary_bigEndian TBinary_bigEndian.mk)), .d (eS0 a1), .d (di .i64 a2)] [.fix 71 [.own 1, .d (di .i64 (0 : Int)), .d (di .i8 b0)], .grow 5 1 (List.map keS4 b1)] [0] (RH_WriteFlatCoords1_littleEndian r0) := by
 refine FnH.of (by kernel_rfl) Tryd.func43 rfl Tryd.ntmps43 rfl (leb rfl) fun W ok may pv => ?_
 unfold p_WriteFlatCoords1_littleEndian at h0
 refine AC.seq ?_
 refine AC.region ?_
 refine AO.op rfl (AOp.assign rfl rfl (ltb rfl) rfl ?_)
 refine AO.nil ?_
 change AC _ _ _ _
 refine AC.seq ?_
 refine AC.seq ?_
 refine AC.region ?_
 refine AO.op rfl (AOp.move rfl rfl (ltb rfl) rfl ?_)
 refine AO.op rfl (AOp.move rfl rfl (ltb rfl) rfl ?_)
 refine AO.op rfl (AOp.move rfl rfl (ltb rfl) rfl ?_)
 refine AO.op rfl (AOp.lenDs (n := a1.length) (cells := (List.map keS0 a1)) rfl rfl (ltb rfl) rfl el24 (by decide) (len1 _ _) ?_)
 refine AO.op rfl (AOp.move rfl rfl (ltb rfl) rfl ?_)
 obtain ⟨q1, h0⟩ := need_elim h0
 refine AO.op rfl (AOp.iquo rfl rfl (ltb rfl) rfl rfl q1.1 rfl q1.2.1 q1.2.2 ?_)
 refine AO.op rfl (AOp.i2i rfl rfl (ltb rfl) rfl Tryd.underlying3 Tryd.underlying43 rfl ?_)
 refine AO.subF 2 [0] rfl rfl ?_
 obtain ⟨y2, q3, h0⟩ := bind_elim h0
 refine AO.op rfl (AOp.callH (ys := [.ifc 54 (.ptr 0 0), .ifc 95 (.d (e_TBinary_bigEndian TBinary_bigEndian.mk)), .d (di .u32 (IntKind.u32.wrap (Int.tdiv ((a1.length : Nat) : Int) a2)))]) (hs := [0, 1]) (pins := [0]) (unp := [1]) (pre := [.fix 71 [.own 1, .d (di .i64 (0 : Int)), .d (di .i8 b0)], .grow 5 1 (List.map keS4 b1)]) (EntersS.call (by kernel_rfl) rfl rfl) (wh_WriteUInt32_littleEndian TBinary_bigEndian.mk (IntKind.u32.wrap (Int.tdiv ((a1.length : Nat) : Int) a2)) b0 b1 _ q3) (ltb rfl) (.cons (SVLe.refl _) (.cons (SVLe.refl _) (.cons (SVLe.refl _) .nil))) rfl rfl rfl (.cons rfl (.cons rfl .nil)) (.cons ⟨rfl, rfl⟩ (.cons ⟨rfl, rfl⟩ .nil)) rfl (.cons (.inl rfl) (.cons (.inl rfl) (.cons (.inr rfl) .nil))) rfl ?_)
 rintro _ _ ⟨rfl, rfl⟩
 refine ⟨.d (.v (.nilIface)), [.fix 71 [.own 1, .d (di .i64 (0 : Int)), .d (di .i8 y2.1)], .grow 5 1 (List.map keS4 y2.2)], rfl, (.cons rfl (.cons rfl .nil)), ?_⟩
 refine AO.objs (obs' := [.fix 71 [.own 1, .d (di .i64 (0 : Int)), .d (di .i8 y2.1)], .grow 5 1 (List.map keS4 y2.2), .frame pv [(0, .ptr 0 0)]]) rfl ?_
 refine AO.op rfl (AOp.assign rfl rfl (ltb rfl) rfl ?_)
 refine AO.nil ?_
 change AC _ _ _ _
 refine AC.seq ?_
 refine AC.region ?_
 refine AO.op rfl (AOp.move rfl rfl (ltb rfl) rfl ?_)
 refine AO.op rfl (AOp.nilNeq rfl rfl (ltb rfl) rfl imeth57 ?_)
 refine AO.nil ?_
 change AC _ _ _ _
 refine AC.condF rfl rfl ?_
 refine AC.skip ?_
 change AC _ _ _ _
 refine AC.seq ?_
 refine AC.region ?_
 refine AO.op rfl (AOp.move rfl rfl (ltb rfl) rfl ?_)
 refine AO.op rfl (AOp.move rfl rfl (ltb rfl) rfl ?_)
 refine AO.op rfl (AOp.move rfl rfl (ltb rfl) rfl ?_)
 obtain ⟨y5, q6, h0⟩ := bind_elim h0
 refine AO.op rfl (AOp.callH (ys := [.ifc 54 (.ptr 0 0), .ifc 95 (.d (e_TBinary_bigEndian TBinary_bigEndian.mk)), .d (eS0 a1)]) (hs := [0, 1]) (pins := [0]) (unp := [1]) (pre := [.fix 71 [.own 1, .d (di .i64 (0 : Int)), .d (di .i8 y2.1)], .grow 5 1 (List.map keS4 y2.2)]) (EntersS.call (by kernel_rfl) rfl rfl) (wh_WriteFloatArray_littleEndian F TBinary_bigEndian.mk a1 y2.1 y2.2 _ q6) (ltb rfl) (.cons (SVLe.refl _) (.cons (SVLe.refl _) (.cons (SVLe.refl _) .nil))) rfl rfl rfl (.cons rfl (.cons rfl .nil)) (.cons ⟨rfl, rfl⟩ (.cons ⟨rfl, rfl⟩ .nil)) rfl (.cons (.inl rfl) (.cons (.inl rfl) (.cons (.inr rfl) .nil))) rfl ?_)
 rintro _ _ ⟨rfl, rfl⟩
 refine ⟨.d (.v (.nilIface)), [.fix 71 [.own 1, .d (di .i64 (0 : Int)), .d (di .i8 y5.1)], .grow 5 1 (List.map keS4 y5.2)], rfl, (.cons rfl (.cons rfl .nil)), ?_⟩
 refine AO.objs (obs' := [.fix 71 [.own 1, .d (di .i64 (0 : Int)), .d (di .i8 y5.1)], .grow 5 1 (List.map keS4 y5.2), .frame pv [(0, .ptr 0 0)]]) rfl ?_
 refine AO.op rfl (AOp.assign rfl rfl (ltb rfl) rfl ?_)
 refine AO.nil ?_
 change AC _ _ _ _
 obtain rfl := Option.some.inj h0
 refine AC.ret ?_
 change RetH _ _ _ _ _ _ .ret _
 refine reth (post := [.fix 71 [.own 1, .d (di .i64 (0 : Int)), .d (di .i8 y5.1)], .grow 5 1 (List.map keS4 y5.2)]) rfl rfl rfl rfl rfl ?_
 exact ⟨rfl, rfl⟩

def RH_WriteFlatCoords2_littleEndian : (Int × (List Int)) → SV → List Ob → Prop
 | z => fun r post => r = .d (.v (.nilIface)) ∧ post = [.fix 71 [.own 1, .d (di .i64 (0 : Int)), .d (di .i8 z.1)], .grow 5 1 (List.map keS4 z.2)]
set_option maxRecDepth 100000 in
set_option maxHeartbeats 4000000 in
/-- pub-orthodrome/pub/gogeom/encoding/wkbcommon.WriteFlatCoords2 -/
theorem wh_WriteFlatCoords2_littleEndian (F : Nat) (a0 : TBinary_bigEndian) (a1 : (List Nat)) (a2 : (List Int)) (a3 : Int) (b0 : Int) (b1 : (List Int)) (r0 : (Int × (List Int))) (h0 : p_WriteFlatCoords2_littleEndian F a0 a1 a2 a3 b0 b1 = some r0) : FnH Tryd.prog 28 [.ifc 54 (.ptr 0 0), .ifc 95 (.d (e_TBinary_bigEndian TBinary_bigEndian.mk)), .d (eS0 a1), .d (eS1 a2), .d (di .i64 a3)] [.fix 71 [.own 1, .d (di .i64 (0 : Int)), .d (di .i8 b0)], .grow 5 1 (List.map keS4 b1)] [0] (RH_WriteFlatCoords2_littleEndian r0) := by
 refine FnH.of (by kernel_rfl) Tryd.func28 rfl Tryd.ntmps28 rfl (leb rfl) fun W ok may pv => ?_
 unfold p_WriteFlatCoords2_littleEndian at h0
 refine AC.seq ?_
 refine AC.region ?_
 refine AO.op rfl (AOp.assign rfl rfl (ltb rfl) rfl ?_)
 refine AO.nil ?_
 change AC _ _ _ _
 refine AC.seq ?_
 refine AC.seq ?_
 refine AC.region ?_
 refine AO.op rfl (AOp.move rfl rfl (ltb rfl) rfl ?_)
 refine AO.op rfl (AOp.move rfl rfl (ltb rfl) rfl ?_)
 refine AO.op rfl (AOp.move rfl rfl (ltb rfl) rfl ?_)
 refine AO.op rfl (AOp.lenDs (n := a2.length) (cells := (List.map keS1 a2)) rfl rfl (ltb rfl) rfl el31 (by decide) (len1 _ _) ?_)
 refine AO.op rfl (AOp.i2i rfl rfl (ltb rfl) rfl Tryd.underlying3 Tryd.underlying43 rfl ?_)
 refine AO.subF 2 [0] rfl rfl ?_
 obtain ⟨y1, q2, h0⟩ := bind_elim h0
 refine AO.op rfl (AOp.callH (ys := [.ifc 54 (.ptr 0 0), .ifc 95 (.d (e_TBinary_bigEndian TBinary_bigEndian.mk)), .d (di .u32 (IntKind.u32.wrap ((a2.length : Nat) : Int)))]) (hs := [0, 1]) (pins := [0]) (unp := [1]) (pre := [.fix 71 [.own 1, .d (di .i64 (0 : Int)), .d (di .i8 b0)], .grow 5 1 (List.map keS4 b1)]) (EntersS.call (by kernel_rfl) rfl rfl) (wh_WriteUInt32_littleEndian TBinary_bigEndian.mk (IntKind.u32.wrap ((a2.length : Nat) : Int)) b0 b1 _ q2) (ltb rfl) (.cons (SVLe.refl _) (.cons (SVLe.refl _) (.cons (SVLe.refl _) .nil))) rfl rfl rfl (.cons rfl (.cons rfl .nil)) (.cons ⟨rfl, rfl⟩ (.cons ⟨rfl, rfl⟩ .nil)) rfl (.cons (.inl rfl) (.cons (.inl rfl) (.cons (.inr rfl) .nil))) rfl ?_)
 rintro _ _ ⟨rfl, rfl⟩
 refine ⟨.d (.v (.nilIface)), [.fix 71 [.own 1, .d (di .i64 (0 : Int)), .d (di .i8 y1.1)], .grow 5 1 (List.map keS4 y1.2)], rfl, (.cons rfl (.cons rfl .nil)), ?_⟩
 refine AO.objs (obs' := [.fix 71 [.own 1, .d (di .i64 (0 : Int)), .d (di .i8 y1.1)], .grow 5 1 (List.map keS4 y1.2), .frame pv [(0, .ptr 0 0)]]) rfl ?_
 refine AO.op rfl (AOp.assign rfl rfl (ltb rfl) rfl ?_)
 refine AO.nil ?_
 change AC _ _ _ _
 refine AC.seq ?_
 refine AC.region ?_
 refine AO.op rfl (AOp.move rfl rfl (ltb rfl) rfl ?_)
 refine AO.op rfl (AOp.nilNeq rfl rfl (ltb rfl) rfl imeth57 ?_)
 refine AO.nil ?_
 change AC _ _ _ _
 refine AC.condF rfl rfl ?_
 refine AC.skip ?_
 change AC _ _ _ _
 refine AC.seq ?_
 refine AC.region ?_
 refine AO.op rfl (AOp.assign rfl rfl (ltb rfl) rfl ?_)
 refine AO.nil ?_
 change AC _ _ _ _
 refine AC.seq ?_
 refine AC.seq ?_
 refine AC.region ?_
 refine AO.op rfl (AOp.move rfl rfl (ltb rfl) rfl ?_)
 refine AO.op rfl (AOp.lenDs (n := a2.length) (cells := (List.map keS1 a2)) rfl rfl (ltb rfl) rfl el31 (by decide) (len1 _ _) ?_)
 refine AO.op rfl (AOp.move rfl rfl (ltb rfl) rfl ?_)
 refine AO.nil ?_
 change AC _ _ _ _
 obtain ⟨o4, l5, h0⟩ := bind_elim h0
 refine AC.joinE (V := (Int × (List Int))) [] [] 3 (fun g6 => []) (fun g6 => [.fix 71 [.own 1, .d (di .i64 (0 : Int)), .d (di .i8 g6.1)], .grow 5 1 (List.map keS4 g6.2), .frame pv [(0, .ptr 0 0)]]) (fun g6 => p_WriteFlatCoords2_littleEndian_k1 g6 = some r0) rfl ?_ ?_
 ·refine AC.block ?_
  refine AC.loopP (V := (Int × Int × Int × (List Int))) (p_WriteFlatCoords2_littleEndian_l2 a1 a2 a3 F) o4 [0, 1, 2, 4, 25, 26] [12, 27] 3 (fun g7 => [(12, .d (di .i64 g7.1)), (27, .d (di .i64 g7.2.1))]) (fun g7 => [.fix 71 [.own 1, .d (di .i64 (0 : Int)), .d (di .i8 g7.2.2.1)], .grow 5 1 (List.map keS4 g7.2.2.2), .frame pv [(0, .ptr 0 0)]]) F ((0 : Int), (0 : Int), y1.1, y1.2) l5 rfl rfl (LeL.refl _) rfl rfl ?_
  intro n9 g7 h1
  unfold p_WriteFlatCoords2_littleEndian_l2 at h1
  refine AC.seq ?_
  refine AC.region ?_
  refine AO.op rfl (AOp.ilss rfl rfl (ltb rfl) rfl rfl ?_)
  refine AO.nil ?_
  change AC _ _ _ _
  refine AC.seq ?_
  refine AC.cond rfl (fun q10 => ?_) (fun q10 => ?_)
  ·replace h1 := cT h1 q10
   refine AC.skip ?_
   change AC _ _ _ _
   refine AC.seq ?_
   refine AC.block ?_
   refine AC.seq ?_
   refine AC.region ?_
   obtain ⟨x11, q12, h1⟩ := idx_elim h1
   refine AO.op rfl (AOp.indexDs (cells := (List.map keS1 a2)) rfl rfl (ltb rfl) rfl rfl el31 (by decide) q12.1 (lt1 q12.2) ?_)
   refine AO.op rfl (AOp.loadEp rfl rfl (ltb rfl) rfl agg3 (at1 q12.2) ?_)
   refine AO.op rfl (AOp.assign rfl rfl (ltb rfl) rfl ?_)
   refine AO.nil ?_
   change AC _ _ _ _
   refine AC.seq ?_
   refine AC.seq ?_
   refine AC.region ?_
   refine AO.op rfl (AOp.move rfl rfl (ltb rfl) rfl ?_)
   refine AO.op rfl (AOp.move rfl rfl (ltb rfl) rfl ?_)
   refine AO.op rfl (AOp.move rfl rfl (ltb rfl) rfl ?_)
   refine AO.op rfl (AOp.move rfl rfl (ltb rfl) rfl ?_)
   refine AO.op rfl (AOp.move rfl rfl (ltb rfl) rfl ?_)
   obtain ⟨q13, h1⟩ := need_elim h1
   refine AO.op rfl (AOp.sliceD (cells := (List.map keS0 a1)) (n := a1.length) (l := (g7.1).toNat) (hh := (x11).toNat) rfl rfl (ltb rfl) rfl (.inr ⟨_, _, _, rfl, rfl, q13.1.1, rfl⟩) (.inr ⟨_, _, _, rfl, rfl, q13.1.2, rfl⟩) el24 (by decide) (len1 _ _) q13.2.1 q13.2.2 (sub1 _ _ _ _) ?_)
   refine AO.op rfl (AOp.move rfl rfl (ltb rfl) rfl ?_)
   obtain ⟨y14, q15, h1⟩ := bind_elim h1
   refine AO.op rfl (AOp.callH (ys := [.ifc 54 (.ptr 0 0), .ifc 95 (.d (e_TBinary_bigEndian TBinary_bigEndian.mk)), .d (eS0 ((a1.drop (g7.1).toNat).take ((x11).toNat - (g7.1).toNat))), .d (di .i64 a3)]) (hs := [0, 1]) (pins := [0]) (unp := [1]) (pre := [.fix 71 [.own 1, .d (di .i64 (0 : Int)), .d (di .i8 g7.2.2.1)], .grow 5 1 (List.map keS4 g7.2.2.2)]) (EntersS.call (by kernel_rfl) rfl rfl) (wh_WriteFlatCoords1_littleEndian F TBinary_bigEndian.mk ((a1.drop (g7.1).toNat).take ((x11).toNat - (g7.1).toNat)) a3 g7.2.2.1 g7.2.2.2 _ q15) (ltb rfl) (.cons (SVLe.refl _) (.cons (SVLe.refl _) (.cons (SVLe.refl _) (.cons (SVLe.refl _) .nil)))) rfl rfl rfl (.cons rfl (.cons rfl .nil)) (.cons ⟨rfl, rfl⟩ (.cons ⟨rfl, rfl⟩ .nil)) rfl (.cons (.inl rfl) (.cons (.inl rfl) (.cons (.inr rfl) .nil))) rfl ?_)
   rintro _ _ ⟨rfl, rfl⟩
   refine ⟨.d (.v (.nilIface)), [.fix 71 [.own 1, .d (di .i64 (0 : Int)), .d (di .i8 y14.1)], .grow 5 1 (List.map keS4 y14.2)], rfl, (.cons rfl (.cons rfl .nil)), ?_⟩
   refine AO.objs (obs' := [.fix 71 [.own 1, .d (di .i64 (0 : Int)), .d (di .i8 y14.1)], .grow 5 1 (List.map keS4 y14.2), .frame pv [(0, .ptr 0 0)]]) rfl ?_
   refine AO.op rfl (AOp.assign rfl rfl (ltb rfl) rfl ?_)
   refine AO.nil ?_
   change AC _ _ _ _
   refine AC.seq ?_
   refine AC.region ?_
   refine AO.op rfl (AOp.move rfl rfl (ltb rfl) rfl ?_)
   refine AO.op rfl (AOp.nilNeq rfl rfl (ltb rfl) rfl imeth57 ?_)
   refine AO.nil ?_
   change AC _ _ _ _
   refine AC.condF rfl rfl ?_
   refine AC.skip ?_
   change AC _ _ _ _
   refine AC.region ?_
   refine AO.op rfl (AOp.move rfl rfl (ltb rfl) rfl ?_)
   refine AO.op rfl (AOp.assign rfl rfl (ltb rfl) rfl ?_)
   refine AO.nil ?_
   change AC _ _ _ _
   refine AC.region ?_
   obtain ⟨q17, h1⟩ := need_elim h1
   refine AO.op rfl (AOp.iadd rfl rfl (ltb rfl) rfl rfl rfl q17.1 q17.2 ?_)
   refine AO.op rfl (AOp.move rfl rfl (ltb rfl) rfl ?_)
   refine AO.nil ?_
   exact ⟨(x11, (g7.2.1 + (1 : Int)), y14.1, y14.2), _, rfl, (LeL.refl _), rfl, rfl, h1⟩
  replace h1 := cF h1 q10
  refine AC.exit ?_
  obtain rfl := Option.some.inj h1
  exact ⟨(g7.2.2.1, g7.2.2.2), _, rfl, (LeL.refl _), rfl, rfl, aftL h0⟩
 intro g6 h0
 unfold p_WriteFlatCoords2_littleEndian_k1 at h0
 change AC _ _ _ _
 refine AC.seq ?_
 refine AC.region ?_
 refine AO.op rfl (AOp.assign rfl rfl (ltb rfl) rfl ?_)
 refine AO.nil ?_
 change AC _ _ _ _
 obtain rfl := Option.some.inj h0
 refine AC.ret ?_
 change RetH _ _ _ _ _ _ .ret _
 refine reth (post := [.fix 71 [.own 1, .d (di .i64 (0 : Int)), .d (di .i8 g6.1)], .grow 5 1 (List.map keS4 g6.2)]) rfl rfl rfl rfl rfl ?_
 exact ⟨rfl, rfl⟩

set_option maxRecDepth 100000 in
set_option maxHeartbeats 4000000 in
/-- pub-orthodrome/impl.WriteFlat2 -/
theorem w_WriteFlat2 (F : Nat) (a0 : (List Nat)) (a1 : (List Int)) (a2 : Int) (a3 : Bool) (r0 : ((List Int) × Bool)) (h0 : p_WriteFlat2 F a0 a1 a2 a3 = some r0) : FnD Tryd.prog 10 [eS0 a0, eS1 a1, di .i64 a2, dbool a3] (fun r => r = .tu [eS4 r0.1, dbool r0.2]) := by
 refine FnD.wrap (g := 27) (m := 2) (fun vs w h => idle27 vs w h) (by kernel_rfl) Tryd.func10 rfl Tryd.ntmps10 rfl (leb rfl) fun W ok => ?_
 unfold p_WriteFlat2 at h0
 refine AW.seq ?_
 refine AC.region ?_
 refine AO.op rfl (AOp.alloc rfl rfl (ltb rfl) zero22 rfl ?_)
 refine AO.op rfl (AOp.alloc rfl rfl (ltb rfl) zero4 rfl ?_)
 refine AO.nil ?_
 refine ⟨rfl, ?_⟩
 refine AW.defer (caps := [.tmp 8, .tmp 9]) rfl rfl rfl (ltb rfl) rfl rfl rfl rfl (by kernel_rfl) rfl fun df => ?_
 refine AC.seq ?_
 refine AC.region ?_
 refine AO.op rfl (AOp.alloc rfl rfl (ltb rfl) zero71 rfl ?_)
 refine AO.nil ?_
 change AC _ _ _ _
 refine AC.seq ?_
 refine AC.region ?_
 refine AO.op rfl (AOp.makeIfc rfl rfl (ltb rfl) rfl conc54 ?_)
 refine AO.op rfl (AOp.move rfl rfl (ltb rfl) rfl ?_)
 refine AO.op rfl (AOp.inl [0, 1, 2, 8, 9, 10, 13] (by kernel_rfl) Tryd.func22 rfl Tryd.ntmps22 rfl rfl (ltb rfl) rfl (leb rfl) rfl ?_)
 intro fr1
 refine AC.seq ?_
 refine AC.region ?_
 refine AO.op rfl (AOp.assign rfl rfl (ltb rfl) rfl ?_)
 refine AO.nil ?_
 change AC _ _ _ _
 refine AC.seq ?_
 refine AC.seq ?_
 refine AC.region ?_
 refine AO.op rfl (AOp.move rfl rfl (ltb rfl) rfl ?_)
 refine AO.nil ?_
 change AC _ _ _ _
 refine AC.cond rfl (fun q2 => ?_) (fun q2 => ?_)
 ·replace h0 := cT h0 q2
  refine AC.seq ?_
  refine AC.region ?_
  refine AO.op rfl (AOp.loadG0 rfl rfl (ltb rfl) agg94 size94 ?_)
  refine AO.op rfl (AOp.makeIfc rfl rfl (ltb rfl) rfl conc94 ?_)
  refine AO.op rfl (AOp.assign rfl rfl (ltb rfl) rfl ?_)
  refine AO.nil ?_
  change AC _ _ _ _
  refine AC.ret ?_
  refine inlret (ob' := [.fix 22 [.d (.v (.slice none 0 0))], .fix 4 [.d (dbool false)], .fix 71 [.d (.v (.slice none 0 0)), .d (di .i64 (0 : Int)), .d (di .i8 (0 : Int))], .dead]) (e' := [(0, .d (eS0 a0)), (1, .d (eS1 a1)), (2, .d (di .i64 a2)), (8, .ptr 0 0), (9, .ptr 1 0), (10, .ptr 2 0), (13, .ifc 54 (.ptr 2 0))]) (r := .ifc 94 (.ag [])) rfl rfl rfl ?_
  change AO _ _ _ _ _
  refine AO.op rfl (AOp.move rfl rfl (ltb rfl) rfl ?_)
  refine AO.op rfl (AOp.move rfl rfl (ltb rfl) rfl ?_)
  refine AO.op rfl (AOp.move rfl rfl (ltb rfl) rfl ?_)
  refine AO.adoptO 2 0 5 1 rfl rfl ?_
  obtain ⟨y3, q4, h0⟩ := bind_elim h0
  refine AO.op rfl (AOp.callH (ys := [.ifc 54 (.ptr 0 0), .ifc 94 (.d (e_TBinary_bigEndian TBinary_bigEndian.mk)), .d (eS0 a0), .d (eS1 a1), .d (di .i64 a2)]) (hs := [2, 4]) (pins := [0]) (unp := [4]) (pre := [.fix 71 [.own 1, .d (di .i64 (0 : Int)), .d (di .i8 (0 : Int))], .grow 5 1 (List.map keS4 [])]) (EntersS.call (by kernel_rfl) rfl rfl) (wh_WriteFlatCoords2_bigEndian F TBinary_bigEndian.mk a0 a1 a2 (0 : Int) [] _ q4) (ltb rfl) (.cons (SVLe.refl _) (.cons (SVLe.ifcIn _ (SVLe.ag .nil)) (.cons (SVLe.refl _) (.cons (SVLe.refl _) (.cons (SVLe.refl _) .nil))))) rfl rfl rfl (.cons rfl (.cons rfl .nil)) (.cons ⟨rfl, rfl⟩ (.cons ⟨rfl, rfl⟩ .nil)) rfl (.cons (.inr rfl) (.cons (.inr rfl) (.cons (.inl rfl) (.cons (.inr rfl) (.cons (.inl rfl) .nil))))) rfl ?_)
  rintro _ _ ⟨rfl, rfl⟩
  refine ⟨.d (.v (.nilIface)), [.fix 71 [.own 4, .d (di .i64 (0 : Int)), .d (di .i8 y3.1)], .grow 5 1 (List.map keS4 y3.2)], rfl, (.cons rfl (.cons rfl .nil)), ?_⟩
  refine AO.objs (obs' := [.fix 22 [.d (.v (.slice none 0 0))], .fix 4 [.d (dbool false)], .fix 71 [.own 4, .d (di .i64 (0 : Int)), .d (di .i8 y3.1)], .dead, .grow 5 1 (List.map keS4 y3.2)]) rfl ?_
  refine AO.op rfl (AOp.assign rfl rfl (ltb rfl) rfl ?_)
  refine AO.nil ?_
  change AC _ _ _ _
  refine AC.seq ?_
  refine AC.freezeGO 2 4 0 rfl rfl rfl rfl rfl ?_
  refine AC.freezeP (ds := c_TBytes_Buffer (TBytes_Buffer.mk y3.2 (0 : Int) y3.1)) 10 2 rfl rfl rfl rfl (Nat.zero_le _) ?_
  obtain ⟨y6, q7, h0⟩ := bind_elim h0
  refine AC.drawS [0, 1, 2, 3] [3] [4] (fun L => [.fix 22 [(bif L 3 then .d (eS4 y6) else .d (.v (.slice none 0 0)))], .fix 4 [.d (dbool false)], .dead, .dead, .dead]) [(3, (fun _ => true))] mixed (by kernel_rfl) (fun L L' h => by simp only [h 3 (by decide)]) rfl ?_
  refine AS.op [10] [] [3] [] rfl rfl rfl (by kernel_rfl) (by kernel_rfl) rfl rfl (fun _ _ _ h => AOp.callD rfl rfl (ltb rfl) rfl rfl (w_Buffer_Bytes (TBytes_Buffer.mk y3.2 (0 : Int) y3.1) y6 q7) (by rintro _ rfl; exact h)) (by kernel_rfl) ?_
  refine AS.op [11] [] [] [3] rfl rfl rfl (by kernel_rfl) (by kernel_rfl) rfl rfl (fun _ _ _ h => AOp.move rfl rfl (ltb rfl) rfl h) (by kernel_rfl) ?_
  refine AS.op [21] [] [] [3] rfl rfl rfl (by kernel_rfl) (by kernel_rfl) rfl rfl (fun _ _ _ h => AOp.nilEq rfl rfl (ltb rfl) rfl imeth57 h) (by kernel_rfl) ?_
  refine AS.mid0 [8, 20] [] [3] [] rfl rfl rfl rfl (by kernel_rfl) (by kernel_rfl) rfl rfl (fun _ _ _ h => AOp.store rfl rfl rfl rfl size22 rfl rfl rfl (leb rfl) (AO.dropT h)) (by kernel_rfl) rfl ?_
  refine AS.done ?_
  refine AO.objs (obs' := [.fix 22 [.d (eS4 y6)], .fix 4 [.d (dbool false)], .dead, .dead, .dead]) rfl ?_
  refine AO.op rfl (AOp.store rfl rfl rfl rfl size4 rfl rfl rfl (leb rfl) ?_)
  refine AO.nil ?_
  change AC _ _ _ _
  refine AC.ret ?_
  change RetQ _ _ _ .ret _
  obtain rfl := Option.some.inj h0
  refine retq rfl rfl
 replace h0 := cF h0 q2
 refine AC.skip ?_
 change AC _ _ _ _
 refine AC.seq ?_
 refine AC.region ?_
 refine AO.op rfl (AOp.loadG0 rfl rfl (ltb rfl) agg95 size95 ?_)
 refine AO.op rfl (AOp.makeIfc rfl rfl (ltb rfl) rfl conc95 ?_)
 refine AO.op rfl (AOp.assign rfl rfl (ltb rfl) rfl ?_)
 refine AO.nil ?_
 change AC _ _ _ _
 refine AC.ret ?_
 refine inlret (ob' := [.fix 22 [.d (.v (.slice none 0 0))], .fix 4 [.d (dbool false)], .fix 71 [.d (.v (.slice none 0 0)), .d (di .i64 (0 : Int)), .d (di .i8 (0 : Int))], .dead]) (e' := [(0, .d (eS0 a0)), (1, .d (eS1 a1)), (2, .d (di .i64 a2)), (8, .ptr 0 0), (9, .ptr 1 0), (10, .ptr 2 0), (13, .ifc 54 (.ptr 2 0))]) (r := .ifc 95 (.ag [])) rfl rfl rfl ?_
 change AO _ _ _ _ _
 refine AO.op rfl (AOp.move rfl rfl (ltb rfl) rfl ?_)
 refine AO.op rfl (AOp.move rfl rfl (ltb rfl) rfl ?_)
 refine AO.op rfl (AOp.move rfl rfl (ltb rfl) rfl ?_)
 refine AO.adoptO 2 0 5 1 rfl rfl ?_
 obtain ⟨y8, q9, h0⟩ := bind_elim h0
 refine AO.op rfl (AOp.callH (ys := [.ifc 54 (.ptr 0 0), .ifc 95 (.d (e_TBinary_bigEndian TBinary_bigEndian.mk)), .d (eS0 a0), .d (eS1 a1), .d (di .i64 a2)]) (hs := [2, 4]) (pins := [0]) (unp := [4]) (pre := [.fix 71 [.own 1, .d (di .i64 (0 : Int)), .d (di .i8 (0 : Int))], .grow 5 1 (List.map keS4 [])]) (EntersS.call (by kernel_rfl) rfl rfl) (wh_WriteFlatCoords2_littleEndian F TBinary_bigEndian.mk a0 a1 a2 (0 : Int) [] _ q9) (ltb rfl) (.cons (SVLe.refl _) (.cons (SVLe.ifcIn _ (SVLe.ag .nil)) (.cons (SVLe.refl _) (.cons (SVLe.refl _) (.cons (SVLe.refl _) .nil))))) rfl rfl rfl (.cons rfl (.cons rfl .nil)) (.cons ⟨rfl, rfl⟩ (.cons ⟨rfl, rfl⟩ .nil)) rfl (.cons (.inr rfl) (.cons (.inr rfl) (.cons (.inl rfl) (.cons (.inr rfl) (.cons (.inl rfl) .nil))))) rfl ?_)
 rintro _ _ ⟨rfl, rfl⟩
 refine ⟨.d (.v (.nilIface)), [.fix 71 [.own 4, .d (di .i64 (0 : Int)), .d (di .i8 y8.1)], .grow 5 1 (List.map keS4 y8.2)], rfl, (.cons rfl (.cons rfl .nil)), ?_⟩
 refine AO.objs (obs' := [.fix 22 [.d (.v (.slice none 0 0))], .fix 4 [.d (dbool false)], .fix 71 [.own 4, .d (di .i64 (0 : Int)), .d (di .i8 y8.1)], .dead, .grow 5 1 (List.map keS4 y8.2)]) rfl ?_
 refine AO.op rfl (AOp.assign rfl rfl (ltb rfl) rfl ?_)
 refine AO.nil ?_
 change AC _ _ _ _
 refine AC.seq ?_
 refine AC.freezeGO 2 4 0 rfl rfl rfl rfl rfl ?_
 refine AC.freezeP (ds := c_TBytes_Buffer (TBytes_Buffer.mk y8.2 (0 : Int) y8.1)) 10 2 rfl rfl rfl rfl (Nat.zero_le _) ?_
 obtain ⟨y11, q12, h0⟩ := bind_elim h0
 refine AC.drawS [0, 1, 2, 3] [3] [4] (fun L => [.fix 22 [(bif L 3 then .d (eS4 y11) else .d (.v (.slice none 0 0)))], .fix 4 [.d (dbool false)], .dead, .dead, .dead]) [(3, (fun _ => true))] mixed (by kernel_rfl) (fun L L' h => by simp only [h 3 (by decide)]) rfl ?_
 refine AS.op [10] [] [3] [] rfl rfl rfl (by kernel_rfl) (by kernel_rfl) rfl rfl (fun _ _ _ h => AOp.callD rfl rfl (ltb rfl) rfl rfl (w_Buffer_Bytes (TBytes_Buffer.mk y8.2 (0 : Int) y8.1) y11 q12) (by rintro _ rfl; exact h)) (by kernel_rfl) ?_
 refine AS.op [11] [] [] [3] rfl rfl rfl (by kernel_rfl) (by kernel_rfl) rfl rfl (fun _ _ _ h => AOp.move rfl rfl (ltb rfl) rfl h) (by kernel_rfl) ?_
 refine AS.op [21] [] [] [3] rfl rfl rfl (by kernel_rfl) (by kernel_rfl) rfl rfl (fun _ _ _ h => AOp.nilEq rfl rfl (ltb rfl) rfl imeth57 h) (by kernel_rfl) ?_
 refine AS.mid0 [8, 20] [] [3] [] rfl rfl rfl rfl (by kernel_rfl) (by kernel_rfl) rfl rfl (fun _ _ _ h => AOp.store rfl rfl rfl rfl size22 rfl rfl rfl (leb rfl) (AO.dropT h)) (by kernel_rfl) rfl ?_
 refine AS.done ?_
 refine AO.objs (obs' := [.fix 22 [.d (eS4 y11)], .fix 4 [.d (dbool false)], .dead, .dead, .dead]) rfl ?_
 refine AO.op rfl (AOp.store rfl rfl rfl rfl size4 rfl rfl rfl (leb rfl) ?_)
 refine AO.nil ?_
 change AC _ _ _ _
 refine AC.ret ?_
 change RetQ _ _ _ .ret _
 obtain rfl := Option.some.inj h0
 refine retq rfl rfl

def RH_ReadFull_arr : (Sum (Int × (List Int) × Int × Int × (List Int)) (Int × (List Int) × Int × Int × (List Int))) → SV → List Ob → Prop
 | .inl z => fun r post => ∃ t0 : Nat, r = .tu [.d (di .i64 z.1), .ifc t0 (.any)] ∧ post = [.fix 71 [.d (eS4 z.2.1), .d (di .i64 z.2.2.1), .d (di .i8 z.2.2.2.1)], .fix 102 (List.map (fun z => SV.d (keS4 z)) z.2.2.2.2)]
 | .inr z => fun r post => r = .tu [.d (di .i64 z.1), .d (.v (.nilIface))] ∧ post = [.fix 71 [.d (eS4 z.2.1), .d (di .i64 z.2.2.1), .d (di .i8 z.2.2.2.1)], .fix 102 (List.map (fun z => SV.d (keS4 z)) z.2.2.2.2)]
set_option maxRecDepth 100000 in
set_option maxHeartbeats 4000000 in
/-- io.ReadFull -/
theorem wh_ReadFull_arr (a0 : Nat) (b0 : (List Int)) (b1 : Int) (b2 : Int) (b3 : (List Int)) (r0 : (Sum (Int × (List Int) × Int × Int × (List Int)) (Int × (List Int) × Int × Int × (List Int)))) (h0 : p_ReadFull_arr a0 b0 b1 b2 b3 = some r0) : FnH Tryd.prog 45 [.ifc 54 (.ptr 0 0), .sl 1 1 0 a0 a0] [.fix 71 [.d (eS4 b0), .d (di .i64 b1), .d (di .i8 b2)], .fix 102 (List.map (fun z => SV.d (keS4 z)) b3)] [0, 1] (RH_ReadFull_arr r0) := by
 refine FnH.of (by kernel_rfl) Tryd.func45 rfl Tryd.ntmps45 rfl (leb rfl) fun W ok may pv => ?_
 unfold p_ReadFull_arr at h0
 refine AC.seq ?_
 refine AC.region ?_
 refine AO.op rfl (AOp.assign rfl rfl (ltb rfl) rfl ?_)
 refine AO.op rfl (AOp.assign rfl rfl (ltb rfl) rfl ?_)
 refine AO.nil ?_
 change AC _ _ _ _
 refine AC.seq ?_
 refine AC.region ?_
 refine AO.op rfl (AOp.move rfl rfl (ltb rfl) rfl ?_)
 refine AO.op rfl (AOp.move rfl rfl (ltb rfl) rfl ?_)
 refine AO.op rfl (AOp.move rfl rfl (ltb rfl) rfl ?_)
 refine AO.op rfl (AOp.lenSl rfl rfl (ltb rfl) rfl el22 ?_)
 refine AO.op rfl (AOp.inl [4, 5] (by kernel_rfl) Tryd.func53 rfl Tryd.ntmps53 rfl rfl (ltb rfl) rfl (leb rfl) rfl ?_)
 intro fr1
 refine AC.seq ?_
 refine AC.region ?_
 refine AO.op rfl (AOp.assign rfl rfl (ltb rfl) rfl ?_)
 refine AO.op rfl (AOp.assign rfl rfl (ltb rfl) rfl ?_)
 refine AO.nil ?_
 change AC _ _ _ _
 refine AC.seq ?_
 refine AC.seq ?_
 refine AC.region ?_
 refine AO.op rfl (AOp.move rfl rfl (ltb rfl) rfl ?_)
 refine AO.op rfl (AOp.lenSl rfl rfl (ltb rfl) rfl el22 ?_)
 refine AO.op rfl (AOp.move rfl rfl (ltb rfl) rfl ?_)
 refine AO.op rfl (AOp.ilss rfl rfl (ltb rfl) rfl rfl ?_)
 refine AO.nil ?_
 change AC _ _ _ _
 refine AC.condF rfl (dlt_self _) ?_
 refine AC.skip ?_
 change AC _ _ _ _
 refine AC.seq ?_
 refine AC.block ?_
 refine AC.loopU ?_
 refine ACL.round ?_
 refine AC.seq ?_
 refine AC.seq ?_
 refine AC.region ?_
 refine AO.op rfl (AOp.move rfl rfl (ltb rfl) rfl ?_)
 refine AO.op rfl (AOp.move rfl rfl (ltb rfl) rfl ?_)
 refine AO.op rfl (AOp.ilss rfl rfl (ltb rfl) rfl rfl ?_)
 refine AO.op rfl (AOp.move rfl rfl (ltb rfl) rfl ?_)
 refine AO.dec (decide ((0 : Int) < ((a0 : Nat) : Int))) (fun q2 => ?_) (fun q2 => ?_)
 ·replace h0 := cT h0 q2
  refine AO.guardY rfl rfl rfl q2 (AOp.move rfl rfl (ltb rfl) rfl ?_)
  refine AO.guardY rfl rfl rfl q2 (AOp.nilEq rfl rfl (ltb rfl) rfl imeth57 ?_)
  refine AO.op rfl (AOp.pick rfl rfl (ltb rfl) rfl q2 rfl ?_)
  refine AO.nil ?_
  change AC _ _ _ _
  refine AC.condT rfl rfl ?_
  refine AC.skip ?_
  change AC _ _ _ _
  refine AC.block ?_
  refine AC.seq ?_
  refine AC.region ?_
  refine AO.op rfl (AOp.assign rfl rfl (ltb rfl) rfl ?_)
  refine AO.nil ?_
  change AC _ _ _ _
  refine AC.seq ?_
  refine AC.drawC 7 mixed (by kernel_rfl) rfl ?_
  refine AD.op [0] rfl (by kernel_rfl) rfl rfl (fun _ _ h => AOp.move rfl rfl (ltb rfl) rfl h) ?_
  refine AD.op [1] rfl (by kernel_rfl) rfl rfl (fun _ _ h => AOp.move rfl rfl (ltb rfl) rfl h) ?_
  refine AD.op [6] rfl (by kernel_rfl) rfl rfl (fun _ _ h => AOp.move rfl rfl (ltb rfl) rfl h) ?_
  refine AD.op [23, 24] rfl (by kernel_rfl) rfl rfl (fun _ _ h => AOp.sliceSl0 rfl rfl (ltb rfl) rfl rfl el22 h) ?_
  refine AD.op [22] rfl (by kernel_rfl) rfl rfl (fun _ _ h => AOp.makeMeth rfl rfl (ltb rfl) rfl h) ?_
  refine AD.op [26] rfl (by kernel_rfl) rfl rfl (fun _ _ h => AOp.nilMeth rfl rfl (ltb rfl) rfl rfl nilm54_Read h) ?_
  refine AD.op [22] rfl (by kernel_rfl) rfl rfl (fun _ _ h => AOp.move rfl rfl (ltb rfl) rfl h) ?_
  refine AD.done ?_
  refine AO.op rfl (AOp.inlE [0, 1, 2, 6, 7, 8] (EntersS.meth (by kernel_rfl) rfl rfl rfl meth54_Read rfl rfl) Tryd.func71 rfl Tryd.ntmps71 rfl (ltb rfl) (leb rfl) rfl ?_)
  intro fr3
  refine AC.seq ?_
  refine AC.region ?_
  refine AO.op rfl (AOp.assign rfl rfl (ltb rfl) rfl ?_)
  refine AO.op rfl (AOp.assign rfl rfl (ltb rfl) rfl ?_)
  refine AO.nil ?_
  change AC _ _ _ _
  refine AC.seq ?_
  refine AC.region ?_
  refine AO.op rfl (AOp.move rfl rfl (ltb rfl) rfl ?_)
  refine AO.op rfl (AOp.nilCheck rfl rfl (ltb rfl) rfl rfl ?_)
  refine AO.op rfl (AOp.fieldAddr rfl rfl (ltb rfl) rfl fo71_2 ?_)
  refine AO.op rfl (AOp.store rfl rfl rfl rfl size69 rfl rfl rfl (leb rfl) ?_)
  refine AO.nil ?_
  change AC _ _ _ _
  refine AC.seq ?_
  refine AC.seq ?_
  refine AC.region ?_
  refine AO.op rfl (AOp.move rfl rfl (ltb rfl) rfl ?_)
  refine AO.op rfl (AOp.inl [0, 1] (by kernel_rfl) Tryd.func75 rfl Tryd.ntmps75 rfl rfl (ltb rfl) rfl (leb rfl) rfl ?_)
  intro fr4
  refine AC.seq ?_
  refine AC.region ?_
  refine AO.op rfl (AOp.assign rfl rfl (ltb rfl) rfl ?_)
  refine AO.objs (obs' := [.fix 71 [.d (eS4 b0), .d (di .i64 b1), .d (di .i8 (0 : Int))], .fix 102 (List.map (fun z => SV.d (keS4 z)) b3), .frame pv [(0, .ptr 0 0), (1, .ptr 1 0)], .frame fr1 [(4, .d (di .i64 (0 : Int))), (5, .d (.v (.nilIface)))], .frame fr3 [(0, .ifc 54 (.ptr 0 0)), (1, .sl 1 1 0 a0 a0), (2, .d (di .i64 ((a0 : Nat) : Int))), (6, .d (di .i64 (0 : Int))), (7, .d (.v (.nilIface))), (8, .d (di .i64 (0 : Int)))], .frame fr4 [(0, .ptr 0 0), (1, .sl 1 1 0 a0 a0)]]) rfl ?_
  refine AO.nil ?_
  change AC _ _ _ _
  refine AC.seq ?_
  refine AC.draw 11 mixed (by kernel_rfl) ?_
  refine AD.op [0] rfl (by kernel_rfl) rfl rfl (fun _ _ h => AOp.move rfl rfl (ltb rfl) rfl h) ?_
  refine AD.op [3] rfl (by kernel_rfl) rfl rfl (fun _ _ h => AOp.nilCheck rfl rfl (ltb rfl) rfl rfl h) ?_
  refine AD.op [4] rfl (by kernel_rfl) rfl rfl (fun _ _ h => AOp.fieldAddr rfl rfl (ltb rfl) rfl fo71_0 h) ?_
  refine AD.op [5] rfl (by kernel_rfl) rfl rfl (fun _ _ h => AOp.load1 rfl rfl (ltb rfl) rfl agg22 rfl rfl h) ?_
  refine AD.op [6] rfl (by kernel_rfl) rfl rfl (fun _ _ h => AOp.lenDs (n := b0.length) (cells := (List.map keS4 b0)) rfl rfl (ltb rfl) rfl el22 (by decide) (len1 _ _) h) ?_
  refine AD.op [0] rfl (by kernel_rfl) rfl rfl (fun _ _ h => AOp.move rfl rfl (ltb rfl) rfl h) ?_
  refine AD.op [8] rfl (by kernel_rfl) rfl rfl (fun _ _ h => AOp.nilCheck rfl rfl (ltb rfl) rfl rfl h) ?_
  refine AD.op [9] rfl (by kernel_rfl) rfl rfl (fun _ _ h => AOp.fieldAddr rfl rfl (ltb rfl) rfl fo71_1 h) ?_
  refine AD.op [10] rfl (by kernel_rfl) rfl rfl (fun _ _ h => AOp.load1 rfl rfl (ltb rfl) rfl agg3 rfl rfl h) ?_
  refine AD.op [7, 11] rfl (by kernel_rfl) rfl rfl (fun _ _ h => AOp.ileq rfl rfl (ltb rfl) rfl rfl h) ?_
  refine AD.op [12] rfl (by kernel_rfl) rfl rfl (fun _ _ h => AOp.assign rfl rfl (ltb rfl) rfl h) ?_
  refine AD.done ?_
  refine AO.nil ?_
  change AC _ _ _ _
  refine AC.ret ?_
  refine inlret (ob' := [.fix 71 [.d (eS4 b0), .d (di .i64 b1), .d (di .i8 (0 : Int))], .fix 102 (List.map (fun z => SV.d (keS4 z)) b3), .frame pv [(0, .ptr 0 0), (1, .ptr 1 0)], .frame fr1 [(4, .d (di .i64 (0 : Int))), (5, .d (.v (.nilIface)))], .frame fr3 [(0, .ifc 54 (.ptr 0 0)), (1, .sl 1 1 0 a0 a0), (2, .d (di .i64 ((a0 : Nat) : Int))), (6, .d (di .i64 (0 : Int))), (7, .d (.v (.nilIface))), (8, .d (di .i64 (0 : Int)))], .dead]) (e' := [(0, .ptr 0 0), (1, .sl 1 1 0 a0 a0)]) (r := .d (dbool (decide (((b0.length : Nat) : Int) ≤ b1)))) rfl rfl rfl ?_
  change AO _ _ _ _ _
  refine AO.objs (obs' := [.fix 71 [.d (eS4 b0), .d (di .i64 b1), .d (di .i8 (0 : Int))], .fix 102 (List.map (fun z => SV.d (keS4 z)) b3), .frame pv [(0, .ptr 0 0), (1, .ptr 1 0)], .frame fr1 [(4, .d (di .i64 (0 : Int))), (5, .d (.v (.nilIface)))], .frame fr3 [(0, .ifc 54 (.ptr 0 0)), (1, .sl 1 1 0 a0 a0), (2, .d (di .i64 ((a0 : Nat) : Int))), (6, .d (di .i64 (0 : Int))), (7, .d (.v (.nilIface))), (8, .d (di .i64 (0 : Int)))], .dead]) rfl ?_
  refine AO.nil ?_
  change AC _ _ _ _
  refine AC.cond rfl (fun q5 => ?_) (fun q5 => ?_)
  ·replace h0 := cT h0 q5
   refine AC.seq ?_
   refine AC.region ?_
   refine AO.op rfl (AOp.move rfl rfl (ltb rfl) rfl ?_)
   refine AO.op rfl (AOp.inl [1] (by kernel_rfl) Tryd.func72 rfl Tryd.ntmps72 rfl rfl (ltb rfl) rfl (leb rfl) rfl ?_)
   intro fr6
   refine AC.seq ?_
   refine AC.region ?_
   refine AO.op rfl (AOp.move rfl rfl (ltb rfl) rfl ?_)
   refine AO.op rfl (AOp.move rfl rfl (ltb rfl) rfl ?_)
   refine AO.op rfl (AOp.nilCheck rfl rfl (ltb rfl) rfl rfl ?_)
   refine AO.op rfl (AOp.fieldAddr rfl rfl (ltb rfl) rfl fo71_0 ?_)
   refine AO.op rfl (AOp.load1 rfl rfl (ltb rfl) rfl agg22 rfl rfl ?_)
   obtain ⟨q7, h0⟩ := need_elim h0
   refine AO.op rfl (AOp.sliceD (cells := (List.map keS4 b0)) (n := b0.length) (l := 0) (hh := ((0 : Int)).toNat) rfl rfl (ltb rfl) rfl (.inl ⟨rfl, rfl⟩) (.inr ⟨_, _, _, rfl, rfl, q7.1.2, rfl⟩) el22 (by decide) (len1 _ _) q7.2.1 q7.2.2 (sub1 _ _ _ _) ?_)
   refine AO.op rfl (AOp.nilCheck rfl rfl (ltb rfl) rfl rfl ?_)
   refine AO.op rfl (AOp.fieldAddr rfl rfl (ltb rfl) rfl fo71_0 ?_)
   refine AO.op rfl (AOp.store rfl rfl rfl rfl size22 rfl rfl rfl (leb rfl) ?_)
   refine AO.objs (obs' := [.fix 71 [.d (eS4 ((b0.drop 0).take (((0 : Int)).toNat - 0))), .d (di .i64 b1), .d (di .i8 (0 : Int))], .fix 102 (List.map (fun z => SV.d (keS4 z)) b3), .frame pv [(0, .ptr 0 0), (1, .ptr 1 0)], .frame fr1 [(4, .d (di .i64 (0 : Int))), (5, .d (.v (.nilIface)))], .frame fr3 [(0, .ifc 54 (.ptr 0 0)), (1, .sl 1 1 0 a0 a0), (2, .d (di .i64 ((a0 : Nat) : Int))), (6, .d (di .i64 (0 : Int))), (7, .d (.v (.nilIface))), (8, .d (di .i64 (0 : Int)))], .dead, .frame fr6 [(1, .sl 1 1 0 a0 a0)]]) rfl ?_
   refine AO.nil ?_
   change AC _ _ _ _
   refine AC.seq ?_
   refine AC.region ?_
   refine AO.op rfl (AOp.move rfl rfl (ltb rfl) rfl ?_)
   refine AO.op rfl (AOp.nilCheck rfl rfl (ltb rfl) rfl rfl ?_)
   refine AO.op rfl (AOp.fieldAddr rfl rfl (ltb rfl) rfl fo71_1 ?_)
   refine AO.op rfl (AOp.store rfl rfl rfl rfl size3 rfl rfl rfl (leb rfl) ?_)
   refine AO.nil ?_
   change AC _ _ _ _
   refine AC.region ?_
   refine AO.op rfl (AOp.move rfl rfl (ltb rfl) rfl ?_)
   refine AO.op rfl (AOp.nilCheck rfl rfl (ltb rfl) rfl rfl ?_)
   refine AO.op rfl (AOp.fieldAddr rfl rfl (ltb rfl) rfl fo71_2 ?_)
   refine AO.op rfl (AOp.store rfl rfl rfl rfl size69 rfl rfl rfl (leb rfl) ?_)
   refine AO.nil ?_
   refine inlend (ob' := [.fix 71 [.d (eS4 ((b0.drop 0).take (((0 : Int)).toNat - 0))), .d (di .i64 (0 : Int)), .d (di .i8 (0 : Int))], .fix 102 (List.map (fun z => SV.d (keS4 z)) b3), .frame pv [(0, .ptr 0 0), (1, .ptr 1 0)], .frame fr1 [(4, .d (di .i64 (0 : Int))), (5, .d (.v (.nilIface)))], .frame fr3 [(0, .ifc 54 (.ptr 0 0)), (1, .sl 1 1 0 a0 a0), (2, .d (di .i64 ((a0 : Nat) : Int))), (6, .d (di .i64 (0 : Int))), (7, .d (.v (.nilIface))), (8, .d (di .i64 (0 : Int)))], .dead, .dead]) (e' := [(1, .sl 1 1 0 a0 a0)]) (r := .tu []) rfl rfl rfl ?_
   change AO _ _ _ _ _
   refine AO.objs (obs' := [.fix 71 [.d (eS4 ((b0.drop 0).take (((0 : Int)).toNat - 0))), .d (di .i64 (0 : Int)), .d (di .i8 (0 : Int))], .fix 102 (List.map (fun z => SV.d (keS4 z)) b3), .frame pv [(0, .ptr 0 0), (1, .ptr 1 0)], .frame fr1 [(4, .d (di .i64 (0 : Int))), (5, .d (.v (.nilIface)))], .frame fr3 [(0, .ifc 54 (.ptr 0 0)), (1, .sl 1 1 0 a0 a0), (2, .d (di .i64 ((a0 : Nat) : Int))), (6, .d (di .i64 (0 : Int))), (7, .d (.v (.nilIface))), (8, .d (di .i64 (0 : Int)))], .dead, .dead]) rfl ?_
   refine AO.nil ?_
   change AC _ _ _ _
   refine AC.seq ?_
   refine AC.seq ?_
   refine AC.region ?_
   refine AO.op rfl (AOp.move rfl rfl (ltb rfl) rfl ?_)
   refine AO.op rfl (AOp.lenSl rfl rfl (ltb rfl) rfl el22 ?_)
   refine AO.op rfl (AOp.ieql rfl rfl (ltb rfl) rfl rfl ?_)
   refine AO.nil ?_
   change AC _ _ _ _
   refine AC.cond rfl (fun q8 => ?_) (fun q8 => ?_)
   ·replace h0 := cT h0 q8
    cases h0
   replace h0 := cF h0 q8
   refine AC.skip ?_
   change AC _ _ _ _
   refine AC.seq ?_
   refine AC.draw 3 mixed (by kernel_rfl) ?_
   refine AD.op [] rfl (by kernel_rfl) rfl rfl (fun _ _ h => AOp.loadEV rfl rfl (ltb rfl) rfl agg57 (by simp [GlobsP]) h) ?_
   refine AD.op [] rfl (by kernel_rfl) rfl rfl (fun _ _ h => AOp.assign rfl rfl (ltb rfl) rfl h) ?_
   refine AD.op [16] rfl (by kernel_rfl) rfl rfl (fun _ _ h => AOp.assign rfl rfl (ltb rfl) rfl h) ?_
   refine AD.done ?_
   refine AO.nil ?_
   change AC _ _ _ _
   refine AC.ret ?_
   refine inlret (ob' := [.fix 71 [.d (eS4 ((b0.drop 0).take (((0 : Int)).toNat - 0))), .d (di .i64 (0 : Int)), .d (di .i8 (0 : Int))], .fix 102 (List.map (fun z => SV.d (keS4 z)) b3), .frame pv [(0, .ptr 0 0), (1, .ptr 1 0)], .frame fr1 [(4, .d (di .i64 (0 : Int))), (5, .d (.v (.nilIface)))], .dead, .dead, .dead]) (e' := [(0, .ifc 54 (.ptr 0 0)), (1, .sl 1 1 0 a0 a0), (2, .d (di .i64 ((a0 : Nat) : Int))), (6, .d (di .i64 (0 : Int))), (7, .d (.v (.nilIface))), (8, .d (di .i64 (0 : Int)))]) (r := .tu [.d (di .i64 (0 : Int)), .d (.v (errV W 5))]) rfl rfl rfl ?_
   change AO _ _ _ _ _
   refine AO.objs (obs' := [.fix 71 [.d (eS4 ((b0.drop 0).take (((0 : Int)).toNat - 0))), .d (di .i64 (0 : Int)), .d (di .i8 (0 : Int))], .fix 102 (List.map (fun z => SV.d (keS4 z)) b3), .frame pv [(0, .ptr 0 0), (1, .ptr 1 0)], .frame fr1 [(4, .d (di .i64 (0 : Int))), (5, .d (.v (.nilIface)))], .dead, .dead, .dead]) rfl ?_
   refine AO.nil ?_
   change AD _ _ _ _ _
   refine AD.op [29] rfl (by kernel_rfl) rfl rfl (fun _ _ h => AOp.move rfl rfl (ltb rfl) rfl h) ?_
   first | refine AD.op [21] rfl (by kernel_rfl) rfl rfl (fun _ _ h => AOp.extractD rfl rfl (ltb rfl) rfl rfl h) ?_ | refine AD.op [21] rfl (by kernel_rfl) rfl rfl (fun _ _ h => AOp.extract rfl rfl (ltb rfl) rfl rfl h) ?_
   first | refine AD.op [21] rfl (by kernel_rfl) rfl rfl (fun _ _ h => AOp.extractD rfl rfl (ltb rfl) rfl rfl h) ?_ | refine AD.op [21] rfl (by kernel_rfl) rfl rfl (fun _ _ h => AOp.extract rfl rfl (ltb rfl) rfl rfl h) ?_
   refine AD.op [30] rfl (by kernel_rfl) rfl rfl (fun _ _ h => AOp.assign rfl rfl (ltb rfl) rfl h) ?_
   refine AD.op [31] rfl (by kernel_rfl) rfl rfl (fun _ _ h => AOp.assign rfl rfl (ltb rfl) rfl h) ?_
   refine AD.done ?_
   refine AO.nil ?_
   change AC _ _ _ _
   refine AC.region ?_
   refine AO.op rfl (AOp.move rfl rfl (ltb rfl) rfl ?_)
   refine AO.op rfl (AOp.move rfl rfl (ltb rfl) rfl ?_)
   refine AO.op rfl (AOp.iadd rfl rfl (ltb rfl) rfl rfl (show (0 : Int) + (0 : Int) = (0 : Int) by decide) (by decide) (by decide) ?_)
   refine AO.op rfl (AOp.assign rfl rfl (ltb rfl) rfl ?_)
   refine AO.nil ?_
   change ACL _ _ _ _
   refine ACL.round ?_
   refine AC.seq ?_
   refine AC.seq ?_
   refine AC.region ?_
   refine AO.op rfl (AOp.move rfl rfl (ltb rfl) rfl ?_)
   refine AO.op rfl (AOp.move rfl rfl (ltb rfl) rfl ?_)
   refine AO.op rfl (AOp.ilss rfl rfl (ltb rfl) rfl rfl ?_)
   refine AO.op rfl (AOp.move rfl rfl (ltb rfl) rfl ?_)
   refine AO.guardY rfl rfl rfl q2 (AOp.move rfl rfl (ltb rfl) rfl ?_)
   refine AO.guardY rfl rfl rfl q2 (AOp.errEql rfl rfl (ltb rfl) rfl (by simp [GlobsP]) imeth57 ?_)
   refine AO.op rfl (AOp.pick rfl rfl (ltb rfl) rfl q2 rfl ?_)
   refine AO.nil ?_
   change AC _ _ _ _
   refine AC.condF rfl rfl ?_
   refine AC.exit ?_
   change AC _ _ _ _
   refine AC.seq ?_
   refine AC.seq ?_
   refine AC.region ?_
   refine AO.op rfl (AOp.move rfl rfl (ltb rfl) rfl ?_)
   refine AO.op rfl (AOp.move rfl rfl (ltb rfl) rfl ?_)
   refine AO.op rfl (AOp.igeq rfl rfl (ltb rfl) rfl rfl ?_)
   refine AO.nil ?_
   change AC _ _ _ _
   refine AC.condF rfl (dlt_ge q2) ?_
   refine AC.seq ?_
   refine AC.region ?_
   refine AO.op rfl (AOp.move rfl rfl (ltb rfl) rfl ?_)
   refine AO.op rfl (AOp.igtr rfl rfl (ltb rfl) rfl rfl ?_)
   refine AO.op rfl (AOp.move rfl rfl (ltb rfl) rfl ?_)
   refine AO.guardN rfl rfl rfl (ltb rfl) rfl rfl ?_
   refine AO.guardN rfl rfl rfl (ltb rfl) rfl rfl ?_
   refine AO.guardN rfl rfl rfl (ltb rfl) rfl rfl ?_
   refine AO.op rfl (AOp.pickN rfl rfl (ltb rfl) rfl rfl rfl ?_)
   refine AO.nil ?_
   change AC _ _ _ _
   refine AC.condF rfl rfl ?_
   refine AC.skip ?_
   change AC _ _ _ _
   refine AC.ret ?_
   refine inlret (ob' := [.fix 71 [.d (eS4 ((b0.drop 0).take (((0 : Int)).toNat - 0))), .d (di .i64 (0 : Int)), .d (di .i8 (0 : Int))], .fix 102 (List.map (fun z => SV.d (keS4 z)) b3), .frame pv [(0, .ptr 0 0), (1, .ptr 1 0)], .dead, .dead, .dead, .dead]) (e' := [(4, .d (di .i64 (0 : Int))), (5, .d (.v (.nilIface)))]) (r := .tu [.d (di .i64 (0 : Int)), .d (.v (errV W 5))]) rfl rfl rfl ?_
   change AO _ _ _ _ _
   first | refine AO.op rfl (AOp.extractD rfl rfl (ltb rfl) rfl rfl ?_) | refine AO.op rfl (AOp.extract rfl rfl (ltb rfl) rfl rfl ?_)
   first | refine AO.op rfl (AOp.extractD rfl rfl (ltb rfl) rfl rfl ?_) | refine AO.op rfl (AOp.extract rfl rfl (ltb rfl) rfl rfl ?_)
   refine AO.op rfl (AOp.assign rfl rfl (ltb rfl) rfl ?_)
   refine AO.op rfl (AOp.assign rfl rfl (ltb rfl) rfl ?_)
   refine AO.objs (obs' := [.fix 71 [.d (eS4 ((b0.drop 0).take (((0 : Int)).toNat - 0))), .d (di .i64 (0 : Int)), .d (di .i8 (0 : Int))], .fix 102 (List.map (fun z => SV.d (keS4 z)) b3), .frame pv [(0, .ptr 0 0), (1, .ptr 1 0)], .dead, .dead, .dead, .dead]) rfl ?_
   refine AO.nil ?_
   change AC _ _ _ _
   refine AC.errAny 5 rfl (by simp [GlobsP]) fun u9 => ?_
   obtain rfl := Option.some.inj h0
   refine AC.ret ?_
   change RetH _ _ _ _ _ _ .ret _
   refine reth (post := [.fix 71 [.d (eS4 ((b0.drop 0).take (((0 : Int)).toNat - 0))), .d (di .i64 (0 : Int)), .d (di .i8 (0 : Int))], .fix 102 (List.map (fun z => SV.d (keS4 z)) b3)]) rfl rfl rfl rfl (under_all (.cons ⟨rfl, rfl⟩ (.cons (unders_fixl fun _ => rfl) .nil))) ?_
   exact ⟨_, rfl, rfl⟩
  replace h0 := cF h0 q5
  refine AC.skip ?_
  change AC _ _ _ _
  refine AC.seq ?_
  refine AC.draw 10 mixed (by kernel_rfl) ?_
  refine AD.op [1] rfl (by kernel_rfl) rfl rfl (fun _ _ h => AOp.move rfl rfl (ltb rfl) rfl h) ?_
  refine AD.op [0] rfl (by kernel_rfl) rfl rfl (fun _ _ h => AOp.move rfl rfl (ltb rfl) rfl h) ?_
  refine AD.op [18] rfl (by kernel_rfl) rfl rfl (fun _ _ h => AOp.nilCheck rfl rfl (ltb rfl) rfl rfl h) ?_
  refine AD.op [19] rfl (by kernel_rfl) rfl rfl (fun _ _ h => AOp.fieldAddr rfl rfl (ltb rfl) rfl fo71_0 h) ?_
  refine AD.op [20] rfl (by kernel_rfl) rfl rfl (fun _ _ h => AOp.load1 rfl rfl (ltb rfl) rfl agg22 rfl rfl h) ?_
  refine AD.op [0] rfl (by kernel_rfl) rfl rfl (fun _ _ h => AOp.move rfl rfl (ltb rfl) rfl h) ?_
  refine AD.op [22] rfl (by kernel_rfl) rfl rfl (fun _ _ h => AOp.nilCheck rfl rfl (ltb rfl) rfl rfl h) ?_
  refine AD.op [23] rfl (by kernel_rfl) rfl rfl (fun _ _ h => AOp.fieldAddr rfl rfl (ltb rfl) rfl fo71_1 h) ?_
  refine AD.op [24] rfl (by kernel_rfl) rfl rfl (fun _ _ h => AOp.load1 rfl rfl (ltb rfl) rfl agg3 rfl rfl h) ?_
  obtain ⟨q10, h0⟩ := need_elim h0
  refine AD.op [21, 25] rfl (by kernel_rfl) rfl rfl (fun _ _ h => AOp.sliceD (cells := (List.map keS4 b0)) (n := b0.length) (l := (b1).toNat) (hh := b0.length) rfl rfl (ltb rfl) rfl (.inr ⟨_, _, _, rfl, rfl, q10.1.1, rfl⟩) (.inl ⟨rfl, rfl⟩) el22 (by decide) (len1 _ _) q10.2.1 q10.2.2 (sub1 _ _ _ _) h) ?_
  refine AD.done ?_
  obtain ⟨q11, h0⟩ := need_elim h0
  obtain ⟨m12, q13, h0⟩ := bind_elim h0
  obtain ⟨c14, q15, h0⟩ := bind_elim h0
  refine AO.op rfl (AOp.copyL2 (k := keS4) (l := b3) (l2 := ((b0.drop (b1).toNat).take (b0.length - (b1).toNat))) (m := m12) rfl rfl (ltb rfl) rfl rfl el22 rfl q11 (fun _ => rfl) ((Option.some.inj q13).symm) (Option.some.inj q15) ?_)
  refine AO.op rfl (AOp.assign rfl rfl (ltb rfl) rfl ?_)
  refine AO.nil ?_
  change AC _ _ _ _
  refine AC.seq ?_
  refine AC.region ?_
  refine AO.op rfl (AOp.move rfl rfl (ltb rfl) rfl ?_)
  refine AO.op rfl (AOp.nilCheck rfl rfl (ltb rfl) rfl rfl ?_)
  refine AO.op rfl (AOp.fieldAddr rfl rfl (ltb rfl) rfl fo71_1 ?_)
  refine AO.op rfl (AOp.load1 rfl rfl (ltb rfl) rfl agg3 rfl rfl ?_)
  refine AO.op rfl (AOp.move rfl rfl (ltb rfl) rfl ?_)
  obtain ⟨q16, h0⟩ := need_elim h0
  refine AO.op rfl (AOp.iadd rfl rfl (ltb rfl) rfl rfl rfl q16.1 q16.2 ?_)
  refine AO.op rfl (AOp.nilCheck rfl rfl (ltb rfl) rfl rfl ?_)
  refine AO.op rfl (AOp.fieldAddr rfl rfl (ltb rfl) rfl fo71_1 ?_)
  refine AO.op rfl (AOp.store rfl rfl rfl rfl size3 rfl rfl rfl (leb rfl) ?_)
  refine AO.nil ?_
  change AC _ _ _ _
  refine AC.joinP (V := Int) [4] [] 6 (fun g17 => []) (fun g17 => [.fix 71 [.d (eS4 b0), .d (di .i64 (b1 + ((m12 : Nat) : Int))), .d (di .i8 g17)], .fix 102 (List.map (fun z => SV.d (keS4 z)) c14), .frame pv [(0, .ptr 0 0), (1, .ptr 1 0)], .frame fr1 [(4, .d (di .i64 (0 : Int))), (5, .d (.v (.nilIface)))], .frame fr3 [(0, .ifc 54 (.ptr 0 0)), (1, .sl 1 1 0 a0 a0), (2, .d (di .i64 ((a0 : Nat) : Int))), (6, .d (di .i64 (0 : Int))), (7, .d (.v (.nilIface))), (8, .d (di .i64 (0 : Int)))], .dead]) (fun g17 => (p_ReadFull_arr_k1 a0 b0 b1 m12 c14) g17 = some r0) rfl ?_ ?_
  ·refine AC.seq ?_
   refine AC.region ?_
   refine AO.op rfl (AOp.move rfl rfl (ltb rfl) rfl ?_)
   refine AO.op rfl (AOp.igtr rfl rfl (ltb rfl) rfl rfl ?_)
   refine AO.nil ?_
   change AC _ _ _ _
   refine AC.cond rfl (fun q31 => ?_) (fun q31 => ?_)
   ·replace h0 := cT h0 q31
    refine AC.region ?_
    refine AO.op rfl (AOp.move rfl rfl (ltb rfl) rfl ?_)
    refine AO.op rfl (AOp.nilCheck rfl rfl (ltb rfl) rfl rfl ?_)
    refine AO.op rfl (AOp.fieldAddr rfl rfl (ltb rfl) rfl fo71_2 ?_)
    refine AO.op rfl (AOp.store rfl rfl rfl rfl size69 rfl rfl rfl (leb rfl) ?_)
    refine AO.nil ?_
    exact ⟨(-1 : Int), _, rfl, (LeL.refl _), rfl, (okU_mk rfl (okU_cons rfl (okU_cons (okU_fixl (fun _ => rfl)) (okU_cons rfl (okU_cons rfl (okU_cons rfl (okU_cons rfl okU_nil))))))), h0⟩
   replace h0 := cF h0 q31
   refine AC.skip ?_
   exact ⟨(0 : Int), _, rfl, (LeL.refl _), rfl, (okU_mk rfl (okU_cons rfl (okU_cons (okU_fixl (fun _ => rfl)) (okU_cons rfl (okU_cons rfl (okU_cons rfl (okU_cons rfl okU_nil))))))), h0⟩
  intro g17 h0
  unfold p_ReadFull_arr_k1 at h0
  refine AC.seq ?_
  refine AC.region ?_
  refine AO.op rfl (AOp.move rfl rfl (ltb rfl) rfl ?_)
  refine AO.op rfl (AOp.assign rfl rfl (ltb rfl) rfl ?_)
  refine AO.op rfl (AOp.assign rfl rfl (ltb rfl) rfl ?_)
  refine AO.nil ?_
  change AC _ _ _ _
  refine AC.ret ?_
  refine inlret (ob' := [.fix 71 [.d (eS4 b0), .d (di .i64 (b1 + ((m12 : Nat) : Int))), .d (di .i8 g17)], .fix 102 (List.map (fun z => SV.d (keS4 z)) c14), .frame pv [(0, .ptr 0 0), (1, .ptr 1 0)], .frame fr1 [(4, .d (di .i64 (0 : Int))), (5, .d (.v (.nilIface)))], .dead, .dead]) (e' := [(0, .ifc 54 (.ptr 0 0)), (1, .sl 1 1 0 a0 a0), (2, .d (di .i64 ((a0 : Nat) : Int))), (6, .d (di .i64 (0 : Int))), (7, .d (.v (.nilIface))), (8, .d (di .i64 (0 : Int)))]) (r := .tu [.d (di .i64 ((m12 : Nat) : Int)), .d (.v (.nilIface))]) rfl rfl rfl ?_
  change AO _ _ _ _ _
  refine AO.objs (obs' := [.fix 71 [.d (eS4 b0), .d (di .i64 (b1 + ((m12 : Nat) : Int))), .d (di .i8 g17)], .fix 102 (List.map (fun z => SV.d (keS4 z)) c14), .frame pv [(0, .ptr 0 0), (1, .ptr 1 0)], .frame fr1 [(4, .d (di .i64 (0 : Int))), (5, .d (.v (.nilIface)))], .dead, .dead]) rfl ?_
  refine AO.nil ?_
  change AD _ _ _ _ _
  refine AD.op [29] rfl (by kernel_rfl) rfl rfl (fun _ _ h => AOp.move rfl rfl (ltb rfl) rfl h) ?_
  first | refine AD.op [21] rfl (by kernel_rfl) rfl rfl (fun _ _ h => AOp.extractD rfl rfl (ltb rfl) rfl rfl h) ?_ | refine AD.op [21] rfl (by kernel_rfl) rfl rfl (fun _ _ h => AOp.extract rfl rfl (ltb rfl) rfl rfl h) ?_
  first | refine AD.op [21] rfl (by kernel_rfl) rfl rfl (fun _ _ h => AOp.extractD rfl rfl (ltb rfl) rfl rfl h) ?_ | refine AD.op [21] rfl (by kernel_rfl) rfl rfl (fun _ _ h => AOp.extract rfl rfl (ltb rfl) rfl rfl h) ?_
  refine AD.op [30] rfl (by kernel_rfl) rfl rfl (fun _ _ h => AOp.assign rfl rfl (ltb rfl) rfl h) ?_
  refine AD.op [31] rfl (by kernel_rfl) rfl rfl (fun _ _ h => AOp.assign rfl rfl (ltb rfl) rfl h) ?_
  refine AD.done ?_
  refine AO.nil ?_
  change AC _ _ _ _
  refine AC.region ?_
  refine AO.op rfl (AOp.move rfl rfl (ltb rfl) rfl ?_)
  refine AO.op rfl (AOp.move rfl rfl (ltb rfl) rfl ?_)
  obtain ⟨q18, h0⟩ := need_elim h0
  refine AO.op rfl (AOp.iadd rfl rfl (ltb rfl) rfl rfl (Int.zero_add _) q18.1 q18.2 ?_)
  refine AO.op rfl (AOp.assign rfl rfl (ltb rfl) rfl ?_)
  refine AO.nil ?_
  change ACL _ _ _ _
  refine ACL.round ?_
  refine AC.seq ?_
  refine AC.seq ?_
  refine AC.region ?_
  refine AO.op rfl (AOp.move rfl rfl (ltb rfl) rfl ?_)
  refine AO.op rfl (AOp.move rfl rfl (ltb rfl) rfl ?_)
  refine AO.op rfl (AOp.ilss rfl rfl (ltb rfl) rfl rfl ?_)
  refine AO.op rfl (AOp.move rfl rfl (ltb rfl) rfl ?_)
  refine AO.dec (decide (((m12 : Nat) : Int) < ((a0 : Nat) : Int))) (fun q19 => ?_) (fun q19 => ?_)
  ·replace h0 := cT h0 q19
   refine AO.guardY rfl rfl rfl q19 (AOp.move rfl rfl (ltb rfl) rfl ?_)
   refine AO.guardY rfl rfl rfl q19 (AOp.nilEq rfl rfl (ltb rfl) rfl imeth57 ?_)
   refine AO.op rfl (AOp.pick rfl rfl (ltb rfl) rfl q19 rfl ?_)
   refine AO.nil ?_
   change AC _ _ _ _
   refine AC.condT rfl rfl ?_
   refine AC.skip ?_
   change AC _ _ _ _
   refine AC.block ?_
   refine AC.seq ?_
   refine AC.region ?_
   refine AO.op rfl (AOp.assign rfl rfl (ltb rfl) rfl ?_)
   refine AO.nil ?_
   change AC _ _ _ _
   refine AC.seq ?_
   refine AC.drawC 7 mixed (by kernel_rfl) rfl ?_
   refine AD.op [0] rfl (by kernel_rfl) rfl rfl (fun _ _ h => AOp.move rfl rfl (ltb rfl) rfl h) ?_
   refine AD.op [1] rfl (by kernel_rfl) rfl rfl (fun _ _ h => AOp.move rfl rfl (ltb rfl) rfl h) ?_
   refine AD.op [6] rfl (by kernel_rfl) rfl rfl (fun _ _ h => AOp.move rfl rfl (ltb rfl) rfl h) ?_
   obtain ⟨q20, h0⟩ := need_elim h0
   refine AD.op [23, 24] rfl (by kernel_rfl) rfl rfl (fun _ _ h => AOp.sliceSl (cap := a0) rfl rfl (ltb rfl) rfl rfl el22 q20.1 q20.2 h) ?_
   refine AD.op [22] rfl (by kernel_rfl) rfl rfl (fun _ _ h => AOp.makeMeth rfl rfl (ltb rfl) rfl h) ?_
   refine AD.op [26] rfl (by kernel_rfl) rfl rfl (fun _ _ h => AOp.nilMeth rfl rfl (ltb rfl) rfl rfl nilm54_Read h) ?_
   refine AD.op [22] rfl (by kernel_rfl) rfl rfl (fun _ _ h => AOp.move rfl rfl (ltb rfl) rfl h) ?_
   refine AD.done ?_
   refine AO.op rfl (AOp.inlE [0, 1, 2, 6, 7, 8, 21, 29, 30, 31] (EntersS.meth (by kernel_rfl) rfl rfl rfl meth54_Read rfl rfl) Tryd.func71 rfl Tryd.ntmps71 rfl (ltb rfl) (leb rfl) rfl ?_)
   intro fr21
   refine AC.seq ?_
   refine AC.region ?_
   refine AO.op rfl (AOp.assign rfl rfl (ltb rfl) rfl ?_)
   refine AO.op rfl (AOp.assign rfl rfl (ltb rfl) rfl ?_)
   refine AO.objs (obs' := [.fix 71 [.d (eS4 b0), .d (di .i64 (b1 + ((m12 : Nat) : Int))), .d (di .i8 g17)], .fix 102 (List.map (fun z => SV.d (keS4 z)) c14), .frame pv [(0, .ptr 0 0), (1, .ptr 1 0)], .frame fr1 [(4, .d (di .i64 (0 : Int))), (5, .d (.v (.nilIface)))], .dead, .dead, .frame fr21 [(0, .ifc 54 (.ptr 0 0)), (1, .sl 1 1 0 a0 a0), (2, .d (di .i64 ((a0 : Nat) : Int))), (6, .d (di .i64 ((m12 : Nat) : Int))), (7, .d (.v (.nilIface))), (8, .d (di .i64 (0 : Int))), (21, .tu [.d (di .i64 ((m12 : Nat) : Int)), .d (.v (.nilIface))]), (29, .tu [.d (di .i64 ((m12 : Nat) : Int)), .d (.v (.nilIface))]), (30, .d (di .i64 ((m12 : Nat) : Int))), (31, .d (.v (.nilIface)))]]) rfl ?_
   refine AO.nil ?_
   change AC _ _ _ _
   refine AC.seq ?_
   refine AC.region ?_
   refine AO.op rfl (AOp.move rfl rfl (ltb rfl) rfl ?_)
   refine AO.op rfl (AOp.nilCheck rfl rfl (ltb rfl) rfl rfl ?_)
   refine AO.op rfl (AOp.fieldAddr rfl rfl (ltb rfl) rfl fo71_2 ?_)
   refine AO.op rfl (AOp.store rfl rfl rfl rfl size69 rfl rfl rfl (leb rfl) ?_)
   refine AO.nil ?_
   change AC _ _ _ _
   refine AC.seq ?_
   refine AC.seq ?_
   refine AC.region ?_
   refine AO.op rfl (AOp.move rfl rfl (ltb rfl) rfl ?_)
   refine AO.op rfl (AOp.inl [0, 1] (by kernel_rfl) Tryd.func75 rfl Tryd.ntmps75 rfl rfl (ltb rfl) rfl (leb rfl) rfl ?_)
   intro fr22
   refine AC.seq ?_
   refine AC.region ?_
   refine AO.op rfl (AOp.assign rfl rfl (ltb rfl) rfl ?_)
   refine AO.objs (obs' := [.fix 71 [.d (eS4 b0), .d (di .i64 (b1 + ((m12 : Nat) : Int))), .d (di .i8 (0 : Int))], .fix 102 (List.map (fun z => SV.d (keS4 z)) c14), .frame pv [(0, .ptr 0 0), (1, .ptr 1 0)], .frame fr1 [(4, .d (di .i64 (0 : Int))), (5, .d (.v (.nilIface)))], .dead, .dead, .frame fr21 [(0, .ifc 54 (.ptr 0 0)), (1, .sl 1 1 0 a0 a0), (2, .d (di .i64 ((a0 : Nat) : Int))), (6, .d (di .i64 ((m12 : Nat) : Int))), (7, .d (.v (.nilIface))), (8, .d (di .i64 (0 : Int))), (21, .tu [.d (di .i64 ((m12 : Nat) : Int)), .d (.v (.nilIface))]), (29, .tu [.d (di .i64 ((m12 : Nat) : Int)), .d (.v (.nilIface))]), (30, .d (di .i64 ((m12 : Nat) : Int))), (31, .d (.v (.nilIface)))], .frame fr22 [(0, .ptr 0 0), (1, .sl 1 1 (if a0 = (((m12 : Nat) : Int)).toNat then 0 else 0 + (((m12 : Nat) : Int)).toNat * 1) (a0 - (((m12 : Nat) : Int)).toNat) (a0 - (((m12 : Nat) : Int)).toNat))]]) rfl ?_
   refine AO.nil ?_
   change AC _ _ _ _
   refine AC.seq ?_
   refine AC.draw 11 mixed (by kernel_rfl) ?_
   refine AD.op [0] rfl (by kernel_rfl) rfl rfl (fun _ _ h => AOp.move rfl rfl (ltb rfl) rfl h) ?_
   refine AD.op [3] rfl (by kernel_rfl) rfl rfl (fun _ _ h => AOp.nilCheck rfl rfl (ltb rfl) rfl rfl h) ?_
   refine AD.op [4] rfl (by kernel_rfl) rfl rfl (fun _ _ h => AOp.fieldAddr rfl rfl (ltb rfl) rfl fo71_0 h) ?_
   refine AD.op [5] rfl (by kernel_rfl) rfl rfl (fun _ _ h => AOp.load1 rfl rfl (ltb rfl) rfl agg22 rfl rfl h) ?_
   refine AD.op [6] rfl (by kernel_rfl) rfl rfl (fun _ _ h => AOp.lenDs (n := b0.length) (cells := (List.map keS4 b0)) rfl rfl (ltb rfl) rfl el22 (by decide) (len1 _ _) h) ?_
   refine AD.op [0] rfl (by kernel_rfl) rfl rfl (fun _ _ h => AOp.move rfl rfl (ltb rfl) rfl h) ?_
   refine AD.op [8] rfl (by kernel_rfl) rfl rfl (fun _ _ h => AOp.nilCheck rfl rfl (ltb rfl) rfl rfl h) ?_
   refine AD.op [9] rfl (by kernel_rfl) rfl rfl (fun _ _ h => AOp.fieldAddr rfl rfl (ltb rfl) rfl fo71_1 h) ?_
   refine AD.op [10] rfl (by kernel_rfl) rfl rfl (fun _ _ h => AOp.load1 rfl rfl (ltb rfl) rfl agg3 rfl rfl h) ?_
   refine AD.op [7, 11] rfl (by kernel_rfl) rfl rfl (fun _ _ h => AOp.ileq rfl rfl (ltb rfl) rfl rfl h) ?_
   refine AD.op [12] rfl (by kernel_rfl) rfl rfl (fun _ _ h => AOp.assign rfl rfl (ltb rfl) rfl h) ?_
   refine AD.done ?_
   refine AO.nil ?_
   change AC _ _ _ _
   refine AC.ret ?_
   refine inlret (ob' := [.fix 71 [.d (eS4 b0), .d (di .i64 (b1 + ((m12 : Nat) : Int))), .d (di .i8 (0 : Int))], .fix 102 (List.map (fun z => SV.d (keS4 z)) c14), .frame pv [(0, .ptr 0 0), (1, .ptr 1 0)], .frame fr1 [(4, .d (di .i64 (0 : Int))), (5, .d (.v (.nilIface)))], .dead, .dead, .frame fr21 [(0, .ifc 54 (.ptr 0 0)), (1, .sl 1 1 0 a0 a0), (2, .d (di .i64 ((a0 : Nat) : Int))), (6, .d (di .i64 ((m12 : Nat) : Int))), (7, .d (.v (.nilIface))), (8, .d (di .i64 (0 : Int))), (21, .tu [.d (di .i64 ((m12 : Nat) : Int)), .d (.v (.nilIface))]), (29, .tu [.d (di .i64 ((m12 : Nat) : Int)), .d (.v (.nilIface))]), (30, .d (di .i64 ((m12 : Nat) : Int))), (31, .d (.v (.nilIface)))], .dead]) (e' := [(0, .ptr 0 0), (1, .sl 1 1 (if a0 = (((m12 : Nat) : Int)).toNat then 0 else 0 + (((m12 : Nat) : Int)).toNat * 1) (a0 - (((m12 : Nat) : Int)).toNat) (a0 - (((m12 : Nat) : Int)).toNat))]) (r := .d (dbool (decide (((b0.length : Nat) : Int) ≤ (b1 + ((m12 : Nat) : Int)))))) rfl rfl rfl ?_
   change AO _ _ _ _ _
   refine AO.objs (obs' := [.fix 71 [.d (eS4 b0), .d (di .i64 (b1 + ((m12 : Nat) : Int))), .d (di .i8 (0 : Int))], .fix 102 (List.map (fun z => SV.d (keS4 z)) c14), .frame pv [(0, .ptr 0 0), (1, .ptr 1 0)], .frame fr1 [(4, .d (di .i64 (0 : Int))), (5, .d (.v (.nilIface)))], .dead, .dead, .frame fr21 [(0, .ifc 54 (.ptr 0 0)), (1, .sl 1 1 0 a0 a0), (2, .d (di .i64 ((a0 : Nat) : Int))), (6, .d (di .i64 ((m12 : Nat) : Int))), (7, .d (.v (.nilIface))), (8, .d (di .i64 (0 : Int))), (21, .tu [.d (di .i64 ((m12 : Nat) : Int)), .d (.v (.nilIface))]), (29, .tu [.d (di .i64 ((m12 : Nat) : Int)), .d (.v (.nilIface))]), (30, .d (di .i64 ((m12 : Nat) : Int))), (31, .d (.v (.nilIface)))], .dead]) rfl ?_
   refine AO.nil ?_
   change AC _ _ _ _
   refine AC.cond rfl (fun q23 => ?_) (fun q23 => ?_)
   ·replace h0 := cT h0 q23
    refine AC.seq ?_
    refine AC.region ?_
    refine AO.op rfl (AOp.move rfl rfl (ltb rfl) rfl ?_)
    refine AO.op rfl (AOp.inl [1] (by kernel_rfl) Tryd.func72 rfl Tryd.ntmps72 rfl rfl (ltb rfl) rfl (leb rfl) rfl ?_)
    intro fr24
    refine AC.seq ?_
    refine AC.region ?_
    refine AO.op rfl (AOp.move rfl rfl (ltb rfl) rfl ?_)
    refine AO.op rfl (AOp.move rfl rfl (ltb rfl) rfl ?_)
    refine AO.op rfl (AOp.nilCheck rfl rfl (ltb rfl) rfl rfl ?_)
    refine AO.op rfl (AOp.fieldAddr rfl rfl (ltb rfl) rfl fo71_0 ?_)
    refine AO.op rfl (AOp.load1 rfl rfl (ltb rfl) rfl agg22 rfl rfl ?_)
    obtain ⟨q25, h0⟩ := need_elim h0
    refine AO.op rfl (AOp.sliceD (cells := (List.map keS4 b0)) (n := b0.length) (l := 0) (hh := ((0 : Int)).toNat) rfl rfl (ltb rfl) rfl (.inl ⟨rfl, rfl⟩) (.inr ⟨_, _, _, rfl, rfl, q25.1.2, rfl⟩) el22 (by decide) (len1 _ _) q25.2.1 q25.2.2 (sub1 _ _ _ _) ?_)
    refine AO.op rfl (AOp.nilCheck rfl rfl (ltb rfl) rfl rfl ?_)
    refine AO.op rfl (AOp.fieldAddr rfl rfl (ltb rfl) rfl fo71_0 ?_)
    refine AO.op rfl (AOp.store rfl rfl rfl rfl size22 rfl rfl rfl (leb rfl) ?_)
    refine AO.objs (obs' := [.fix 71 [.d (eS4 ((b0.drop 0).take (((0 : Int)).toNat - 0))), .d (di .i64 (b1 + ((m12 : Nat) : Int))), .d (di .i8 (0 : Int))], .fix 102 (List.map (fun z => SV.d (keS4 z)) c14), .frame pv [(0, .ptr 0 0), (1, .ptr 1 0)], .frame fr1 [(4, .d (di .i64 (0 : Int))), (5, .d (.v (.nilIface)))], .dead, .dead, .frame fr21 [(0, .ifc 54 (.ptr 0 0)), (1, .sl 1 1 0 a0 a0), (2, .d (di .i64 ((a0 : Nat) : Int))), (6, .d (di .i64 ((m12 : Nat) : Int))), (7, .d (.v (.nilIface))), (8, .d (di .i64 (0 : Int))), (21, .tu [.d (di .i64 ((m12 : Nat) : Int)), .d (.v (.nilIface))]), (29, .tu [.d (di .i64 ((m12 : Nat) : Int)), .d (.v (.nilIface))]), (30, .d (di .i64 ((m12 : Nat) : Int))), (31, .d (.v (.nilIface)))], .dead, .frame fr24 [(1, .sl 1 1 (if a0 = (((m12 : Nat) : Int)).toNat then 0 else 0 + (((m12 : Nat) : Int)).toNat * 1) (a0 - (((m12 : Nat) : Int)).toNat) (a0 - (((m12 : Nat) : Int)).toNat))]]) rfl ?_
    refine AO.nil ?_
    change AC _ _ _ _
    refine AC.seq ?_
    refine AC.region ?_
    refine AO.op rfl (AOp.move rfl rfl (ltb rfl) rfl ?_)
    refine AO.op rfl (AOp.nilCheck rfl rfl (ltb rfl) rfl rfl ?_)
    refine AO.op rfl (AOp.fieldAddr rfl rfl (ltb rfl) rfl fo71_1 ?_)
    refine AO.op rfl (AOp.store rfl rfl rfl rfl size3 rfl rfl rfl (leb rfl) ?_)
    refine AO.nil ?_
    change AC _ _ _ _
    refine AC.region ?_
    refine AO.op rfl (AOp.move rfl rfl (ltb rfl) rfl ?_)
    refine AO.op rfl (AOp.nilCheck rfl rfl (ltb rfl) rfl rfl ?_)
    refine AO.op rfl (AOp.fieldAddr rfl rfl (ltb rfl) rfl fo71_2 ?_)
    refine AO.op rfl (AOp.store rfl rfl rfl rfl size69 rfl rfl rfl (leb rfl) ?_)
    refine AO.nil ?_
    refine inlend (ob' := [.fix 71 [.d (eS4 ((b0.drop 0).take (((0 : Int)).toNat - 0))), .d (di .i64 (0 : Int)), .d (di .i8 (0 : Int))], .fix 102 (List.map (fun z => SV.d (keS4 z)) c14), .frame pv [(0, .ptr 0 0), (1, .ptr 1 0)], .frame fr1 [(4, .d (di .i64 (0 : Int))), (5, .d (.v (.nilIface)))], .dead, .dead, .frame fr21 [(0, .ifc 54 (.ptr 0 0)), (1, .sl 1 1 0 a0 a0), (2, .d (di .i64 ((a0 : Nat) : Int))), (6, .d (di .i64 ((m12 : Nat) : Int))), (7, .d (.v (.nilIface))), (8, .d (di .i64 (0 : Int))), (21, .tu [.d (di .i64 ((m12 : Nat) : Int)), .d (.v (.nilIface))]), (29, .tu [.d (di .i64 ((m12 : Nat) : Int)), .d (.v (.nilIface))]), (30, .d (di .i64 ((m12 : Nat) : Int))), (31, .d (.v (.nilIface)))], .dead, .dead]) (e' := [(1, .sl 1 1 (if a0 = (((m12 : Nat) : Int)).toNat then 0 else 0 + (((m12 : Nat) : Int)).toNat * 1) (a0 - (((m12 : Nat) : Int)).toNat) (a0 - (((m12 : Nat) : Int)).toNat))]) (r := .tu []) rfl rfl rfl ?_
    change AO _ _ _ _ _
    refine AO.objs (obs' := [.fix 71 [.d (eS4 ((b0.drop 0).take (((0 : Int)).toNat - 0))), .d (di .i64 (0 : Int)), .d (di .i8 (0 : Int))], .fix 102 (List.map (fun z => SV.d (keS4 z)) c14), .frame pv [(0, .ptr 0 0), (1, .ptr 1 0)], .frame fr1 [(4, .d (di .i64 (0 : Int))), (5, .d (.v (.nilIface)))], .dead, .dead, .frame fr21 [(0, .ifc 54 (.ptr 0 0)), (1, .sl 1 1 0 a0 a0), (2, .d (di .i64 ((a0 : Nat) : Int))), (6, .d (di .i64 ((m12 : Nat) : Int))), (7, .d (.v (.nilIface))), (8, .d (di .i64 (0 : Int))), (21, .tu [.d (di .i64 ((m12 : Nat) : Int)), .d (.v (.nilIface))]), (29, .tu [.d (di .i64 ((m12 : Nat) : Int)), .d (.v (.nilIface))]), (30, .d (di .i64 ((m12 : Nat) : Int))), (31, .d (.v (.nilIface)))], .dead, .dead]) rfl ?_
    refine AO.nil ?_
    change AC _ _ _ _
    refine AC.seq ?_
    refine AC.seq ?_
    refine AC.region ?_
    refine AO.op rfl (AOp.move rfl rfl (ltb rfl) rfl ?_)
    refine AO.op rfl (AOp.lenSl rfl rfl (ltb rfl) rfl el22 ?_)
    refine AO.op rfl (AOp.ieql rfl rfl (ltb rfl) rfl rfl ?_)
    refine AO.nil ?_
    change AC _ _ _ _
    refine AC.cond rfl (fun q26 => ?_) (fun q26 => ?_)
    ·replace h0 := cT h0 q26
     cases h0
    replace h0 := cF h0 q26
    refine AC.skip ?_
    change AC _ _ _ _
    refine AC.seq ?_
    refine AC.draw 3 mixed (by kernel_rfl) ?_
    refine AD.op [] rfl (by kernel_rfl) rfl rfl (fun _ _ h => AOp.loadEV rfl rfl (ltb rfl) rfl agg57 (by simp [GlobsP]) h) ?_
    refine AD.op [] rfl (by kernel_rfl) rfl rfl (fun _ _ h => AOp.assign rfl rfl (ltb rfl) rfl h) ?_
    refine AD.op [16] rfl (by kernel_rfl) rfl rfl (fun _ _ h => AOp.assign rfl rfl (ltb rfl) rfl h) ?_
    refine AD.done ?_
    refine AO.nil ?_
    change AC _ _ _ _
    refine AC.ret ?_
    refine inlret (ob' := [.fix 71 [.d (eS4 ((b0.drop 0).take (((0 : Int)).toNat - 0))), .d (di .i64 (0 : Int)), .d (di .i8 (0 : Int))], .fix 102 (List.map (fun z => SV.d (keS4 z)) c14), .frame pv [(0, .ptr 0 0), (1, .ptr 1 0)], .frame fr1 [(4, .d (di .i64 (0 : Int))), (5, .d (.v (.nilIface)))], .dead, .dead, .dead, .dead, .dead]) (e' := [(0, .ifc 54 (.ptr 0 0)), (1, .sl 1 1 0 a0 a0), (2, .d (di .i64 ((a0 : Nat) : Int))), (6, .d (di .i64 ((m12 : Nat) : Int))), (7, .d (.v (.nilIface))), (8, .d (di .i64 (0 : Int))), (21, .tu [.d (di .i64 ((m12 : Nat) : Int)), .d (.v (.nilIface))]), (29, .tu [.d (di .i64 ((m12 : Nat) : Int)), .d (.v (.nilIface))]), (30, .d (di .i64 ((m12 : Nat) : Int))), (31, .d (.v (.nilIface)))]) (r := .tu [.d (di .i64 (0 : Int)), .d (.v (errV W 5))]) rfl rfl rfl ?_
    change AO _ _ _ _ _
    refine AO.objs (obs' := [.fix 71 [.d (eS4 ((b0.drop 0).take (((0 : Int)).toNat - 0))), .d (di .i64 (0 : Int)), .d (di .i8 (0 : Int))], .fix 102 (List.map (fun z => SV.d (keS4 z)) c14), .frame pv [(0, .ptr 0 0), (1, .ptr 1 0)], .frame fr1 [(4, .d (di .i64 (0 : Int))), (5, .d (.v (.nilIface)))], .dead, .dead, .dead, .dead, .dead]) rfl ?_
    refine AO.nil ?_
    change AD _ _ _ _ _
    refine AD.op [29] rfl (by kernel_rfl) rfl rfl (fun _ _ h => AOp.move rfl rfl (ltb rfl) rfl h) ?_
    first | refine AD.op [21] rfl (by kernel_rfl) rfl rfl (fun _ _ h => AOp.extractD rfl rfl (ltb rfl) rfl rfl h) ?_ | refine AD.op [21] rfl (by kernel_rfl) rfl rfl (fun _ _ h => AOp.extract rfl rfl (ltb rfl) rfl rfl h) ?_
    first | refine AD.op [21] rfl (by kernel_rfl) rfl rfl (fun _ _ h => AOp.extractD rfl rfl (ltb rfl) rfl rfl h) ?_ | refine AD.op [21] rfl (by kernel_rfl) rfl rfl (fun _ _ h => AOp.extract rfl rfl (ltb rfl) rfl rfl h) ?_
    refine AD.op [30] rfl (by kernel_rfl) rfl rfl (fun _ _ h => AOp.assign rfl rfl (ltb rfl) rfl h) ?_
    refine AD.op [31] rfl (by kernel_rfl) rfl rfl (fun _ _ h => AOp.assign rfl rfl (ltb rfl) rfl h) ?_
    refine AD.done ?_
    refine AO.nil ?_
    change AC _ _ _ _
    refine AC.region ?_
    refine AO.op rfl (AOp.move rfl rfl (ltb rfl) rfl ?_)
    refine AO.op rfl (AOp.move rfl rfl (ltb rfl) rfl ?_)
    obtain ⟨q27, h0⟩ := need_elim h0
    refine AO.op rfl (AOp.iadd rfl rfl (ltb rfl) rfl rfl (Int.add_zero _) q27.1 q27.2 ?_)
    refine AO.op rfl (AOp.assign rfl rfl (ltb rfl) rfl ?_)
    refine AO.nil ?_
    change ACL _ _ _ _
    refine ACL.round ?_
    refine AC.seq ?_
    refine AC.seq ?_
    refine AC.region ?_
    refine AO.op rfl (AOp.move rfl rfl (ltb rfl) rfl ?_)
    refine AO.op rfl (AOp.move rfl rfl (ltb rfl) rfl ?_)
    refine AO.op rfl (AOp.ilss rfl rfl (ltb rfl) rfl rfl ?_)
    refine AO.op rfl (AOp.move rfl rfl (ltb rfl) rfl ?_)
    refine AO.guardY rfl rfl rfl q19 (AOp.move rfl rfl (ltb rfl) rfl ?_)
    refine AO.guardY rfl rfl rfl q19 (AOp.errEql rfl rfl (ltb rfl) rfl (by simp [GlobsP]) imeth57 ?_)
    refine AO.op rfl (AOp.pick rfl rfl (ltb rfl) rfl q19 rfl ?_)
    refine AO.nil ?_
    change AC _ _ _ _
    refine AC.condF rfl rfl ?_
    refine AC.exit ?_
    change AC _ _ _ _
    refine AC.seq ?_
    refine AC.seq ?_
    refine AC.region ?_
    refine AO.op rfl (AOp.move rfl rfl (ltb rfl) rfl ?_)
    refine AO.op rfl (AOp.move rfl rfl (ltb rfl) rfl ?_)
    refine AO.op rfl (AOp.igeq rfl rfl (ltb rfl) rfl rfl ?_)
    refine AO.nil ?_
    change AC _ _ _ _
    refine AC.condF rfl (dlt_ge q19) ?_
    refine AC.seq ?_
    refine AC.region ?_
    refine AO.op rfl (AOp.move rfl rfl (ltb rfl) rfl ?_)
    refine AO.op rfl (AOp.igtr rfl rfl (ltb rfl) rfl rfl ?_)
    refine AO.op rfl (AOp.move rfl rfl (ltb rfl) rfl ?_)
    refine AO.dec (decide ((0 : Int) < ((m12 : Nat) : Int))) (fun q28 => ?_) (fun q28 => ?_)
    ·replace h0 := cT h0 q28
     refine AO.guardY rfl rfl rfl q28 (AOp.move rfl rfl (ltb rfl) rfl ?_)
     refine AO.guardY rfl rfl rfl q28 (AOp.loadEV rfl rfl (ltb rfl) rfl agg57 (by simp [GlobsP]) ?_)
     refine AO.guardY rfl rfl rfl q28 (AOp.errSame rfl rfl (ltb rfl) rfl rfl (by simp [GlobsP]) cmpE imeth57 ?_)
     refine AO.op rfl (AOp.pick rfl rfl (ltb rfl) rfl q28 rfl ?_)
     refine AO.nil ?_
     change AC _ _ _ _
     refine AC.condT rfl rfl ?_
     refine AC.region ?_
     refine AO.op rfl (AOp.loadEV rfl rfl (ltb rfl) rfl agg57 (by simp [GlobsP]) ?_)
     refine AO.op rfl (AOp.assign rfl rfl (ltb rfl) rfl ?_)
     refine AO.nil ?_
     change AC _ _ _ _
     refine AC.ret ?_
     refine inlret (ob' := [.fix 71 [.d (eS4 ((b0.drop 0).take (((0 : Int)).toNat - 0))), .d (di .i64 (0 : Int)), .d (di .i8 (0 : Int))], .fix 102 (List.map (fun z => SV.d (keS4 z)) c14), .frame pv [(0, .ptr 0 0), (1, .ptr 1 0)], .dead, .dead, .dead, .dead, .dead, .dead]) (e' := [(4, .d (di .i64 (0 : Int))), (5, .d (.v (.nilIface)))]) (r := .tu [.d (di .i64 ((m12 : Nat) : Int)), .d (.v (errV W 6))]) rfl rfl rfl ?_
     change AO _ _ _ _ _
     first | refine AO.op rfl (AOp.extractD rfl rfl (ltb rfl) rfl rfl ?_) | refine AO.op rfl (AOp.extract rfl rfl (ltb rfl) rfl rfl ?_)
     first | refine AO.op rfl (AOp.extractD rfl rfl (ltb rfl) rfl rfl ?_) | refine AO.op rfl (AOp.extract rfl rfl (ltb rfl) rfl rfl ?_)
     refine AO.op rfl (AOp.assign rfl rfl (ltb rfl) rfl ?_)
     refine AO.op rfl (AOp.assign rfl rfl (ltb rfl) rfl ?_)
     refine AO.objs (obs' := [.fix 71 [.d (eS4 ((b0.drop 0).take (((0 : Int)).toNat - 0))), .d (di .i64 (0 : Int)), .d (di .i8 (0 : Int))], .fix 102 (List.map (fun z => SV.d (keS4 z)) c14), .frame pv [(0, .ptr 0 0), (1, .ptr 1 0)], .dead, .dead, .dead, .dead, .dead, .dead]) rfl ?_
     refine AO.nil ?_
     change AC _ _ _ _
     refine AC.errAny 5 rfl (by simp [GlobsP]) fun u29 => ?_
     obtain rfl := Option.some.inj h0
     refine AC.ret ?_
     change RetH _ _ _ _ _ _ .ret _
     refine reth (post := [.fix 71 [.d (eS4 ((b0.drop 0).take (((0 : Int)).toNat - 0))), .d (di .i64 (0 : Int)), .d (di .i8 (0 : Int))], .fix 102 (List.map (fun z => SV.d (keS4 z)) c14)]) rfl rfl rfl rfl (under_all (.cons ⟨rfl, rfl⟩ (.cons (unders_fixl fun _ => rfl) .nil))) ?_
     exact ⟨_, rfl, rfl⟩
    replace h0 := cF h0 q28
    refine AO.guardN rfl rfl rfl (ltb rfl) rfl q28 ?_
    refine AO.guardN rfl rfl rfl (ltb rfl) rfl q28 ?_
    refine AO.guardN rfl rfl rfl (ltb rfl) rfl q28 ?_
    refine AO.op rfl (AOp.pickN rfl rfl (ltb rfl) rfl q28 rfl ?_)
    refine AO.nil ?_
    change AC _ _ _ _
    refine AC.condF rfl rfl ?_
    refine AC.skip ?_
    change AC _ _ _ _
    refine AC.ret ?_
    refine inlret (ob' := [.fix 71 [.d (eS4 ((b0.drop 0).take (((0 : Int)).toNat - 0))), .d (di .i64 (0 : Int)), .d (di .i8 (0 : Int))], .fix 102 (List.map (fun z => SV.d (keS4 z)) c14), .frame pv [(0, .ptr 0 0), (1, .ptr 1 0)], .dead, .dead, .dead, .dead, .dead, .dead]) (e' := [(4, .d (di .i64 (0 : Int))), (5, .d (.v (.nilIface)))]) (r := .tu [.d (di .i64 ((m12 : Nat) : Int)), .d (.v (errV W 5))]) rfl rfl rfl ?_
    change AO _ _ _ _ _
    first | refine AO.op rfl (AOp.extractD rfl rfl (ltb rfl) rfl rfl ?_) | refine AO.op rfl (AOp.extract rfl rfl (ltb rfl) rfl rfl ?_)
    first | refine AO.op rfl (AOp.extractD rfl rfl (ltb rfl) rfl rfl ?_) | refine AO.op rfl (AOp.extract rfl rfl (ltb rfl) rfl rfl ?_)
    refine AO.op rfl (AOp.assign rfl rfl (ltb rfl) rfl ?_)
    refine AO.op rfl (AOp.assign rfl rfl (ltb rfl) rfl ?_)
    refine AO.objs (obs' := [.fix 71 [.d (eS4 ((b0.drop 0).take (((0 : Int)).toNat - 0))), .d (di .i64 (0 : Int)), .d (di .i8 (0 : Int))], .fix 102 (List.map (fun z => SV.d (keS4 z)) c14), .frame pv [(0, .ptr 0 0), (1, .ptr 1 0)], .dead, .dead, .dead, .dead, .dead, .dead]) rfl ?_
    refine AO.nil ?_
    change AC _ _ _ _
    refine AC.errAny 5 rfl (by simp [GlobsP]) fun u30 => ?_
    obtain rfl := Option.some.inj h0
    refine AC.ret ?_
    change RetH _ _ _ _ _ _ .ret _
    refine reth (post := [.fix 71 [.d (eS4 ((b0.drop 0).take (((0 : Int)).toNat - 0))), .d (di .i64 (0 : Int)), .d (di .i8 (0 : Int))], .fix 102 (List.map (fun z => SV.d (keS4 z)) c14)]) rfl rfl rfl rfl (under_all (.cons ⟨rfl, rfl⟩ (.cons (unders_fixl fun _ => rfl) .nil))) ?_
    exact ⟨_, rfl, rfl⟩
   replace h0 := cF h0 q23
   cases h0
  replace h0 := cF h0 q19
  refine AO.guardN rfl rfl rfl (ltb rfl) rfl q19 ?_
  refine AO.guardN rfl rfl rfl (ltb rfl) rfl q19 ?_
  refine AO.op rfl (AOp.pickN rfl rfl (ltb rfl) rfl q19 rfl ?_)
  refine AO.nil ?_
  change AC _ _ _ _
  refine AC.condF rfl rfl ?_
  refine AC.exit ?_
  change AC _ _ _ _
  refine AC.seq ?_
  refine AC.seq ?_
  refine AC.region ?_
  refine AO.op rfl (AOp.move rfl rfl (ltb rfl) rfl ?_)
  refine AO.op rfl (AOp.move rfl rfl (ltb rfl) rfl ?_)
  refine AO.op rfl (AOp.igeq rfl rfl (ltb rfl) rfl rfl ?_)
  refine AO.nil ?_
  change AC _ _ _ _
  refine AC.condT rfl (dlt_ge q19) ?_
  refine AC.region ?_
  refine AO.op rfl (AOp.assign rfl rfl (ltb rfl) rfl ?_)
  refine AO.nil ?_
  change AC _ _ _ _
  refine AC.ret ?_
  refine inlret (ob' := [.fix 71 [.d (eS4 b0), .d (di .i64 (b1 + ((m12 : Nat) : Int))), .d (di .i8 g17)], .fix 102 (List.map (fun z => SV.d (keS4 z)) c14), .frame pv [(0, .ptr 0 0), (1, .ptr 1 0)], .dead, .dead, .dead]) (e' := [(4, .d (di .i64 (0 : Int))), (5, .d (.v (.nilIface)))]) (r := .tu [.d (di .i64 ((m12 : Nat) : Int)), .d (.v (.nilIface))]) rfl rfl rfl ?_
  change AO _ _ _ _ _
  first | refine AO.op rfl (AOp.extractD rfl rfl (ltb rfl) rfl rfl ?_) | refine AO.op rfl (AOp.extract rfl rfl (ltb rfl) rfl rfl ?_)
  first | refine AO.op rfl (AOp.extractD rfl rfl (ltb rfl) rfl rfl ?_) | refine AO.op rfl (AOp.extract rfl rfl (ltb rfl) rfl rfl ?_)
  refine AO.op rfl (AOp.assign rfl rfl (ltb rfl) rfl ?_)
  refine AO.op rfl (AOp.assign rfl rfl (ltb rfl) rfl ?_)
  refine AO.objs (obs' := [.fix 71 [.d (eS4 b0), .d (di .i64 (b1 + ((m12 : Nat) : Int))), .d (di .i8 g17)], .fix 102 (List.map (fun z => SV.d (keS4 z)) c14), .frame pv [(0, .ptr 0 0), (1, .ptr 1 0)], .dead, .dead, .dead]) rfl ?_
  refine AO.nil ?_
  change AC _ _ _ _
  obtain rfl := Option.some.inj h0
  refine AC.ret ?_
  change RetH _ _ _ _ _ _ .ret _
  refine reth (post := [.fix 71 [.d (eS4 b0), .d (di .i64 (b1 + ((m12 : Nat) : Int))), .d (di .i8 g17)], .fix 102 (List.map (fun z => SV.d (keS4 z)) c14)]) rfl rfl rfl rfl (under_all (.cons ⟨rfl, rfl⟩ (.cons (unders_fixl fun _ => rfl) .nil))) ?_
  exact ⟨rfl, rfl⟩
 replace h0 := cF h0 q2
 refine AO.guardN rfl rfl rfl (ltb rfl) rfl q2 ?_
 refine AO.guardN rfl rfl rfl (ltb rfl) rfl q2 ?_
 refine AO.op rfl (AOp.pickN rfl rfl (ltb rfl) rfl q2 rfl ?_)
 refine AO.nil ?_
 change AC _ _ _ _
 refine AC.condF rfl rfl ?_
 refine AC.exit ?_
 change AC _ _ _ _
 refine AC.seq ?_
 refine AC.seq ?_
 refine AC.region ?_
 refine AO.op rfl (AOp.move rfl rfl (ltb rfl) rfl ?_)
 refine AO.op rfl (AOp.move rfl rfl (ltb rfl) rfl ?_)
 refine AO.op rfl (AOp.igeq rfl rfl (ltb rfl) rfl rfl ?_)
 refine AO.nil ?_
 change AC _ _ _ _
 refine AC.condT rfl (dlt_ge q2) ?_
 refine AC.region ?_
 refine AO.op rfl (AOp.assign rfl rfl (ltb rfl) rfl ?_)
 refine AO.nil ?_
 change AC _ _ _ _
 refine AC.ret ?_
 refine inlret (ob' := [.fix 71 [.d (eS4 b0), .d (di .i64 b1), .d (di .i8 b2)], .fix 102 (List.map (fun z => SV.d (keS4 z)) b3), .frame pv [(0, .ptr 0 0), (1, .ptr 1 0)], .dead]) (e' := [(4, .d (di .i64 (0 : Int))), (5, .d (.v (.nilIface)))]) (r := .tu [.d (di .i64 (0 : Int)), .d (.v (.nilIface))]) rfl rfl rfl ?_
 change AO _ _ _ _ _
 first | refine AO.op rfl (AOp.extractD rfl rfl (ltb rfl) rfl rfl ?_) | refine AO.op rfl (AOp.extract rfl rfl (ltb rfl) rfl rfl ?_)
 first | refine AO.op rfl (AOp.extractD rfl rfl (ltb rfl) rfl rfl ?_) | refine AO.op rfl (AOp.extract rfl rfl (ltb rfl) rfl rfl ?_)
 refine AO.op rfl (AOp.assign rfl rfl (ltb rfl) rfl ?_)
 refine AO.op rfl (AOp.assign rfl rfl (ltb rfl) rfl ?_)
 refine AO.nil ?_
 change AC _ _ _ _
 obtain rfl := Option.some.inj h0
 refine AC.ret ?_
 change RetH _ _ _ _ _ _ .ret _
 refine reth (post := [.fix 71 [.d (eS4 b0), .d (di .i64 b1), .d (di .i8 b2)], .fix 102 (List.map (fun z => SV.d (keS4 z)) b3)]) rfl rfl rfl rfl (under_all (.cons ⟨rfl, rfl⟩ (.cons (unders_fixl fun _ => rfl) .nil))) ?_
 exact ⟨rfl, rfl⟩

def RH_ReadUInt32_bigEndian : (Sum (Int × (List Int) × Int × Int) (Int × (List Int) × Int × Int)) → SV → List Ob → Prop
 | .inl z => fun r post => ∃ t0 : Nat, r = .tu [.d (di .u32 z.1), .ifc t0 (.any)] ∧ post = [.fix 71 [.d (eS4 z.2.1), .d (di .i64 z.2.2.1), .d (di .i8 z.2.2.2)]]
 | .inr z => fun r post => r = .tu [.d (di .u32 z.1), .d (.v (.nilIface))] ∧ post = [.fix 71 [.d (eS4 z.2.1), .d (di .i64 z.2.2.1), .d (di .i8 z.2.2.2)]]
end Go.Proofs.YtjhdpnjlphpboaaDoor.Wk
