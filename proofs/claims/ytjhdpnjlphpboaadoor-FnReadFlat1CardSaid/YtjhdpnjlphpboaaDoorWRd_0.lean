/- Proved: functions of the program compute what the printed functions say, wherever these say something. -/
import Derived.Test.YtjhdpnjlphpboaaDoorPRd
import Derived.Test.YtjhdpnjlphpboaaDoorVmDraw4
import Derived.Test.YtjhdpnjlphpboaaDoorVmIfc
import Derived.Test.YtjhdpnjlphpboaaDoorVmNew
import Derived.Test.YtjhdpnjlphpboaaDoorVmNaN
import Derived.Test.YtjhdpnjlphpboaaDoorVmArr
import Derived.Test.YtjhdpnjlphpboaaDoorVmPan
import Derived.Test.YtjhdpnjlphpboaaDoorVmErr
import Derived.Test.YtjhdpnjlphpboaaDoorVmDrawC
import Derived.Test.YtjhdpnjlphpboaaDoorFltDy
import Derived.Test.YtjhdpnjlphpboaaDoorFltMin
import Derived.Test.YtjhdpnjlphpboaaDoorVmFin
import Derived.Test.YtjhdpnjlphpboaaDoorProg
namespace Go.Proofs.YtjhdpnjlphpboaaDoor.Wk
open Go.Vm
set_option linter.unusedVariables false
set_option linter.unusedSimpArgs false
theorem agg22 : aggT Tryd.prog 22 = some false := by kernel_rfl
theorem agg24 : aggT Tryd.prog 24 = some false := by kernel_rfl
theorem agg3 : aggT Tryd.prog 3 = some false := by kernel_rfl
theorem agg4 : aggT Tryd.prog 4 = some false := by kernel_rfl
theorem agg5 : aggT Tryd.prog 5 = some false := by kernel_rfl
theorem agg57 : aggT Tryd.prog 57 = some false := by kernel_rfl
theorem agg63 : aggT Tryd.prog 63 = some false := by kernel_rfl
theorem agg94 : aggT Tryd.prog 94 = some true := by kernel_rfl
theorem agg95 : aggT Tryd.prog 95 = some true := by kernel_rfl
theorem ar102 : arrT Tryd.prog 102 = some (4, 5, 1) := by kernel_rfl
theorem ar89 : arrT Tryd.prog 89 = some (4, 3, 1) := by kernel_rfl
theorem cmpE : ∀ u, ErrT u → cmpP Tryd.prog u = true := fun u h => by obtain rfl : u = _ := h; kernel_rfl
theorem conc54 : concT Tryd.prog 54 = true := by kernel_rfl
theorem conc94 : concT Tryd.prog 94 = true := by kernel_rfl
theorem conc95 : concT Tryd.prog 95 = true := by kernel_rfl
theorem el22 : elemT Tryd.prog 22 = some (5, 1) := by kernel_rfl
theorem el24 : elemT Tryd.prog 24 = some (63, 1) := by kernel_rfl
theorem fo51_0 : fieldOff Tryd.prog 51 0 = some 0 := by kernel_rfl
theorem fo51_3 : fieldOff Tryd.prog 51 3 = some 3 := by kernel_rfl
theorem fo51_4 : fieldOff Tryd.prog 51 4 = some 4 := by kernel_rfl
theorem fo51_5 : fieldOff Tryd.prog 51 5 = some 5 := by kernel_rfl
theorem fo71_0 : fieldOff Tryd.prog 71 0 = some 0 := by kernel_rfl
theorem fo71_1 : fieldOff Tryd.prog 71 1 = some 1 := by kernel_rfl
theorem fo71_2 : fieldOff Tryd.prog 71 2 = some 2 := by kernel_rfl
theorem idle19 (vs : Array Value) (w : World) (h : vs.size = 3) : CallsD Tryd.prog 19 vs .returning w fun e u' w' => e = .returned (.tuple #[]) ∧ u' = .returning ∧ w' = w := by
  obtain ⟨x0, x1, x2, rfl⟩ : ∃ x0 x1 x2, vs = #[x0, x1, x2] := by
    obtain ⟨l⟩ := vs
    match l, h with
    | [x0, x1, x2], _ => exact ⟨x0, x1, x2, rfl⟩
  refine callsD_of_wpS Tryd.func19 rfl fun c₀ cs hu => ?_
  apply wpS_seq
  apply wpS_region
  simp [wpOpsS, go_sem, recoverD, hu, Tryd.ntmps19, Exit.thenS]
  refine wpS_cond (t := false) (by simp [Act.eval, Array.replicate]) ?_
  simp only [Bool.false_eq_true, if_false]
  refine wpS_of_wp (wp_skip ?_)
  cases c₀
  simp_all [bodyPostS, results, Tryd.results19]
theorem imeth57 : Tryd.prog.underlying 57 = some (.interface (Tryd.prog.methodsAt 57)) := by kernel_rfl
theorem info5 : (Tryd.prog.info? 5).map (fun i => (i.zero, i.size, i.bytes)) = some (some (.int .u8 0), 1, 1) := by kernel_rfl
theorem info63 : (Tryd.prog.info? 63).map (fun i => (i.zero, i.size, i.bytes)) = some (some (.float .f64 0), 1, 8) := by kernel_rfl
theorem meth54_Read : methT Tryd.prog 54 "Read" = some (71, none) := by kernel_rfl
theorem meth94_Uint32 : methT Tryd.prog 94 "Uint32" = some (87, none) := by kernel_rfl
theorem meth94_Uint64 : methT Tryd.prog 94 "Uint64" = some (88, none) := by kernel_rfl
theorem meth95_Uint32 : methT Tryd.prog 95 "Uint32" = some (95, none) := by kernel_rfl
theorem meth95_Uint64 : methT Tryd.prog 95 "Uint64" = some (96, none) := by kernel_rfl
theorem mixed : Tryd.prog.follows .mixedOrders = true := by kernel_rfl
theorem nilm54_Read : nilT Tryd.prog 54 "Read" = true := by kernel_rfl
theorem nilm94_Uint32 : nilT Tryd.prog 94 "Uint32" = true := by kernel_rfl
theorem nilm95_Uint32 : nilT Tryd.prog 95 "Uint32" = true := by kernel_rfl
def pl51 : Nat → Option (Nat × Nat) := fun i => ([(0, 1), (1, 1), (2, 1), (3, 1), (4, 1), (5, 1)] : List (Nat × Nat))[i]?
theorem places51 : placesT Tryd.prog 51 = some pl51 := by kernel_rfl
def pl71 : Nat → Option (Nat × Nat) := fun i => ([(0, 1), (1, 1), (2, 1)] : List (Nat × Nat))[i]?
theorem places71 : placesT Tryd.prog 71 = some pl71 := by kernel_rfl
theorem size22 : sizeT Tryd.prog 22 = some 1 := by kernel_rfl
theorem size24 : sizeT Tryd.prog 24 = some 1 := by kernel_rfl
theorem size3 : sizeT Tryd.prog 3 = some 1 := by kernel_rfl
theorem size4 : sizeT Tryd.prog 4 = some 1 := by kernel_rfl
theorem size63 : sizeT Tryd.prog 63 = some 1 := by kernel_rfl
theorem size69 : sizeT Tryd.prog 69 = some 1 := by kernel_rfl
theorem size94 : sizeT Tryd.prog 94 = some 0 := by kernel_rfl
theorem size95 : sizeT Tryd.prog 95 = some 0 := by kernel_rfl
theorem zero102 : (Tryd.prog.info? 102).map (·.zero) = some (some (.agg #[.int .u8 0, .int .u8 0, .int .u8 0, .int .u8 0])) := by kernel_rfl
theorem zero24 : (Tryd.prog.info? 24).map (·.zero) = some (some (.slice none 0 0)) := by kernel_rfl
theorem zero3 : (Tryd.prog.info? 3).map (·.zero) = some (some (.int .i64 0)) := by kernel_rfl
theorem zero4 : (Tryd.prog.info? 4).map (·.zero) = some (some (.bool false)) := by kernel_rfl
theorem zero51 : (Tryd.prog.info? 51).map (·.zero) = some (some (.agg #[.slice none 0 0, .bool false, .bool false, .bool false, .bool false, .bool false])) := by kernel_rfl
theorem zero63 : (Tryd.prog.info? 63).map (·.zero) = some (some (.float .f64 0)) := by kernel_rfl
theorem zero71 : (Tryd.prog.info? 71).map (·.zero) = some (some (.agg #[.slice none 0 0, .int .i64 0, .int .i8 0])) := by kernel_rfl
set_option maxRecDepth 100000 in
set_option maxHeartbeats 4000000 in
/-- pub-orthodrome/laws.fStride -/
theorem w_fStride (a0 : Int) (r0 : Bool) (h0 : p_fStride a0 = some r0) : FnD Tryd.prog 5 [di .i64 a0] (fun r => r = dbool r0) := by
  refine FnD.of (by kernel_rfl) Tryd.func5 rfl Tryd.ntmps5 rfl (leb rfl) fun W ok => ?_
  unfold p_fStride at h0
  refine AC.seq ?_
  refine AC.region ?_
  refine AO.op rfl (AOp.assign rfl rfl (ltb rfl) rfl ?_)
  refine AO.nil ?_
  change AC _ _ _ _
  refine AC.seq ?_
  refine AC.region ?_
  refine AO.op rfl (AOp.move rfl rfl (ltb rfl) rfl ?_)
  refine AO.op rfl (AOp.igeq rfl rfl (ltb rfl) rfl rfl ?_)
  refine AO.op rfl (AOp.move rfl rfl (ltb rfl) rfl ?_)
  refine AO.dec (decide ((2 : Int) ≤ a0)) (fun q1 => ?_) (fun q1 => ?_)
  · replace h0 := cT h0 q1
    refine AO.guardY rfl rfl rfl q1 (AOp.move rfl rfl (ltb rfl) rfl ?_)
    refine AO.guardY rfl rfl rfl q1 (AOp.ileq rfl rfl (ltb rfl) rfl rfl ?_)
    refine AO.op rfl (AOp.pick rfl rfl (ltb rfl) rfl q1 rfl ?_)
    refine AO.op rfl (AOp.assign rfl rfl (ltb rfl) rfl ?_)
    refine AO.nil ?_
    change AC _ _ _ _
    refine AC.ret ?_
    change RetQ _ _ _ .ret _
    obtain rfl := Option.some.inj h0
    refine retq rfl rfl
  replace h0 := cF h0 q1
  refine AO.guardN rfl rfl rfl (ltb rfl) rfl q1 ?_
  refine AO.guardN rfl rfl rfl (ltb rfl) rfl q1 ?_
  refine AO.op rfl (AOp.pickN rfl rfl (ltb rfl) rfl q1 rfl ?_)
  refine AO.op rfl (AOp.assign rfl rfl (ltb rfl) rfl ?_)
  refine AO.nil ?_
  change AC _ _ _ _
  refine AC.ret ?_
  change RetQ _ _ _ .ret _
  obtain rfl := Option.some.inj h0
  refine retq rfl rfl

theorem callFromBits (x : Nat) (w : World) : (callFunc 36 #[.int .u64 x]).run Tryd.prog w = .ok (.value (.float .f64 x)) w := by
  rw [run_callFunc_extern Tryd.func36 (by kernel_rfl) (by kernel_rfl) (by kernel_rfl) (e := Extern.MathFloatBits.float64frombits) (by kernel_rfl), run_f64frombits Tryd.prog x]
  rfl

set_option maxRecDepth 100000 in
set_option maxHeartbeats 4000000 in
/-- pub-orthodrome/spec.TakeRow -/
theorem w_TakeRow (F : Nat) (a0 : (List Int)) (a1 : Bool) (a2 : Int) (r0 : ((List Nat) × Int × Bool × Bool)) (h0 : p_TakeRow F a0 a1 a2 = some r0) : FnD Tryd.prog 6 [eS0 a0, dbool a1, di .i64 a2] (fun r => r = .tu [eS1 r0.1, di .i64 r0.2.1, dbool r0.2.2.1, dbool r0.2.2.2]) := by
  refine FnD.of (by kernel_rfl) Tryd.func6 rfl Tryd.ntmps6 rfl (leb rfl) fun W ok => ?_
  unfold p_TakeRow at h0
  refine AC.seq ?_
  refine AC.region ?_
  refine AO.op rfl (AOp.assign rfl rfl (ltb rfl) rfl ?_)
  refine AO.op rfl (AOp.assign rfl rfl (ltb rfl) rfl ?_)
  refine AO.op rfl (AOp.assign rfl rfl (ltb rfl) rfl ?_)
  refine AO.op rfl (AOp.assign rfl rfl (ltb rfl) rfl ?_)
  refine AO.nil ?_
  change AC _ _ _ _
  refine AC.seq ?_
  refine AC.region ?_
  refine AO.op rfl (AOp.move rfl rfl (ltb rfl) rfl ?_)
  refine AO.op rfl (AOp.move rfl rfl (ltb rfl) rfl ?_)
  refine AO.op rfl (AOp.build rfl rfl (ltb rfl) zero51 rfl places51 rfl rfl ?_)
  refine AO.op rfl (AOp.box rfl rfl (ltb rfl) rfl rfl ?_)
  refine AO.op rfl (AOp.assign rfl rfl (ltb rfl) rfl ?_)
  refine AO.nil ?_
  change AC _ _ _ _
  refine AC.seq ?_
  refine AC.region ?_
  refine AO.op rfl (AOp.move rfl rfl (ltb rfl) rfl ?_)
  refine AO.op rfl (AOp.move rfl rfl (ltb rfl) rfl ?_)
  refine AO.op rfl (AOp.inl [2, 6, 10, 15] (by kernel_rfl) Tryd.func18 rfl Tryd.ntmps18 rfl rfl (ltb rfl) rfl (leb rfl) rfl ?_)
  intro fr1
  refine AC.seq ?_
  refine AC.region ?_
  refine AO.op rfl (AOp.assign rfl rfl (ltb rfl) rfl ?_)
  refine AO.nil ?_
  change AC _ _ _ _
  refine AC.seq ?_
  refine AC.region ?_
  refine AO.op rfl (AOp.move rfl rfl (ltb rfl) rfl ?_)
  refine AO.op rfl (AOp.inl [0] (by kernel_rfl) Tryd.func37 rfl Tryd.ntmps37 rfl rfl (ltb rfl) rfl (leb rfl) rfl ?_)
  intro fr2
  refine AC.seq ?_
  refine AC.region ?_
  refine AO.op rfl (AOp.assign rfl rfl (ltb rfl) rfl ?_)
  refine AO.nil ?_
  change AC _ _ _ _
  refine AC.seq ?_
  refine AC.seq ?_
  refine AC.region ?_
  refine AO.op rfl (AOp.move rfl rfl (ltb rfl) rfl ?_)
  refine AO.op rfl (AOp.nilCheck rfl rfl (ltb rfl) rfl rfl ?_)
  refine AO.op rfl (AOp.fieldAddr rfl rfl (ltb rfl) rfl fo51_4 ?_)
  refine AO.op rfl (AOp.load1 rfl rfl (ltb rfl) rfl agg4 rfl rfl ?_)
  refine AO.op rfl (AOp.move rfl rfl (ltb rfl) rfl ?_)
  refine AO.guardY rfl rfl rfl rfl (AOp.move rfl rfl (ltb rfl) rfl ?_)
  refine AO.guardY rfl rfl rfl rfl (AOp.nilCheck rfl rfl (ltb rfl) rfl rfl ?_)
  refine AO.guardY rfl rfl rfl rfl (AOp.fieldAddr rfl rfl (ltb rfl) rfl fo51_5 ?_)
  refine AO.guardY rfl rfl rfl rfl (AOp.load1 rfl rfl (ltb rfl) rfl agg4 rfl rfl ?_)
  refine AO.op rfl (AOp.pickN rfl rfl (ltb rfl) rfl rfl rfl ?_)
  refine AO.op rfl (AOp.move rfl rfl (ltb rfl) rfl ?_)
  refine AO.guardY rfl rfl rfl rfl (AOp.move rfl rfl (ltb rfl) rfl ?_)
  refine AO.guardY rfl rfl rfl rfl (AOp.nilCheck rfl rfl (ltb rfl) rfl rfl ?_)
  refine AO.guardY rfl rfl rfl rfl (AOp.fieldAddr rfl rfl (ltb rfl) rfl fo51_0 ?_)
  refine AO.guardY rfl rfl rfl rfl (AOp.load1 rfl rfl (ltb rfl) rfl agg22 rfl rfl ?_)
  refine AO.guardY rfl rfl rfl rfl (AOp.lenDs (n := a0.length) (cells := (List.map keS0 a0)) rfl rfl (ltb rfl) rfl el22 (by decide) (len1 _ _) ?_)
  refine AO.guardY rfl rfl rfl rfl (AOp.move rfl rfl (ltb rfl) rfl ?_)
  refine AO.guardY rfl rfl rfl rfl (AOp.ilss rfl rfl (ltb rfl) rfl rfl ?_)
  refine AO.op rfl (AOp.pickN rfl rfl (ltb rfl) rfl rfl rfl ?_)
  refine AO.nil ?_
  change AC _ _ _ _
  refine AC.cond rfl (fun q3 => ?_) (fun q3 => ?_)
  · replace h0 := cT h0 q3
    refine AC.seq ?_
    refine AC.region ?_
    refine AO.op rfl (AOp.move rfl rfl (ltb rfl) rfl ?_)
    refine AO.op rfl (AOp.nilCheck rfl rfl (ltb rfl) rfl rfl ?_)
    refine AO.op rfl (AOp.fieldAddr rfl rfl (ltb rfl) rfl fo51_4 ?_)
    refine AO.op rfl (AOp.store rfl rfl rfl rfl size4 rfl rfl rfl (leb rfl) ?_)
    refine AO.nil ?_
    change AC _ _ _ _
    refine AC.seq ?_
    refine AC.region ?_
    refine AO.op rfl (AOp.assign rfl rfl (ltb rfl) rfl ?_)
    refine AO.nil ?_
    change AC _ _ _ _
    refine AC.ret ?_
    refine inlret (ob' := [.fix 51 [.d (eS0 a0), .d (dbool false), .d (dbool false), .d (dbool a1), .d (dbool true), .d (dbool false)], .frame fr1 [(2, .d (di .i64 a2)), (6, .d (.v (.slice none 0 0))), (10, .ptr 0 0), (15, .ptr 0 0)], .dead]) (e' := [(0, .ptr 0 0)]) (r := .d (di .u64 (0 : Int))) rfl rfl rfl ?_
    change AO _ _ _ _ _
    refine AO.op rfl (AOp.assign rfl rfl (ltb rfl) rfl ?_)
    refine AO.nil ?_
    change AC _ _ _ _
    refine AC.seq ?_
    refine AC.seq ?_
    refine AC.region ?_
    refine AO.op rfl (AOp.move rfl rfl (ltb rfl) rfl ?_)
    refine AO.op rfl (AOp.igtr rfl rfl (ltb rfl) rfl rfl ?_)
    refine AO.nil ?_
    change AC _ _ _ _
    refine AC.condF rfl rfl ?_
    refine AC.skip ?_
    change AC _ _ _ _
    refine AC.seq ?_
    refine AC.region ?_
    refine AO.op rfl (AOp.move rfl rfl (ltb rfl) rfl ?_)
    refine AO.op rfl (AOp.i2i rfl rfl (ltb rfl) rfl Tryd.underlying64 Tryd.underlying3 (show IntKind.i64.wrap (0 : Int) = (0 : Int) by decide) ?_)
    refine AO.op rfl (AOp.assign rfl rfl (ltb rfl) rfl ?_)
    refine AO.nil ?_
    change AC _ _ _ _
    refine AC.ret ?_
    refine inlret (ob' := [.fix 51 [.d (eS0 a0), .d (dbool false), .d (dbool false), .d (dbool a1), .d (dbool true), .d (dbool false)], .dead, .dead]) (e' := [(2, .d (di .i64 a2)), (6, .d (.v (.slice none 0 0))), (10, .ptr 0 0), (15, .ptr 0 0)]) (r := .d (di .i64 (0 : Int))) rfl rfl rfl ?_
    change AO _ _ _ _ _
    refine AO.op rfl (AOp.move rfl rfl (ltb rfl) rfl ?_)
    obtain ⟨q4, h0⟩ := need_elim h0
    refine AO.op rfl (AOp.imul rfl rfl (ltb rfl) rfl rfl rfl q4.1 q4.2 ?_)
    refine AO.op rfl (AOp.inl [6, 10] (by kernel_rfl) Tryd.func17 rfl Tryd.ntmps17 rfl rfl (ltb rfl) rfl (leb rfl) rfl ?_)
    intro fr5
    refine AC.seq ?_
    refine AC.region ?_
    refine AO.op rfl (AOp.assign rfl rfl (ltb rfl) rfl ?_)
    refine AO.nil ?_
    change AC _ _ _ _
    refine AC.seq ?_
    refine AC.region ?_
    refine AO.op rfl (AOp.assign rfl rfl (ltb rfl) rfl ?_)
    refine AO.nil ?_
    change AC _ _ _ _
    refine AC.seq ?_
    refine AC.seq ?_
    refine AC.region ?_
    refine AO.op rfl (AOp.assign rfl rfl (ltb rfl) rfl ?_)
    refine AO.nil ?_
    change AC _ _ _ _
    refine AC.adopt 5 63 1 rfl ?_
    obtain ⟨o6, l7, h0⟩ := bind_elim h0
    refine AC.joinE (V := (List Nat)) [] [5] 5 (fun g8 => [(5, .own 4)]) (fun g8 => [.fix 51 [.d (eS0 a0), .d (dbool false), .d (dbool false), .d (dbool a1), .d (dbool true), .d (dbool false)], .dead, .dead, .frame fr5 [(6, .d (.v (.slice none 0 0))), (10, .ptr 0 0)], .grow 63 1 (List.map keS1 g8)]) (fun g8 => (p_TakeRow_k1 a0) g8 = some r0) rfl ?_ ?_
    · refine AC.block ?_
      refine AC.loopP (V := (Int × (List Nat))) (p_TakeRow_l2 a2) o6 [0, 1] [5, 6] 5 (fun g9 => [(5, .own 4), (6, .d (di .i64 g9.1))]) (fun g9 => [.fix 51 [.d (eS0 a0), .d (dbool false), .d (dbool false), .d (dbool a1), .d (dbool true), .d (dbool false)], .dead, .dead, .frame fr5 [(6, .d (.v (.slice none 0 0))), (10, .ptr 0 0)], .grow 63 1 (List.map keS1 g9.2)]) F ((0 : Int), []) l7 rfl rfl (LeL.refl _) rfl rfl ?_
      intro n11 g9 h1
      unfold p_TakeRow_l2 at h1
      refine AC.seq ?_
      refine AC.joinP (V := Bool) [0, 1, 5, 6] [23] 5 (fun g12 => [(23, .d (dbool g12))]) (fun g12 => [.fix 51 [.d (eS0 a0), .d (dbool false), .d (dbool false), .d (dbool a1), .d (dbool true), .d (dbool false)], .dead, .dead, .frame fr5 [(6, .d (.v (.slice none 0 0))), (10, .ptr 0 0)], .grow 63 1 (List.map keS1 g9.2)]) (fun g12 => (p_TakeRow_k3 g9 (iter (p_TakeRow_l2 a2) n11)) g12 = some o6) rfl ?_ ?_
      · refine AC.region ?_
        refine AO.op rfl (AOp.move rfl rfl (ltb rfl) rfl ?_)
        refine AO.op rfl (AOp.move rfl rfl (ltb rfl) rfl ?_)
        refine AO.op rfl (AOp.ilss rfl rfl (ltb rfl) rfl rfl ?_)
        refine AO.op rfl (AOp.move rfl rfl (ltb rfl) rfl ?_)
        refine AO.dec (decide (g9.1 < ((0 : Int) * a2))) (fun q18 => ?_) (fun q18 => ?_)
        · replace h1 := cT h1 q18
          refine AO.guardY rfl rfl rfl q18 (AOp.move rfl rfl (ltb rfl) rfl ?_)
          refine AO.guardY rfl rfl rfl q18 (AOp.nilCheck rfl rfl (ltb rfl) rfl rfl ?_)
          refine AO.guardY rfl rfl rfl q18 (AOp.fieldAddr rfl rfl (ltb rfl) rfl fo51_4 ?_)
          refine AO.guardY rfl rfl rfl q18 (AOp.load1 rfl rfl (ltb rfl) rfl agg4 rfl rfl ?_)
          refine AO.guardY rfl rfl rfl q18 (AOp.bnot rfl rfl (ltb rfl) rfl ?_)
          refine AO.op rfl (AOp.pick rfl rfl (ltb rfl) rfl q18 rfl ?_)
          refine AO.op rfl (AOp.move rfl rfl (ltb rfl) rfl ?_)
          refine AO.guardN rfl rfl rfl (ltb rfl) rfl rfl ?_
          refine AO.guardN rfl rfl rfl (ltb rfl) rfl rfl ?_
          refine AO.guardN rfl rfl rfl (ltb rfl) rfl rfl ?_
          refine AO.guardN rfl rfl rfl (ltb rfl) rfl rfl ?_
          refine AO.guardN rfl rfl rfl (ltb rfl) rfl rfl ?_
          refine AO.op rfl (AOp.pickN rfl rfl (ltb rfl) rfl rfl rfl ?_)
          refine AO.nil ?_
          exact ⟨false, _, rfl, (LeL.refl _), rfl, rfl, h1⟩
        replace h1 := cF h1 q18
        refine AO.guardN rfl rfl rfl (ltb rfl) rfl q18 ?_
        refine AO.guardN rfl rfl rfl (ltb rfl) rfl q18 ?_
        refine AO.guardN rfl rfl rfl (ltb rfl) rfl q18 ?_
        refine AO.guardN rfl rfl rfl (ltb rfl) rfl q18 ?_
        refine AO.guardN rfl rfl rfl (ltb rfl) rfl q18 ?_
        refine AO.op rfl (AOp.pickN rfl rfl (ltb rfl) rfl q18 rfl ?_)
        refine AO.op rfl (AOp.move rfl rfl (ltb rfl) rfl ?_)
        refine AO.guardN rfl rfl rfl (ltb rfl) rfl rfl ?_
        refine AO.guardN rfl rfl rfl (ltb rfl) rfl rfl ?_
        refine AO.guardN rfl rfl rfl (ltb rfl) rfl rfl ?_
        refine AO.guardN rfl rfl rfl (ltb rfl) rfl rfl ?_
        refine AO.guardN rfl rfl rfl (ltb rfl) rfl rfl ?_
        refine AO.op rfl (AOp.pickN rfl rfl (ltb rfl) rfl rfl rfl ?_)
        refine AO.nil ?_
        exact ⟨false, _, rfl, (LeL.refl _), rfl, rfl, h1⟩
      intro g12 h1
      unfold p_TakeRow_k3 at h1
      refine AC.cond rfl (fun q13 => ?_) (fun q13 => ?_)
      · replace h1 := cT h1 q13
        refine AC.skip ?_
        change AC _ _ _ _
        refine AC.seq ?_
        refine AC.block ?_
        refine AC.region ?_
        refine AO.op rfl (AOp.move rfl rfl (ltb rfl) rfl ?_)
        refine AO.op rfl (AOp.move rfl rfl (ltb rfl) rfl ?_)
        refine AO.op rfl (AOp.inl [0, 1, 5, 6, 26] (by kernel_rfl) Tryd.func37 rfl Tryd.ntmps37 rfl rfl (ltb rfl) rfl (leb rfl) rfl ?_)
        intro fr14
        refine AC.seq ?_
        refine AC.region ?_
        refine AO.op rfl (AOp.assign rfl rfl (ltb rfl) rfl ?_)
        refine AO.objs (obs' := [.fix 51 [.d (eS0 a0), .d (dbool false), .d (dbool false), .d (dbool a1), .d (dbool true), .d (dbool false)], .dead, .dead, .frame fr5 [(6, .d (.v (.slice none 0 0))), (10, .ptr 0 0)], .grow 63 1 (List.map keS1 g9.2), .frame fr14 [(0, .ptr 0 0), (1, .d (di .i64 ((0 : Int) * a2))), (5, .own 4), (6, .d (di .i64 g9.1)), (26, .own 4)]]) rfl ?_
        refine AO.nil ?_
        change AC _ _ _ _
        refine AC.seq ?_
        refine AC.seq ?_
        refine AC.region ?_
        refine AO.op rfl (AOp.move rfl rfl (ltb rfl) rfl ?_)
        refine AO.op rfl (AOp.nilCheck rfl rfl (ltb rfl) rfl rfl ?_)
        refine AO.op rfl (AOp.fieldAddr rfl rfl (ltb rfl) rfl fo51_4 ?_)
        refine AO.op rfl (AOp.load1 rfl rfl (ltb rfl) rfl agg4 rfl rfl ?_)
        refine AO.op rfl (AOp.move rfl rfl (ltb rfl) rfl ?_)
        refine AO.guardN rfl rfl rfl (ltb rfl) rfl rfl ?_
        refine AO.guardN rfl rfl rfl (ltb rfl) rfl rfl ?_
        refine AO.guardN rfl rfl rfl (ltb rfl) rfl rfl ?_
        refine AO.guardN rfl rfl rfl (ltb rfl) rfl rfl ?_
        refine AO.op rfl (AOp.pick rfl rfl (ltb rfl) rfl rfl rfl ?_)
        refine AO.op rfl (AOp.move rfl rfl (ltb rfl) rfl ?_)
        refine AO.guardN rfl rfl rfl (ltb rfl) rfl rfl ?_
        refine AO.guardN rfl rfl rfl (ltb rfl) rfl rfl ?_
        refine AO.guardN rfl rfl rfl (ltb rfl) rfl rfl ?_
        refine AO.guardN rfl rfl rfl (ltb rfl) rfl rfl ?_
        refine AO.guardN rfl rfl rfl (ltb rfl) rfl rfl ?_
        refine AO.guardN rfl rfl rfl (ltb rfl) rfl rfl ?_
        refine AO.guardN rfl rfl rfl (ltb rfl) rfl rfl ?_
        refine AO.op rfl (AOp.pick rfl rfl (ltb rfl) rfl rfl rfl ?_)
        refine AO.nil ?_
        change AC _ _ _ _
        refine AC.condT rfl rfl ?_
        refine AC.seq ?_
        refine AC.region ?_
        refine AO.op rfl (AOp.move rfl rfl (ltb rfl) rfl ?_)
        refine AO.op rfl (AOp.nilCheck rfl rfl (ltb rfl) rfl rfl ?_)
        refine AO.op rfl (AOp.fieldAddr rfl rfl (ltb rfl) rfl fo51_4 ?_)
        refine AO.op rfl (AOp.store rfl rfl rfl rfl size4 rfl rfl rfl (leb rfl) ?_)
        refine AO.nil ?_
        change AC _ _ _ _
        refine AC.seq ?_
        refine AC.region ?_
        refine AO.op rfl (AOp.assign rfl rfl (ltb rfl) rfl ?_)
        refine AO.nil ?_
        change AC _ _ _ _
        refine AC.ret ?_
        refine inlret (ob' := [.fix 51 [.d (eS0 a0), .d (dbool false), .d (dbool false), .d (dbool a1), .d (dbool true), .d (dbool false)], .dead, .dead, .frame fr5 [(6, .d (.v (.slice none 0 0))), (10, .ptr 0 0)], .grow 63 1 (List.map keS1 g9.2), .dead]) (e' := [(0, .ptr 0 0), (1, .d (di .i64 ((0 : Int) * a2))), (5, .own 4), (6, .d (di .i64 g9.1)), (26, .own 4)]) (r := .d (di .u64 (0 : Int))) rfl rfl rfl ?_
        change AO _ _ _ _ _
        obtain ⟨q15, h1⟩ := need_elim h1
        refine AO.op rfl (AOp.callX [.int .u64 ((((0 : Int)).toNat : Nat) : Int)] rfl rfl (ltb rfl) (by rw [q15]; rfl) (callFromBits (((0 : Int)).toNat)) ?_)
        refine AO.op rfl (AOp.buildSliceD rfl rfl (ltb rfl) el24 zero63 rfl (leb rfl) rfl rfl rfl rfl ?_)
        obtain ⟨q16, h1⟩ := need_elim h1
        refine AO.op rfl (AOp.appendOwn' (p := 4) (n := g9.2.length) (m := [((0 : Int)).toNat].length) (news := (List.map keS1 [((0 : Int)).toNat])) rfl rfl (ltb rfl) rfl rfl el24 info63 rfl (by decide) rfl (len1 _ _) (len1 _ _) (one1 _ (fun _ => rfl) _) q16 (by decide) rfl rfl (cat1 _ _ _) ?_)
        refine AO.op rfl (AOp.assign rfl rfl (ltb rfl) rfl ?_)
        refine AO.objs (obs' := [.fix 51 [.d (eS0 a0), .d (dbool false), .d (dbool false), .d (dbool a1), .d (dbool true), .d (dbool false)], .dead, .dead, .frame fr5 [(6, .d (.v (.slice none 0 0))), (10, .ptr 0 0)], .grow 63 1 (List.map keS1 (g9.2 ++ [((0 : Int)).toNat])), .dead]) rfl ?_
        refine AO.nil ?_
        change AC _ _ _ _
        refine AC.region ?_
        refine AO.op rfl (AOp.move rfl rfl (ltb rfl) rfl ?_)
        obtain ⟨q17, h1⟩ := need_elim h1
        refine AO.op rfl (AOp.iadd rfl rfl (ltb rfl) rfl rfl rfl q17.1 q17.2 ?_)
        refine AO.op rfl (AOp.assign rfl rfl (ltb rfl) rfl ?_)
        refine AO.nil ?_
        exact ⟨((g9.1 + (1 : Int)), (g9.2 ++ [((0 : Int)).toNat])), _, rfl, (LeL.refl _), rfl, rfl, h1⟩
      replace h1 := cF h1 q13
      refine AC.exit ?_
      obtain rfl := Option.some.inj h1
      exact ⟨g9.2, _, rfl, (LeL.refl _), rfl, rfl, aftL h0⟩
    intro g8 h0
    unfold p_TakeRow_k1 at h0
    change AC _ _ _ _
    refine AC.seq ?_
    refine AC.region ?_
    refine AO.op rfl (AOp.move rfl rfl (ltb rfl) rfl ?_)
    refine AO.op rfl (AOp.assign rfl rfl (ltb rfl) rfl ?_)
    refine AO.nil ?_
    change AC _ _ _ _
    refine AC.ret ?_
    refine inlret (ob' := [.fix 51 [.d (eS0 a0), .d (dbool false), .d (dbool false), .d (dbool a1), .d (dbool true), .d (dbool false)], .dead, .dead, .dead, .grow 63 1 (List.map keS1 g8)]) (e' := [(6, .d (.v (.slice none 0 0))), (10, .ptr 0 0)]) (r := .own 4) rfl rfl rfl ?_
    change AO _ _ _ _ _
    refine AO.op rfl (AOp.assign rfl rfl (ltb rfl) rfl ?_)
    refine AO.nil ?_
    change AC _ _ _ _
    refine AC.seq ?_
    refine AC.draw 26 mixed (by kernel_rfl) ?_
    refine AD.op [6] rfl (by kernel_rfl) rfl rfl (fun _ _ h => AOp.move rfl rfl (ltb rfl) rfl h) ?_
    refine AD.op [10] rfl (by kernel_rfl) rfl rfl (fun _ _ h => AOp.move rfl rfl (ltb rfl) rfl h) ?_
    refine AD.op [22] rfl (by kernel_rfl) rfl rfl (fun _ _ h => AOp.nilCheck rfl rfl (ltb rfl) rfl rfl h) ?_
    refine AD.op [23] rfl (by kernel_rfl) rfl rfl (fun _ _ h => AOp.fieldAddr rfl rfl (ltb rfl) rfl fo51_0 h) ?_
    refine AD.op [24] rfl (by kernel_rfl) rfl rfl (fun _ _ h => AOp.load1 rfl rfl (ltb rfl) rfl agg22 rfl rfl h) ?_
    refine AD.op [25] rfl (by kernel_rfl) rfl rfl (fun _ _ h => AOp.lenDs (n := a0.length) (cells := (List.map keS0 a0)) rfl rfl (ltb rfl) rfl el22 (by decide) (len1 _ _) h) ?_
    refine AD.op [10] rfl (by kernel_rfl) rfl rfl (fun _ _ h => AOp.move rfl rfl (ltb rfl) rfl h) ?_
    refine AD.op [27] rfl (by kernel_rfl) rfl rfl (fun _ _ h => AOp.nilCheck rfl rfl (ltb rfl) rfl rfl h) ?_
    refine AD.op [28] rfl (by kernel_rfl) rfl rfl (fun _ _ h => AOp.fieldAddr rfl rfl (ltb rfl) rfl fo51_4 h) ?_
    refine AD.op [29] rfl (by kernel_rfl) rfl rfl (fun _ _ h => AOp.load1 rfl rfl (ltb rfl) rfl agg4 rfl rfl h) ?_
    refine AD.op [30] rfl (by kernel_rfl) rfl rfl (fun _ _ h => AOp.bnot rfl rfl (ltb rfl) rfl h) ?_
    refine AD.op [31] rfl (by kernel_rfl) rfl rfl (fun _ _ h => AOp.move rfl rfl (ltb rfl) rfl h) ?_
    refine AD.opN rfl rfl rfl (ltb rfl) rfl rfl ?_
    refine AD.opN rfl rfl rfl (ltb rfl) rfl rfl ?_
    refine AD.opN rfl rfl rfl (ltb rfl) rfl rfl ?_
    refine AD.opN rfl rfl rfl (ltb rfl) rfl rfl ?_
    refine AD.opN rfl rfl rfl (ltb rfl) rfl rfl ?_
    refine AD.op [32, 37] rfl (by kernel_rfl) rfl rfl (fun _ _ h => AOp.pickN rfl rfl (ltb rfl) rfl rfl rfl h) ?_
    refine AD.op [10] rfl (by kernel_rfl) rfl rfl (fun _ _ h => AOp.move rfl rfl (ltb rfl) rfl h) ?_
    refine AD.op [39] rfl (by kernel_rfl) rfl rfl (fun _ _ h => AOp.nilCheck rfl rfl (ltb rfl) rfl rfl h) ?_
    refine AD.op [40] rfl (by kernel_rfl) rfl rfl (fun _ _ h => AOp.fieldAddr rfl rfl (ltb rfl) rfl fo51_5 h) ?_
    refine AD.op [41] rfl (by kernel_rfl) rfl rfl (fun _ _ h => AOp.load1 rfl rfl (ltb rfl) rfl agg4 rfl rfl h) ?_
    refine AD.op [21] rfl (by kernel_rfl) rfl rfl (fun _ _ h => AOp.assign rfl rfl (ltb rfl) rfl h) ?_
    refine AD.op [26] rfl (by kernel_rfl) rfl rfl (fun _ _ h => AOp.assign rfl rfl (ltb rfl) rfl h) ?_
    refine AD.op [38] rfl (by kernel_rfl) rfl rfl (fun _ _ h => AOp.assign rfl rfl (ltb rfl) rfl h) ?_
    refine AD.op [42] rfl (by kernel_rfl) rfl rfl (fun _ _ h => AOp.assign rfl rfl (ltb rfl) rfl h) ?_
    refine AD.done ?_
    refine AO.nil ?_
    change AC _ _ _ _
    refine AC.ret ?_
    change RetQ _ _ _ .ret _
    obtain rfl := Option.some.inj h0
    refine retq rfl rfl
  replace h0 := cF h0 q3
  refine AC.skip ?_
  change AC _ _ _ _
  refine AC.seq ?_
  refine AC.region ?_
  refine AO.op rfl (AOp.assign rfl rfl (ltb rfl) rfl ?_)
  refine AO.nil ?_
  change AC _ _ _ _
  refine AC.seq ?_
  refine AC.seq ?_
  refine AC.region ?_
  refine AO.op rfl (AOp.move rfl rfl (ltb rfl) rfl ?_)
  refine AO.op rfl (AOp.move rfl rfl (ltb rfl) rfl ?_)
  refine AO.nil ?_
  change AC _ _ _ _
  obtain ⟨o19, l20, h0⟩ := bind_elim h0
  refine AC.joinE (V := Int) [0, 1] [5] 3 (fun g21 => [(5, .d (di .u64 g21))]) (fun g21 => [.fix 51 [.d (eS0 a0), .d (dbool false), .d (dbool false), .d (dbool a1), .d (dbool false), .d (dbool false)], .frame fr1 [(2, .d (di .i64 a2)), (6, .d (.v (.slice none 0 0))), (10, .ptr 0 0), (15, .ptr 0 0)], .frame fr2 [(0, .ptr 0 0)]]) (fun g21 => (p_TakeRow_k4 a0 a1 a2 F) g21 = some r0) rfl ?_ ?_
  · refine AC.block ?_
    refine AC.loopP (V := (Int × Int)) (p_TakeRow_l19 a0 a1) o19 [0, 1, 30] [5, 31] 3 (fun g98 => [(5, .d (di .u64 g98.1)), (31, .d (di .i64 g98.2))]) (fun g98 => [.fix 51 [.d (eS0 a0), .d (dbool false), .d (dbool false), .d (dbool a1), .d (dbool false), .d (dbool false)], .frame fr1 [(2, .d (di .i64 a2)), (6, .d (.v (.slice none 0 0))), (10, .ptr 0 0), (15, .ptr 0 0)], .frame fr2 [(0, .ptr 0 0)]]) F ((0 : Int), (0 : Int)) l20 rfl rfl (LeL.refl _) rfl rfl ?_
    intro n100 g98 h1
    unfold p_TakeRow_l19 at h1
    refine AC.seq ?_
    refine AC.region ?_
    refine AO.op rfl (AOp.ilss rfl rfl (ltb rfl) rfl rfl ?_)
    refine AO.nil ?_
    change AC _ _ _ _
    refine AC.seq ?_
    refine AC.cond rfl (fun q101 => ?_) (fun q101 => ?_)
    · replace h1 := cT h1 q101
      refine AC.skip ?_
      change AC _ _ _ _
      refine AC.seq ?_
      refine AC.block ?_
      refine AC.seq ?_
      refine AC.region ?_
      refine AO.op rfl (AOp.move rfl rfl (ltb rfl) rfl ?_)
      refine AO.op rfl (AOp.assign rfl rfl (ltb rfl) rfl ?_)
      refine AO.nil ?_
      change AC _ _ _ _
      refine AC.seq ?_
      refine AC.region ?_
      refine AO.op rfl (AOp.move rfl rfl (ltb rfl) rfl ?_)
      refine AO.op rfl (AOp.assign rfl rfl (ltb rfl) rfl ?_)
      refine AO.nil ?_
      change AC _ _ _ _
      refine AC.joinP (V := Int) [0, 1, 5, 30, 31] [7] 3 (fun g102 => [(7, .d (di .i64 g102))]) (fun g102 => [.fix 51 [.d (eS0 a0), .d (dbool false), .d (dbool false), .d (dbool a1), .d (dbool false), .d (dbool false)], .frame fr1 [(2, .d (di .i64 a2)), (6, .d (.v (.slice none 0 0))), (10, .ptr 0 0), (15, .ptr 0 0)], .frame fr2 [(0, .ptr 0 0)]]) (fun g102 => (p_TakeRow_k20 a0 g98 (iter (p_TakeRow_l19 a0 a1) n100)) g102 = some o19) rfl ?_ ?_
      · refine AC.seq ?_
        refine AC.region ?_
        refine AO.op rfl (AOp.move rfl rfl (ltb rfl) rfl ?_)
        refine AO.op rfl (AOp.nilCheck rfl rfl (ltb rfl) rfl rfl ?_)
        refine AO.op rfl (AOp.fieldAddr rfl rfl (ltb rfl) rfl fo51_3 ?_)
        refine AO.op rfl (AOp.load1 rfl rfl (ltb rfl) rfl agg4 rfl rfl ?_)
        refine AO.op rfl (AOp.bnot rfl rfl (ltb rfl) rfl ?_)
        refine AO.nil ?_
        change AC _ _ _ _
        refine AC.cond rfl (fun q106 => ?_) (fun q106 => ?_)
        · replace h1 := cT h1 q106
          refine AC.region ?_
          refine AO.op rfl (AOp.move rfl rfl (ltb rfl) rfl ?_)
          refine AO.op rfl (AOp.isub rfl rfl (ltb rfl) rfl rfl (show (4 : Int) - (1 : Int) = (3 : Int) by decide) (by decide) (by decide) ?_)
          refine AO.op rfl (AOp.move rfl rfl (ltb rfl) rfl ?_)
          obtain ⟨q107, h1⟩ := need_elim h1
          refine AO.op rfl (AOp.isub rfl rfl (ltb rfl) rfl rfl rfl q107.1 q107.2 ?_)
          refine AO.op rfl (AOp.assign rfl rfl (ltb rfl) rfl ?_)
          refine AO.nil ?_
          exact ⟨((3 : Int) - g98.2), _, rfl, (LeL.refl _), rfl, rfl, h1⟩
        replace h1 := cF h1 q106
        refine AC.skip ?_
        exact ⟨g98.2, _, rfl, (LeL.refl _), rfl, rfl, h1⟩
      intro g102 h1
      unfold p_TakeRow_k20 at h1
      refine AC.region ?_
      refine AO.op rfl (AOp.move rfl rfl (ltb rfl) rfl ?_)
      refine AO.op rfl (AOp.ishl (n := 8) rfl rfl (ltb rfl) rfl rfl (by decide) rfl ?_)
      refine AO.op rfl (AOp.move rfl rfl (ltb rfl) rfl ?_)
      refine AO.op rfl (AOp.nilCheck rfl rfl (ltb rfl) rfl rfl ?_)
      refine AO.op rfl (AOp.fieldAddr rfl rfl (ltb rfl) rfl fo51_0 ?_)
      refine AO.op rfl (AOp.load1 rfl rfl (ltb rfl) rfl agg22 rfl rfl ?_)
      refine AO.op rfl (AOp.move rfl rfl (ltb rfl) rfl ?_)
      obtain ⟨x103, q104, h1⟩ := idx_elim h1
      refine AO.op rfl (AOp.indexDs (cells := (List.map keS0 a0)) rfl rfl (ltb rfl) rfl rfl el22 (by decide) q104.1 (lt1 q104.2) ?_)
      refine AO.op rfl (AOp.loadEp rfl rfl (ltb rfl) rfl agg5 (at1 q104.2) ?_)
      refine AO.op rfl (AOp.i2i rfl rfl (ltb rfl) rfl Tryd.underlying5 Tryd.underlying64 rfl ?_)
      refine AO.op rfl (AOp.ibits (by simp) rfl rfl (ltb rfl) rfl rfl rfl ?_)
      refine AO.op rfl (AOp.assign rfl rfl (ltb rfl) rfl ?_)
      refine AO.nil ?_
      change AC _ _ _ _
      refine AC.region ?_
      obtain ⟨q105, h1⟩ := need_elim h1
      refine AO.op rfl (AOp.iadd rfl rfl (ltb rfl) rfl rfl rfl q105.1 q105.2 ?_)
      refine AO.op rfl (AOp.move rfl rfl (ltb rfl) rfl ?_)
      refine AO.nil ?_
      exact ⟨((bits .or .u64 (IntKind.u64.wrap (g98.1 * 2 ^ 8)) (IntKind.u64.wrap x103)), (g98.2 + (1 : Int))), _, rfl, (LeL.refl _), rfl, rfl, h1⟩
    replace h1 := cF h1 q101
    refine AC.exit ?_
    obtain rfl := Option.some.inj h1
    exact ⟨g98.1, _, rfl, (LeL.refl _), rfl, rfl, aftL h0⟩
  intro g21 h0
  unfold p_TakeRow_k4 at h0
  change AC _ _ _ _
  refine AC.seq ?_
  refine AC.region ?_
  refine AO.op rfl (AOp.move rfl rfl (ltb rfl) rfl ?_)
  refine AO.op rfl (AOp.move rfl rfl (ltb rfl) rfl ?_)
  refine AO.op rfl (AOp.nilCheck rfl rfl (ltb rfl) rfl rfl ?_)
  refine AO.op rfl (AOp.fieldAddr rfl rfl (ltb rfl) rfl fo51_0 ?_)
  refine AO.op rfl (AOp.load1 rfl rfl (ltb rfl) rfl agg22 rfl rfl ?_)
  refine AO.op rfl (AOp.move rfl rfl (ltb rfl) rfl ?_)
  obtain ⟨q22, h0⟩ := need_elim h0
  refine AO.op rfl (AOp.sliceD (cells := (List.map keS0 a0)) (n := a0.length) (l := ((4 : Int)).toNat) (hh := a0.length) rfl rfl (ltb rfl) rfl (.inr ⟨_, _, _, rfl, rfl, q22.1.1, rfl⟩) (.inl ⟨rfl, rfl⟩) el22 (by decide) (len1 _ _) q22.2.1 q22.2.2 (sub1 _ _ _ _) ?_)
  refine AO.op rfl (AOp.nilCheck rfl rfl (ltb rfl) rfl rfl ?_)
  refine AO.op rfl (AOp.fieldAddr rfl rfl (ltb rfl) rfl fo51_0 ?_)
  refine AO.op rfl (AOp.store rfl rfl rfl rfl size22 rfl rfl rfl (leb rfl) ?_)
  refine AO.nil ?_
  change AC _ _ _ _
  refine AC.seq ?_
  refine AC.region ?_
  refine AO.op rfl (AOp.move rfl rfl (ltb rfl) rfl ?_)
  refine AO.op rfl (AOp.assign rfl rfl (ltb rfl) rfl ?_)
  refine AO.nil ?_
  change AC _ _ _ _
  refine AC.ret ?_
  refine inlret (ob' := [.fix 51 [.d (eS0 ((a0.drop ((4 : Int)).toNat).take (a0.length - ((4 : Int)).toNat))), .d (dbool false), .d (dbool false), .d (dbool a1), .d (dbool false), .d (dbool false)], .frame fr1 [(2, .d (di .i64 a2)), (6, .d (.v (.slice none 0 0))), (10, .ptr 0 0), (15, .ptr 0 0)], .dead]) (e' := [(0, .ptr 0 0)]) (r := .d (di .u64 g21)) rfl rfl rfl ?_
  change AO _ _ _ _ _
  refine AO.op rfl (AOp.assign rfl rfl (ltb rfl) rfl ?_)
  refine AO.nil ?_
  change AC _ _ _ _
  refine AC.seq ?_
  refine AC.seq ?_
  refine AC.region ?_
  refine AO.op rfl (AOp.move rfl rfl (ltb rfl) rfl ?_)
  refine AO.op rfl (AOp.igtr rfl rfl (ltb rfl) rfl rfl ?_)
  refine AO.nil ?_
  change AC _ _ _ _
  refine AC.cond rfl (fun q23 => ?_) (fun q23 => ?_)
  · replace h0 := cT h0 q23
    refine AC.seq ?_
    refine AC.region ?_
    refine AO.op rfl (AOp.move rfl rfl (ltb rfl) rfl ?_)
    refine AO.op rfl (AOp.nilCheck rfl rfl (ltb rfl) rfl rfl ?_)
    refine AO.op rfl (AOp.fieldAddr rfl rfl (ltb rfl) rfl fo51_5 ?_)
    refine AO.op rfl (AOp.store rfl rfl rfl rfl size4 rfl rfl rfl (leb rfl) ?_)
    refine AO.nil ?_
    change AC _ _ _ _
    refine AC.seq ?_
    refine AC.region ?_
    refine AO.op rfl (AOp.assign rfl rfl (ltb rfl) rfl ?_)
    refine AO.nil ?_
    change AC _ _ _ _
    refine AC.ret ?_
    refine inlret (ob' := [.fix 51 [.d (eS0 ((a0.drop ((4 : Int)).toNat).take (a0.length - ((4 : Int)).toNat))), .d (dbool false), .d (dbool false), .d (dbool a1), .d (dbool false), .d (dbool true)], .dead, .dead]) (e' := [(2, .d (di .i64 a2)), (6, .d (.v (.slice none 0 0))), (10, .ptr 0 0), (15, .ptr 0 0)]) (r := .d (di .i64 (0 : Int))) rfl rfl rfl ?_
    change AO _ _ _ _ _
    refine AO.op rfl (AOp.move rfl rfl (ltb rfl) rfl ?_)
    obtain ⟨q24, h0⟩ := need_elim h0
    refine AO.op rfl (AOp.imul rfl rfl (ltb rfl) rfl rfl rfl q24.1 q24.2 ?_)
    refine AO.op rfl (AOp.inl [6, 10] (by kernel_rfl) Tryd.func17 rfl Tryd.ntmps17 rfl rfl (ltb rfl) rfl (leb rfl) rfl ?_)
    intro fr25
    refine AC.seq ?_
    refine AC.region ?_
    refine AO.op rfl (AOp.assign rfl rfl (ltb rfl) rfl ?_)
    refine AO.nil ?_
    change AC _ _ _ _
    refine AC.seq ?_
    refine AC.region ?_
    refine AO.op rfl (AOp.assign rfl rfl (ltb rfl) rfl ?_)
    refine AO.nil ?_
    change AC _ _ _ _
    refine AC.seq ?_
    refine AC.seq ?_
    refine AC.region ?_
    refine AO.op rfl (AOp.assign rfl rfl (ltb rfl) rfl ?_)
    refine AO.nil ?_
    change AC _ _ _ _
    refine AC.adopt 5 63 1 rfl ?_
    obtain ⟨o26, l27, h0⟩ := bind_elim h0
    refine AC.joinE (V := ((List Int) × Bool × (List Nat))) [] [5] 5 (fun g28 => [(5, .own 4)]) (fun g28 => [.fix 51 [.d (eS0 g28.1), .d (dbool false), .d (dbool false), .d (dbool a1), .d (dbool g28.2.1), .d (dbool true)], .dead, .dead, .frame fr25 [(6, .d (.v (.slice none 0 0))), (10, .ptr 0 0)], .grow 63 1 (List.map keS1 g28.2.2)]) (fun g28 => p_TakeRow_k5 g28 = some r0) rfl ?_ ?_
    · refine AC.block ?_
      refine AC.loopP (V := (Int × Bool × (List Int) × (List Nat))) (p_TakeRow_l6 a1 a2 F) o26 [0, 1] [5, 6] 5 (fun g30 => [(5, .own 4), (6, .d (di .i64 g30.1))]) (fun g30 => [.fix 51 [.d (eS0 g30.2.2.1), .d (dbool false), .d (dbool false), .d (dbool a1), .d (dbool g30.2.1), .d (dbool true)], .dead, .dead, .frame fr25 [(6, .d (.v (.slice none 0 0))), (10, .ptr 0 0)], .grow 63 1 (List.map keS1 g30.2.2.2)]) F ((0 : Int), false, ((a0.drop ((4 : Int)).toNat).take (a0.length - ((4 : Int)).toNat)), []) l27 rfl rfl (LeL.refl _) rfl rfl ?_
      intro n32 g30 h1
      unfold p_TakeRow_l6 at h1
      refine AC.seq ?_
      refine AC.joinP (V := Bool) [0, 1, 5, 6] [23] 5 (fun g33 => [(23, .d (dbool g33))]) (fun g33 => [.fix 51 [.d (eS0 g30.2.2.1), .d (dbool false), .d (dbool false), .d (dbool a1), .d (dbool g30.2.1), .d (dbool true)], .dead, .dead, .frame fr25 [(6, .d (.v (.slice none 0 0))), (10, .ptr 0 0)], .grow 63 1 (List.map keS1 g30.2.2.2)]) (fun g33 => (p_TakeRow_k7 a1 F g30 (iter (p_TakeRow_l6 a1 a2 F) n32)) g33 = some o26) rfl ?_ ?_
      · refine AC.region ?_
        refine AO.op rfl (AOp.move rfl rfl (ltb rfl) rfl ?_)
        refine AO.op rfl (AOp.move rfl rfl (ltb rfl) rfl ?_)
        refine AO.op rfl (AOp.ilss rfl rfl (ltb rfl) rfl rfl ?_)
        refine AO.op rfl (AOp.move rfl rfl (ltb rfl) rfl ?_)
        refine AO.dec (decide (g30.1 < ((0 : Int) * a2))) (fun q59 => ?_) (fun q59 => ?_)
        · replace h1 := cT h1 q59
          refine AO.guardY rfl rfl rfl q59 (AOp.move rfl rfl (ltb rfl) rfl ?_)
          refine AO.guardY rfl rfl rfl q59 (AOp.nilCheck rfl rfl (ltb rfl) rfl rfl ?_)
          refine AO.guardY rfl rfl rfl q59 (AOp.fieldAddr rfl rfl (ltb rfl) rfl fo51_4 ?_)
          refine AO.guardY rfl rfl rfl q59 (AOp.load1 rfl rfl (ltb rfl) rfl agg4 rfl rfl ?_)
          refine AO.guardY rfl rfl rfl q59 (AOp.bnot rfl rfl (ltb rfl) rfl ?_)
          refine AO.op rfl (AOp.pick rfl rfl (ltb rfl) rfl q59 rfl ?_)
          refine AO.op rfl (AOp.move rfl rfl (ltb rfl) rfl ?_)
          refine AO.dec (!g30.2.1) (fun q60 => ?_) (fun q60 => ?_)
          · replace h1 := cT h1 q60
            refine AO.guardY rfl rfl rfl q60 (AOp.move rfl rfl (ltb rfl) rfl ?_)
            refine AO.guardY rfl rfl rfl q60 (AOp.nilCheck rfl rfl (ltb rfl) rfl rfl ?_)
            refine AO.guardY rfl rfl rfl q60 (AOp.fieldAddr rfl rfl (ltb rfl) rfl fo51_5 ?_)
            refine AO.guardY rfl rfl rfl q60 (AOp.load1 rfl rfl (ltb rfl) rfl agg4 rfl rfl ?_)
            refine AO.guardY rfl rfl rfl q60 (AOp.bnot rfl rfl (ltb rfl) rfl ?_)
            refine AO.op rfl (AOp.pick rfl rfl (ltb rfl) rfl q60 rfl ?_)
            refine AO.nil ?_
            exact ⟨(!true), _, rfl, (LeL.refl _), rfl, rfl, h1⟩
          replace h1 := cF h1 q60
          refine AO.guardN rfl rfl rfl (ltb rfl) rfl q60 ?_
          refine AO.guardN rfl rfl rfl (ltb rfl) rfl q60 ?_
          refine AO.guardN rfl rfl rfl (ltb rfl) rfl q60 ?_
          refine AO.guardN rfl rfl rfl (ltb rfl) rfl q60 ?_
          refine AO.guardN rfl rfl rfl (ltb rfl) rfl q60 ?_
          refine AO.op rfl (AOp.pickN rfl rfl (ltb rfl) rfl q60 rfl ?_)
          refine AO.nil ?_
          exact ⟨false, _, rfl, (LeL.refl _), rfl, rfl, h1⟩
        replace h1 := cF h1 q59
        refine AO.guardN rfl rfl rfl (ltb rfl) rfl q59 ?_
        refine AO.guardN rfl rfl rfl (ltb rfl) rfl q59 ?_
        refine AO.guardN rfl rfl rfl (ltb rfl) rfl q59 ?_
        refine AO.guardN rfl rfl rfl (ltb rfl) rfl q59 ?_
        refine AO.guardN rfl rfl rfl (ltb rfl) rfl q59 ?_
        refine AO.op rfl (AOp.pickN rfl rfl (ltb rfl) rfl q59 rfl ?_)
        refine AO.op rfl (AOp.move rfl rfl (ltb rfl) rfl ?_)
        refine AO.guardN rfl rfl rfl (ltb rfl) rfl rfl ?_
        refine AO.guardN rfl rfl rfl (ltb rfl) rfl rfl ?_
        refine AO.guardN rfl rfl rfl (ltb rfl) rfl rfl ?_
        refine AO.guardN rfl rfl rfl (ltb rfl) rfl rfl ?_
        refine AO.guardN rfl rfl rfl (ltb rfl) rfl rfl ?_
        refine AO.op rfl (AOp.pickN rfl rfl (ltb rfl) rfl rfl rfl ?_)
        refine AO.nil ?_
        exact ⟨false, _, rfl, (LeL.refl _), rfl, rfl, h1⟩
      intro g33 h1
      unfold p_TakeRow_k7 at h1
      refine AC.cond rfl (fun q34 => ?_) (fun q34 => ?_)
      · replace h1 := cT h1 q34
        refine AC.skip ?_
        change AC _ _ _ _
        refine AC.seq ?_
        refine AC.block ?_
        refine AC.region ?_
        refine AO.op rfl (AOp.move rfl rfl (ltb rfl) rfl ?_)
        refine AO.op rfl (AOp.move rfl rfl (ltb rfl) rfl ?_)
        refine AO.op rfl (AOp.inl [0, 1, 5, 6, 26] (by kernel_rfl) Tryd.func37 rfl Tryd.ntmps37 rfl rfl (ltb rfl) rfl (leb rfl) rfl ?_)
        intro fr35
        refine AC.seq ?_
        refine AC.region ?_
        refine AO.op rfl (AOp.assign rfl rfl (ltb rfl) rfl ?_)
        refine AO.objs (obs' := [.fix 51 [.d (eS0 g30.2.2.1), .d (dbool false), .d (dbool false), .d (dbool a1), .d (dbool g30.2.1), .d (dbool true)], .dead, .dead, .frame fr25 [(6, .d (.v (.slice none 0 0))), (10, .ptr 0 0)], .grow 63 1 (List.map keS1 g30.2.2.2), .frame fr35 [(0, .ptr 0 0), (1, .d (di .i64 ((0 : Int) * a2))), (5, .own 4), (6, .d (di .i64 g30.1)), (26, .own 4)]]) rfl ?_
        refine AO.nil ?_
        change AC _ _ _ _
        refine AC.seq ?_
        refine AC.joinP (V := Bool) [0, 1] [26] 6 (fun g36 => [(26, .d (dbool g36))]) (fun g36 => [.fix 51 [.d (eS0 g30.2.2.1), .d (dbool false), .d (dbool false), .d (dbool a1), .d (dbool g30.2.1), .d (dbool true)], .dead, .dead, .frame fr25 [(6, .d (.v (.slice none 0 0))), (10, .ptr 0 0)], .grow 63 1 (List.map keS1 g30.2.2.2), .frame fr35 [(0, .ptr 0 0), (1, .d (di .i64 ((0 : Int) * a2))), (5, .own 4), (6, .d (di .i64 g30.1)), (26, .own 4)]]) (fun g36 => (p_TakeRow_k8 a1 F g30 (iter (p_TakeRow_l6 a1 a2 F) n32)) g36 = some o26) rfl ?_ ?_
        · refine AC.region ?_
          refine AO.op rfl (AOp.move rfl rfl (ltb rfl) rfl ?_)
          refine AO.op rfl (AOp.nilCheck rfl rfl (ltb rfl) rfl rfl ?_)
          refine AO.op rfl (AOp.fieldAddr rfl rfl (ltb rfl) rfl fo51_4 ?_)
          refine AO.op rfl (AOp.load1 rfl rfl (ltb rfl) rfl agg4 rfl rfl ?_)
          refine AO.op rfl (AOp.move rfl rfl (ltb rfl) rfl ?_)
          refine AO.dec g30.2.1 (fun q58 => ?_) (fun q58 => ?_)
          · replace h1 := cT h1 q58
            refine AO.guardN rfl rfl rfl (ltb rfl) rfl q58 ?_
            refine AO.guardN rfl rfl rfl (ltb rfl) rfl q58 ?_
            refine AO.guardN rfl rfl rfl (ltb rfl) rfl q58 ?_
            refine AO.guardN rfl rfl rfl (ltb rfl) rfl q58 ?_
            refine AO.op rfl (AOp.pick rfl rfl (ltb rfl) rfl q58 rfl ?_)
            refine AO.op rfl (AOp.move rfl rfl (ltb rfl) rfl ?_)
            refine AO.guardN rfl rfl rfl (ltb rfl) rfl rfl ?_
            refine AO.guardN rfl rfl rfl (ltb rfl) rfl rfl ?_
            refine AO.guardN rfl rfl rfl (ltb rfl) rfl rfl ?_
            refine AO.guardN rfl rfl rfl (ltb rfl) rfl rfl ?_
            refine AO.guardN rfl rfl rfl (ltb rfl) rfl rfl ?_
            refine AO.guardN rfl rfl rfl (ltb rfl) rfl rfl ?_
            refine AO.guardN rfl rfl rfl (ltb rfl) rfl rfl ?_
            refine AO.op rfl (AOp.pick rfl rfl (ltb rfl) rfl rfl rfl ?_)
            refine AO.nil ?_
            exact ⟨true, _, rfl, (LeL.refl _), rfl, rfl, h1⟩
          replace h1 := cF h1 q58
          refine AO.guardY rfl rfl rfl q58 (AOp.move rfl rfl (ltb rfl) rfl ?_)
          refine AO.guardY rfl rfl rfl q58 (AOp.nilCheck rfl rfl (ltb rfl) rfl rfl ?_)
          refine AO.guardY rfl rfl rfl q58 (AOp.fieldAddr rfl rfl (ltb rfl) rfl fo51_5 ?_)
          refine AO.guardY rfl rfl rfl q58 (AOp.load1 rfl rfl (ltb rfl) rfl agg4 rfl rfl ?_)
          refine AO.op rfl (AOp.pickN rfl rfl (ltb rfl) rfl q58 rfl ?_)
          refine AO.op rfl (AOp.move rfl rfl (ltb rfl) rfl ?_)
          refine AO.guardN rfl rfl rfl (ltb rfl) rfl rfl ?_
          refine AO.guardN rfl rfl rfl (ltb rfl) rfl rfl ?_
          refine AO.guardN rfl rfl rfl (ltb rfl) rfl rfl ?_
          refine AO.guardN rfl rfl rfl (ltb rfl) rfl rfl ?_
          refine AO.guardN rfl rfl rfl (ltb rfl) rfl rfl ?_
          refine AO.guardN rfl rfl rfl (ltb rfl) rfl rfl ?_
          refine AO.guardN rfl rfl rfl (ltb rfl) rfl rfl ?_
          refine AO.op rfl (AOp.pick rfl rfl (ltb rfl) rfl rfl rfl ?_)
          refine AO.nil ?_
          exact ⟨true, _, rfl, (LeL.refl _), rfl, rfl, h1⟩
        intro g36 h1
        unfold p_TakeRow_k8 at h1
        refine AC.cond rfl (fun q37 => ?_) (fun q37 => ?_)
        · replace h1 := cT h1 q37
          refine AC.seq ?_
          refine AC.region ?_
          refine AO.op rfl (AOp.move rfl rfl (ltb rfl) rfl ?_)
          refine AO.op rfl (AOp.nilCheck rfl rfl (ltb rfl) rfl rfl ?_)
          refine AO.op rfl (AOp.fieldAddr rfl rfl (ltb rfl) rfl fo51_4 ?_)
          refine AO.op rfl (AOp.store rfl rfl rfl rfl size4 rfl rfl rfl (leb rfl) ?_)
          refine AO.nil ?_
          change AC _ _ _ _
          refine AC.seq ?_
          refine AC.region ?_
          refine AO.op rfl (AOp.assign rfl rfl (ltb rfl) rfl ?_)
          refine AO.nil ?_
          change AC _ _ _ _
          refine AC.ret ?_
          refine inlret (ob' := [.fix 51 [.d (eS0 g30.2.2.1), .d (dbool false), .d (dbool false), .d (dbool a1), .d (dbool true), .d (dbool true)], .dead, .dead, .frame fr25 [(6, .d (.v (.slice none 0 0))), (10, .ptr 0 0)], .grow 63 1 (List.map keS1 g30.2.2.2), .dead]) (e' := [(0, .ptr 0 0), (1, .d (di .i64 ((0 : Int) * a2))), (5, .own 4), (6, .d (di .i64 g30.1)), (26, .own 4)]) (r := .d (di .u64 (0 : Int))) rfl rfl rfl ?_
          change AO _ _ _ _ _
          obtain ⟨q38, h1⟩ := need_elim h1
          refine AO.op rfl (AOp.callX [.int .u64 ((((0 : Int)).toNat : Nat) : Int)] rfl rfl (ltb rfl) (by rw [q38]; rfl) (callFromBits (((0 : Int)).toNat)) ?_)
          refine AO.op rfl (AOp.buildSliceD rfl rfl (ltb rfl) el24 zero63 rfl (leb rfl) rfl rfl rfl rfl ?_)
          obtain ⟨q39, h1⟩ := need_elim h1
          refine AO.op rfl (AOp.appendOwn' (p := 4) (n := g30.2.2.2.length) (m := [((0 : Int)).toNat].length) (news := (List.map keS1 [((0 : Int)).toNat])) rfl rfl (ltb rfl) rfl rfl el24 info63 rfl (by decide) rfl (len1 _ _) (len1 _ _) (one1 _ (fun _ => rfl) _) q39 (by decide) rfl rfl (cat1 _ _ _) ?_)
          refine AO.op rfl (AOp.assign rfl rfl (ltb rfl) rfl ?_)
          refine AO.objs (obs' := [.fix 51 [.d (eS0 g30.2.2.1), .d (dbool false), .d (dbool false), .d (dbool a1), .d (dbool true), .d (dbool true)], .dead, .dead, .frame fr25 [(6, .d (.v (.slice none 0 0))), (10, .ptr 0 0)], .grow 63 1 (List.map keS1 (g30.2.2.2 ++ [((0 : Int)).toNat])), .dead]) rfl ?_
          refine AO.nil ?_
          change AC _ _ _ _
          refine AC.region ?_
          refine AO.op rfl (AOp.move rfl rfl (ltb rfl) rfl ?_)
          obtain ⟨q40, h1⟩ := need_elim h1
          refine AO.op rfl (AOp.iadd rfl rfl (ltb rfl) rfl rfl rfl q40.1 q40.2 ?_)
          refine AO.op rfl (AOp.assign rfl rfl (ltb rfl) rfl ?_)
          refine AO.nil ?_
          exact ⟨((g30.1 + (1 : Int)), true, g30.2.2.1, (g30.2.2.2 ++ [((0 : Int)).toNat])), _, rfl, (LeL.refl _), rfl, rfl, h1⟩
        replace h1 := cF h1 q37
        refine AC.skip ?_
        change AC _ _ _ _
        refine AC.seq ?_
        refine AC.region ?_
        refine AO.op rfl (AOp.assign rfl rfl (ltb rfl) rfl ?_)
        refine AO.nil ?_
        change AC _ _ _ _
        refine AC.seq ?_
        refine AC.seq ?_
        refine AC.region ?_
        refine AO.op rfl (AOp.move rfl rfl (ltb rfl) rfl ?_)
        refine AO.op rfl (AOp.move rfl rfl (ltb rfl) rfl ?_)
        refine AO.nil ?_
        change AC _ _ _ _
        obtain ⟨o41, l42, h1⟩ := bind_elim h1
        refine AC.joinE (V := Int) [0, 1] [5] 6 (fun g43 => [(5, .d (di .u64 g43))]) (fun g43 => [.fix 51 [.d (eS0 g30.2.2.1), .d (dbool false), .d (dbool false), .d (dbool a1), .d (dbool g30.2.1), .d (dbool true)], .dead, .dead, .frame fr25 [(6, .d (.v (.slice none 0 0))), (10, .ptr 0 0)], .grow 63 1 (List.map keS1 g30.2.2.2), .frame fr35 [(0, .ptr 0 0), (1, .d (di .i64 ((0 : Int) * a2))), (5, .own 4), (6, .d (di .i64 g30.1)), (26, .own 4)]]) (fun g43 => (p_TakeRow_k9 g30 (iter (p_TakeRow_l6 a1 a2 F) n32)) g43 = some o26) rfl ?_ ?_
        · refine AC.block ?_
          refine AC.loopP (V := (Int × Int)) (p_TakeRow_l10 a1 g30) o41 [0, 1, 30] [5, 31] 6 (fun g48 => [(5, .d (di .u64 g48.1)), (31, .d (di .i64 g48.2))]) (fun g48 => [.fix 51 [.d (eS0 g30.2.2.1), .d (dbool false), .d (dbool false), .d (dbool a1), .d (dbool g30.2.1), .d (dbool true)], .dead, .dead, .frame fr25 [(6, .d (.v (.slice none 0 0))), (10, .ptr 0 0)], .grow 63 1 (List.map keS1 g30.2.2.2), .frame fr35 [(0, .ptr 0 0), (1, .d (di .i64 ((0 : Int) * a2))), (5, .own 4), (6, .d (di .i64 g30.1)), (26, .own 4)]]) F ((0 : Int), (0 : Int)) l42 rfl rfl (LeL.refl _) rfl rfl ?_
          intro n50 g48 h2
          unfold p_TakeRow_l10 at h2
          refine AC.seq ?_
          refine AC.region ?_
          refine AO.op rfl (AOp.ilss rfl rfl (ltb rfl) rfl rfl ?_)
          refine AO.nil ?_
          change AC _ _ _ _
          refine AC.seq ?_
          refine AC.cond rfl (fun q51 => ?_) (fun q51 => ?_)
          · replace h2 := cT h2 q51
            refine AC.skip ?_
            change AC _ _ _ _
            refine AC.seq ?_
            refine AC.block ?_
            refine AC.seq ?_
            refine AC.region ?_
            refine AO.op rfl (AOp.move rfl rfl (ltb rfl) rfl ?_)
            refine AO.op rfl (AOp.assign rfl rfl (ltb rfl) rfl ?_)
            refine AO.nil ?_
            change AC _ _ _ _
            refine AC.seq ?_
            refine AC.region ?_
            refine AO.op rfl (AOp.move rfl rfl (ltb rfl) rfl ?_)
            refine AO.op rfl (AOp.assign rfl rfl (ltb rfl) rfl ?_)
            refine AO.nil ?_
            change AC _ _ _ _
            refine AC.joinP (V := Int) [0, 1, 5, 30, 31] [7] 6 (fun g52 => [(7, .d (di .i64 g52))]) (fun g52 => [.fix 51 [.d (eS0 g30.2.2.1), .d (dbool false), .d (dbool false), .d (dbool a1), .d (dbool g30.2.1), .d (dbool true)], .dead, .dead, .frame fr25 [(6, .d (.v (.slice none 0 0))), (10, .ptr 0 0)], .grow 63 1 (List.map keS1 g30.2.2.2), .frame fr35 [(0, .ptr 0 0), (1, .d (di .i64 ((0 : Int) * a2))), (5, .own 4), (6, .d (di .i64 g30.1)), (26, .own 4)]]) (fun g52 => (p_TakeRow_k11 g30 g48 (iter (p_TakeRow_l10 a1 g30) n50)) g52 = some o41) rfl ?_ ?_
            · refine AC.seq ?_
              refine AC.region ?_
              refine AO.op rfl (AOp.move rfl rfl (ltb rfl) rfl ?_)
              refine AO.op rfl (AOp.nilCheck rfl rfl (ltb rfl) rfl rfl ?_)
              refine AO.op rfl (AOp.fieldAddr rfl rfl (ltb rfl) rfl fo51_3 ?_)
              refine AO.op rfl (AOp.load1 rfl rfl (ltb rfl) rfl agg4 rfl rfl ?_)
              refine AO.op rfl (AOp.bnot rfl rfl (ltb rfl) rfl ?_)
              refine AO.nil ?_
              change AC _ _ _ _
              refine AC.cond rfl (fun q56 => ?_) (fun q56 => ?_)
              · replace h2 := cT h2 q56
                refine AC.region ?_
                refine AO.op rfl (AOp.move rfl rfl (ltb rfl) rfl ?_)
                refine AO.op rfl (AOp.isub rfl rfl (ltb rfl) rfl rfl (show (8 : Int) - (1 : Int) = (7 : Int) by decide) (by decide) (by decide) ?_)
                refine AO.op rfl (AOp.move rfl rfl (ltb rfl) rfl ?_)
                obtain ⟨q57, h2⟩ := need_elim h2
                refine AO.op rfl (AOp.isub rfl rfl (ltb rfl) rfl rfl rfl q57.1 q57.2 ?_)
                refine AO.op rfl (AOp.assign rfl rfl (ltb rfl) rfl ?_)
                refine AO.nil ?_
                exact ⟨((7 : Int) - g48.2), _, rfl, (LeL.refl _), rfl, rfl, h2⟩
              replace h2 := cF h2 q56
              refine AC.skip ?_
              exact ⟨g48.2, _, rfl, (LeL.refl _), rfl, rfl, h2⟩
            intro g52 h2
            unfold p_TakeRow_k11 at h2
            refine AC.region ?_
            refine AO.op rfl (AOp.move rfl rfl (ltb rfl) rfl ?_)
            refine AO.op rfl (AOp.ishl (n := 8) rfl rfl (ltb rfl) rfl rfl (by decide) rfl ?_)
            refine AO.op rfl (AOp.move rfl rfl (ltb rfl) rfl ?_)
            refine AO.op rfl (AOp.nilCheck rfl rfl (ltb rfl) rfl rfl ?_)
            refine AO.op rfl (AOp.fieldAddr rfl rfl (ltb rfl) rfl fo51_0 ?_)
            refine AO.op rfl (AOp.load1 rfl rfl (ltb rfl) rfl agg22 rfl rfl ?_)
            refine AO.op rfl (AOp.move rfl rfl (ltb rfl) rfl ?_)
            obtain ⟨x53, q54, h2⟩ := idx_elim h2
            refine AO.op rfl (AOp.indexDs (cells := (List.map keS0 g30.2.2.1)) rfl rfl (ltb rfl) rfl rfl el22 (by decide) q54.1 (lt1 q54.2) ?_)
            refine AO.op rfl (AOp.loadEp rfl rfl (ltb rfl) rfl agg5 (at1 q54.2) ?_)
            refine AO.op rfl (AOp.i2i rfl rfl (ltb rfl) rfl Tryd.underlying5 Tryd.underlying64 rfl ?_)
            refine AO.op rfl (AOp.ibits (by simp) rfl rfl (ltb rfl) rfl rfl rfl ?_)
            refine AO.op rfl (AOp.assign rfl rfl (ltb rfl) rfl ?_)
            refine AO.nil ?_
            change AC _ _ _ _
            refine AC.region ?_
            obtain ⟨q55, h2⟩ := need_elim h2
            refine AO.op rfl (AOp.iadd rfl rfl (ltb rfl) rfl rfl rfl q55.1 q55.2 ?_)
            refine AO.op rfl (AOp.move rfl rfl (ltb rfl) rfl ?_)
            refine AO.nil ?_
            exact ⟨((bits .or .u64 (IntKind.u64.wrap (g48.1 * 2 ^ 8)) (IntKind.u64.wrap x53)), (g48.2 + (1 : Int))), _, rfl, (LeL.refl _), rfl, rfl, h2⟩
          replace h2 := cF h2 q51
          refine AC.exit ?_
          obtain rfl := Option.some.inj h2
          exact ⟨g48.1, _, rfl, (LeL.refl _), rfl, rfl, aftL h1⟩
        intro g43 h1
        unfold p_TakeRow_k9 at h1
        change AC _ _ _ _
        refine AC.seq ?_
        refine AC.region ?_
        refine AO.op rfl (AOp.move rfl rfl (ltb rfl) rfl ?_)
        refine AO.op rfl (AOp.move rfl rfl (ltb rfl) rfl ?_)
        refine AO.op rfl (AOp.nilCheck rfl rfl (ltb rfl) rfl rfl ?_)
        refine AO.op rfl (AOp.fieldAddr rfl rfl (ltb rfl) rfl fo51_0 ?_)
        refine AO.op rfl (AOp.load1 rfl rfl (ltb rfl) rfl agg22 rfl rfl ?_)
        refine AO.op rfl (AOp.move rfl rfl (ltb rfl) rfl ?_)
        obtain ⟨q44, h1⟩ := need_elim h1
        refine AO.op rfl (AOp.sliceD (cells := (List.map keS0 g30.2.2.1)) (n := g30.2.2.1.length) (l := ((8 : Int)).toNat) (hh := g30.2.2.1.length) rfl rfl (ltb rfl) rfl (.inr ⟨_, _, _, rfl, rfl, q44.1.1, rfl⟩) (.inl ⟨rfl, rfl⟩) el22 (by decide) (len1 _ _) q44.2.1 q44.2.2 (sub1 _ _ _ _) ?_)
        refine AO.op rfl (AOp.nilCheck rfl rfl (ltb rfl) rfl rfl ?_)
        refine AO.op rfl (AOp.fieldAddr rfl rfl (ltb rfl) rfl fo51_0 ?_)
        refine AO.op rfl (AOp.store rfl rfl rfl rfl size22 rfl rfl rfl (leb rfl) ?_)
        refine AO.nil ?_
        change AC _ _ _ _
        refine AC.seq ?_
        refine AC.region ?_
        refine AO.op rfl (AOp.move rfl rfl (ltb rfl) rfl ?_)
        refine AO.op rfl (AOp.assign rfl rfl (ltb rfl) rfl ?_)
        refine AO.nil ?_
        change AC _ _ _ _
        refine AC.ret ?_
        refine inlret (ob' := [.fix 51 [.d (eS0 ((g30.2.2.1.drop ((8 : Int)).toNat).take (g30.2.2.1.length - ((8 : Int)).toNat))), .d (dbool false), .d (dbool false), .d (dbool a1), .d (dbool g30.2.1), .d (dbool true)], .dead, .dead, .frame fr25 [(6, .d (.v (.slice none 0 0))), (10, .ptr 0 0)], .grow 63 1 (List.map keS1 g30.2.2.2), .dead]) (e' := [(0, .ptr 0 0), (1, .d (di .i64 ((0 : Int) * a2))), (5, .own 4), (6, .d (di .i64 g30.1)), (26, .own 4)]) (r := .d (di .u64 g43)) rfl rfl rfl ?_
        change AO _ _ _ _ _
        obtain ⟨q45, h1⟩ := need_elim h1
        refine AO.op rfl (AOp.callX [.int .u64 (((g43).toNat : Nat) : Int)] rfl rfl (ltb rfl) (by rw [q45]; rfl) (callFromBits ((g43).toNat)) ?_)
        refine AO.op rfl (AOp.buildSliceD rfl rfl (ltb rfl) el24 zero63 rfl (leb rfl) rfl rfl rfl rfl ?_)
        obtain ⟨q46, h1⟩ := need_elim h1
        refine AO.op rfl (AOp.appendOwn' (p := 4) (n := g30.2.2.2.length) (m := [(g43).toNat].length) (news := (List.map keS1 [(g43).toNat])) rfl rfl (ltb rfl) rfl rfl el24 info63 rfl (by decide) rfl (len1 _ _) (len1 _ _) (one1 _ (fun _ => rfl) _) q46 (by decide) rfl rfl (cat1 _ _ _) ?_)
        refine AO.op rfl (AOp.assign rfl rfl (ltb rfl) rfl ?_)
        refine AO.objs (obs' := [.fix 51 [.d (eS0 ((g30.2.2.1.drop ((8 : Int)).toNat).take (g30.2.2.1.length - ((8 : Int)).toNat))), .d (dbool false), .d (dbool false), .d (dbool a1), .d (dbool g30.2.1), .d (dbool true)], .dead, .dead, .frame fr25 [(6, .d (.v (.slice none 0 0))), (10, .ptr 0 0)], .grow 63 1 (List.map keS1 (g30.2.2.2 ++ [(g43).toNat])), .dead]) rfl ?_
        refine AO.nil ?_
        change AC _ _ _ _
        refine AC.region ?_
        refine AO.op rfl (AOp.move rfl rfl (ltb rfl) rfl ?_)
        obtain ⟨q47, h1⟩ := need_elim h1
        refine AO.op rfl (AOp.iadd rfl rfl (ltb rfl) rfl rfl rfl q47.1 q47.2 ?_)
        refine AO.op rfl (AOp.assign rfl rfl (ltb rfl) rfl ?_)
        refine AO.nil ?_
        exact ⟨((g30.1 + (1 : Int)), g30.2.1, ((g30.2.2.1.drop ((8 : Int)).toNat).take (g30.2.2.1.length - ((8 : Int)).toNat)), (g30.2.2.2 ++ [(g43).toNat])), _, rfl, (LeL.refl _), rfl, rfl, h1⟩
      replace h1 := cF h1 q34
      refine AC.exit ?_
      obtain rfl := Option.some.inj h1
      exact ⟨(g30.2.2.1, g30.2.1, g30.2.2.2), _, rfl, (LeL.refl _), rfl, rfl, aftL h0⟩
    intro g28 h0
    unfold p_TakeRow_k5 at h0
    change AC _ _ _ _
    refine AC.seq ?_
    refine AC.region ?_
    refine AO.op rfl (AOp.move rfl rfl (ltb rfl) rfl ?_)
    refine AO.op rfl (AOp.assign rfl rfl (ltb rfl) rfl ?_)
    refine AO.nil ?_
    change AC _ _ _ _
    refine AC.ret ?_
    refine inlret (ob' := [.fix 51 [.d (eS0 g28.1), .d (dbool false), .d (dbool false), .d (dbool a1), .d (dbool g28.2.1), .d (dbool true)], .dead, .dead, .dead, .grow 63 1 (List.map keS1 g28.2.2)]) (e' := [(6, .d (.v (.slice none 0 0))), (10, .ptr 0 0)]) (r := .own 4) rfl rfl rfl ?_
    change AO _ _ _ _ _
    refine AO.op rfl (AOp.assign rfl rfl (ltb rfl) rfl ?_)
    refine AO.nil ?_
    change AC _ _ _ _
    refine AC.seq ?_
    refine AC.draw 26 mixed (by kernel_rfl) ?_
    refine AD.op [6] rfl (by kernel_rfl) rfl rfl (fun _ _ h => AOp.move rfl rfl (ltb rfl) rfl h) ?_
    refine AD.op [10] rfl (by kernel_rfl) rfl rfl (fun _ _ h => AOp.move rfl rfl (ltb rfl) rfl h) ?_
    refine AD.op [22] rfl (by kernel_rfl) rfl rfl (fun _ _ h => AOp.nilCheck rfl rfl (ltb rfl) rfl rfl h) ?_
    refine AD.op [23] rfl (by kernel_rfl) rfl rfl (fun _ _ h => AOp.fieldAddr rfl rfl (ltb rfl) rfl fo51_0 h) ?_
    refine AD.op [24] rfl (by kernel_rfl) rfl rfl (fun _ _ h => AOp.load1 rfl rfl (ltb rfl) rfl agg22 rfl rfl h) ?_
    refine AD.op [25] rfl (by kernel_rfl) rfl rfl (fun _ _ h => AOp.lenDs (n := g28.1.length) (cells := (List.map keS0 g28.1)) rfl rfl (ltb rfl) rfl el22 (by decide) (len1 _ _) h) ?_
    refine AD.op [10] rfl (by kernel_rfl) rfl rfl (fun _ _ h => AOp.move rfl rfl (ltb rfl) rfl h) ?_
    refine AD.op [27] rfl (by kernel_rfl) rfl rfl (fun _ _ h => AOp.nilCheck rfl rfl (ltb rfl) rfl rfl h) ?_
    refine AD.op [28] rfl (by kernel_rfl) rfl rfl (fun _ _ h => AOp.fieldAddr rfl rfl (ltb rfl) rfl fo51_4 h) ?_
    refine AD.op [29] rfl (by kernel_rfl) rfl rfl (fun _ _ h => AOp.load1 rfl rfl (ltb rfl) rfl agg4 rfl rfl h) ?_
    refine AD.op [30] rfl (by kernel_rfl) rfl rfl (fun _ _ h => AOp.bnot rfl rfl (ltb rfl) rfl h) ?_
    refine AD.op [31] rfl (by kernel_rfl) rfl rfl (fun _ _ h => AOp.move rfl rfl (ltb rfl) rfl h) ?_
    refine AD.dec (!g28.2.1) (fun q29 => ?_) (fun q29 => ?_)
    · replace h0 := cT h0 q29
      refine AD.opY [10, 32] rfl rfl rfl q29 (by kernel_rfl) rfl rfl (fun _ _ h => AOp.move rfl rfl (ltb rfl) rfl h) ?_
      refine AD.opY [32, 33] rfl rfl rfl q29 (by kernel_rfl) rfl rfl (fun _ _ h => AOp.nilCheck rfl rfl (ltb rfl) rfl rfl h) ?_
      refine AD.opY [32, 34] rfl rfl rfl q29 (by kernel_rfl) rfl rfl (fun _ _ h => AOp.fieldAddr rfl rfl (ltb rfl) rfl fo51_5 h) ?_
      refine AD.opY [32, 35] rfl rfl rfl q29 (by kernel_rfl) rfl rfl (fun _ _ h => AOp.load1 rfl rfl (ltb rfl) rfl agg4 rfl rfl h) ?_
      refine AD.opY [32, 36] rfl rfl rfl q29 (by kernel_rfl) rfl rfl (fun _ _ h => AOp.bnot rfl rfl (ltb rfl) rfl h) ?_
      refine AD.op [32, 37] rfl (by kernel_rfl) rfl rfl (fun _ _ h => AOp.pick rfl rfl (ltb rfl) rfl q29 rfl h) ?_
      refine AD.op [10] rfl (by kernel_rfl) rfl rfl (fun _ _ h => AOp.move rfl rfl (ltb rfl) rfl h) ?_
      refine AD.op [39] rfl (by kernel_rfl) rfl rfl (fun _ _ h => AOp.nilCheck rfl rfl (ltb rfl) rfl rfl h) ?_
      refine AD.op [40] rfl (by kernel_rfl) rfl rfl (fun _ _ h => AOp.fieldAddr rfl rfl (ltb rfl) rfl fo51_5 h) ?_
      refine AD.op [41] rfl (by kernel_rfl) rfl rfl (fun _ _ h => AOp.load1 rfl rfl (ltb rfl) rfl agg4 rfl rfl h) ?_
      refine AD.op [21] rfl (by kernel_rfl) rfl rfl (fun _ _ h => AOp.assign rfl rfl (ltb rfl) rfl h) ?_
      refine AD.op [26] rfl (by kernel_rfl) rfl rfl (fun _ _ h => AOp.assign rfl rfl (ltb rfl) rfl h) ?_
      refine AD.op [38] rfl (by kernel_rfl) rfl rfl (fun _ _ h => AOp.assign rfl rfl (ltb rfl) rfl h) ?_
      refine AD.op [42] rfl (by kernel_rfl) rfl rfl (fun _ _ h => AOp.assign rfl rfl (ltb rfl) rfl h) ?_
      refine AD.done ?_
      refine AO.nil ?_
      change AC _ _ _ _
      refine AC.ret ?_
      change RetQ _ _ _ .ret _
      obtain rfl := Option.some.inj h0
      refine retq rfl rfl
    replace h0 := cF h0 q29
    refine AD.opN rfl rfl rfl (ltb rfl) rfl q29 ?_
    refine AD.opN rfl rfl rfl (ltb rfl) rfl q29 ?_
    refine AD.opN rfl rfl rfl (ltb rfl) rfl q29 ?_
    refine AD.opN rfl rfl rfl (ltb rfl) rfl q29 ?_
    refine AD.opN rfl rfl rfl (ltb rfl) rfl q29 ?_
    refine AD.op [32, 37] rfl (by kernel_rfl) rfl rfl (fun _ _ h => AOp.pickN rfl rfl (ltb rfl) rfl q29 rfl h) ?_
    refine AD.op [10] rfl (by kernel_rfl) rfl rfl (fun _ _ h => AOp.move rfl rfl (ltb rfl) rfl h) ?_
    refine AD.op [39] rfl (by kernel_rfl) rfl rfl (fun _ _ h => AOp.nilCheck rfl rfl (ltb rfl) rfl rfl h) ?_
    refine AD.op [40] rfl (by kernel_rfl) rfl rfl (fun _ _ h => AOp.fieldAddr rfl rfl (ltb rfl) rfl fo51_5 h) ?_
    refine AD.op [41] rfl (by kernel_rfl) rfl rfl (fun _ _ h => AOp.load1 rfl rfl (ltb rfl) rfl agg4 rfl rfl h) ?_
    refine AD.op [21] rfl (by kernel_rfl) rfl rfl (fun _ _ h => AOp.assign rfl rfl (ltb rfl) rfl h) ?_
    refine AD.op [26] rfl (by kernel_rfl) rfl rfl (fun _ _ h => AOp.assign rfl rfl (ltb rfl) rfl h) ?_
    refine AD.op [38] rfl (by kernel_rfl) rfl rfl (fun _ _ h => AOp.assign rfl rfl (ltb rfl) rfl h) ?_
    refine AD.op [42] rfl (by kernel_rfl) rfl rfl (fun _ _ h => AOp.assign rfl rfl (ltb rfl) rfl h) ?_
    refine AD.done ?_
    refine AO.nil ?_
    change AC _ _ _ _
    refine AC.ret ?_
    change RetQ _ _ _ .ret _
    obtain rfl := Option.some.inj h0
    refine retq rfl rfl
  replace h0 := cF h0 q23
  refine AC.skip ?_
  change AC _ _ _ _
  refine AC.seq ?_
  refine AC.region ?_
  refine AO.op rfl (AOp.move rfl rfl (ltb rfl) rfl ?_)
  refine AO.op rfl (AOp.i2i rfl rfl (ltb rfl) rfl Tryd.underlying64 Tryd.underlying3 rfl ?_)
  refine AO.op rfl (AOp.assign rfl rfl (ltb rfl) rfl ?_)
  refine AO.nil ?_
  change AC _ _ _ _
  refine AC.ret ?_
  refine inlret (ob' := [.fix 51 [.d (eS0 ((a0.drop ((4 : Int)).toNat).take (a0.length - ((4 : Int)).toNat))), .d (dbool false), .d (dbool false), .d (dbool a1), .d (dbool false), .d (dbool false)], .dead, .dead]) (e' := [(2, .d (di .i64 a2)), (6, .d (.v (.slice none 0 0))), (10, .ptr 0 0), (15, .ptr 0 0)]) (r := .d (di .i64 (IntKind.i64.wrap g21))) rfl rfl rfl ?_
  change AO _ _ _ _ _
  refine AO.op rfl (AOp.move rfl rfl (ltb rfl) rfl ?_)
  obtain ⟨q61, h0⟩ := need_elim h0
  refine AO.op rfl (AOp.imul rfl rfl (ltb rfl) rfl rfl rfl q61.1 q61.2 ?_)
  refine AO.op rfl (AOp.inl [6, 10] (by kernel_rfl) Tryd.func17 rfl Tryd.ntmps17 rfl rfl (ltb rfl) rfl (leb rfl) rfl ?_)
  intro fr62
  refine AC.seq ?_
  refine AC.region ?_
  refine AO.op rfl (AOp.assign rfl rfl (ltb rfl) rfl ?_)
  refine AO.nil ?_
  change AC _ _ _ _
  refine AC.seq ?_
  refine AC.region ?_
  refine AO.op rfl (AOp.assign rfl rfl (ltb rfl) rfl ?_)
  refine AO.nil ?_
  change AC _ _ _ _
  refine AC.seq ?_
  refine AC.seq ?_
  refine AC.region ?_
  refine AO.op rfl (AOp.assign rfl rfl (ltb rfl) rfl ?_)
  refine AO.nil ?_
  change AC _ _ _ _
  refine AC.adopt 5 63 1 rfl ?_
  obtain ⟨o63, l64, h0⟩ := bind_elim h0
  refine AC.joinE (V := ((List Int) × Bool × (List Nat))) [] [5] 5 (fun g65 => [(5, .own 4)]) (fun g65 => [.fix 51 [.d (eS0 g65.1), .d (dbool false), .d (dbool false), .d (dbool a1), .d (dbool g65.2.1), .d (dbool false)], .dead, .dead, .frame fr62 [(6, .d (.v (.slice none 0 0))), (10, .ptr 0 0)], .grow 63 1 (List.map keS1 g65.2.2)]) (fun g65 => p_TakeRow_k12 g65 = some r0) rfl ?_ ?_
  · refine AC.block ?_
    refine AC.loopP (V := (Int × Bool × (List Int) × (List Nat))) (p_TakeRow_l13 a1 a2 F g21) o63 [0, 1] [5, 6] 5 (fun g67 => [(5, .own 4), (6, .d (di .i64 g67.1))]) (fun g67 => [.fix 51 [.d (eS0 g67.2.2.1), .d (dbool false), .d (dbool false), .d (dbool a1), .d (dbool g67.2.1), .d (dbool false)], .dead, .dead, .frame fr62 [(6, .d (.v (.slice none 0 0))), (10, .ptr 0 0)], .grow 63 1 (List.map keS1 g67.2.2.2)]) F ((0 : Int), false, ((a0.drop ((4 : Int)).toNat).take (a0.length - ((4 : Int)).toNat)), []) l64 rfl rfl (LeL.refl _) rfl rfl ?_
    intro n69 g67 h1
    unfold p_TakeRow_l13 at h1
    refine AC.seq ?_
    refine AC.joinP (V := Bool) [0, 1, 5, 6] [23] 5 (fun g70 => [(23, .d (dbool g70))]) (fun g70 => [.fix 51 [.d (eS0 g67.2.2.1), .d (dbool false), .d (dbool false), .d (dbool a1), .d (dbool g67.2.1), .d (dbool false)], .dead, .dead, .frame fr62 [(6, .d (.v (.slice none 0 0))), (10, .ptr 0 0)], .grow 63 1 (List.map keS1 g67.2.2.2)]) (fun g70 => (p_TakeRow_k14 a1 F g67 (iter (p_TakeRow_l13 a1 a2 F g21) n69)) g70 = some o63) rfl ?_ ?_
    · refine AC.region ?_
      refine AO.op rfl (AOp.move rfl rfl (ltb rfl) rfl ?_)
      refine AO.op rfl (AOp.move rfl rfl (ltb rfl) rfl ?_)
      refine AO.op rfl (AOp.ilss rfl rfl (ltb rfl) rfl rfl ?_)
      refine AO.op rfl (AOp.move rfl rfl (ltb rfl) rfl ?_)
      refine AO.dec (decide (g67.1 < ((IntKind.i64.wrap g21) * a2))) (fun q96 => ?_) (fun q96 => ?_)
      · replace h1 := cT h1 q96
        refine AO.guardY rfl rfl rfl q96 (AOp.move rfl rfl (ltb rfl) rfl ?_)
        refine AO.guardY rfl rfl rfl q96 (AOp.nilCheck rfl rfl (ltb rfl) rfl rfl ?_)
        refine AO.guardY rfl rfl rfl q96 (AOp.fieldAddr rfl rfl (ltb rfl) rfl fo51_4 ?_)
        refine AO.guardY rfl rfl rfl q96 (AOp.load1 rfl rfl (ltb rfl) rfl agg4 rfl rfl ?_)
        refine AO.guardY rfl rfl rfl q96 (AOp.bnot rfl rfl (ltb rfl) rfl ?_)
        refine AO.op rfl (AOp.pick rfl rfl (ltb rfl) rfl q96 rfl ?_)
        refine AO.op rfl (AOp.move rfl rfl (ltb rfl) rfl ?_)
        refine AO.dec (!g67.2.1) (fun q97 => ?_) (fun q97 => ?_)
        · replace h1 := cT h1 q97
          refine AO.guardY rfl rfl rfl q97 (AOp.move rfl rfl (ltb rfl) rfl ?_)
          refine AO.guardY rfl rfl rfl q97 (AOp.nilCheck rfl rfl (ltb rfl) rfl rfl ?_)
          refine AO.guardY rfl rfl rfl q97 (AOp.fieldAddr rfl rfl (ltb rfl) rfl fo51_5 ?_)
          refine AO.guardY rfl rfl rfl q97 (AOp.load1 rfl rfl (ltb rfl) rfl agg4 rfl rfl ?_)
          refine AO.guardY rfl rfl rfl q97 (AOp.bnot rfl rfl (ltb rfl) rfl ?_)
          refine AO.op rfl (AOp.pick rfl rfl (ltb rfl) rfl q97 rfl ?_)
          refine AO.nil ?_
          exact ⟨(!false), _, rfl, (LeL.refl _), rfl, rfl, h1⟩
        replace h1 := cF h1 q97
        refine AO.guardN rfl rfl rfl (ltb rfl) rfl q97 ?_
        refine AO.guardN rfl rfl rfl (ltb rfl) rfl q97 ?_
        refine AO.guardN rfl rfl rfl (ltb rfl) rfl q97 ?_
        refine AO.guardN rfl rfl rfl (ltb rfl) rfl q97 ?_
        refine AO.guardN rfl rfl rfl (ltb rfl) rfl q97 ?_
        refine AO.op rfl (AOp.pickN rfl rfl (ltb rfl) rfl q97 rfl ?_)
        refine AO.nil ?_
        exact ⟨false, _, rfl, (LeL.refl _), rfl, rfl, h1⟩
      replace h1 := cF h1 q96
      refine AO.guardN rfl rfl rfl (ltb rfl) rfl q96 ?_
      refine AO.guardN rfl rfl rfl (ltb rfl) rfl q96 ?_
      refine AO.guardN rfl rfl rfl (ltb rfl) rfl q96 ?_
      refine AO.guardN rfl rfl rfl (ltb rfl) rfl q96 ?_
      refine AO.guardN rfl rfl rfl (ltb rfl) rfl q96 ?_
      refine AO.op rfl (AOp.pickN rfl rfl (ltb rfl) rfl q96 rfl ?_)
      refine AO.op rfl (AOp.move rfl rfl (ltb rfl) rfl ?_)
      refine AO.guardN rfl rfl rfl (ltb rfl) rfl rfl ?_
      refine AO.guardN rfl rfl rfl (ltb rfl) rfl rfl ?_
      refine AO.guardN rfl rfl rfl (ltb rfl) rfl rfl ?_
      refine AO.guardN rfl rfl rfl (ltb rfl) rfl rfl ?_
      refine AO.guardN rfl rfl rfl (ltb rfl) rfl rfl ?_
      refine AO.op rfl (AOp.pickN rfl rfl (ltb rfl) rfl rfl rfl ?_)
      refine AO.nil ?_
      exact ⟨false, _, rfl, (LeL.refl _), rfl, rfl, h1⟩
    intro g70 h1
    unfold p_TakeRow_k14 at h1
    refine AC.cond rfl (fun q71 => ?_) (fun q71 => ?_)
    · replace h1 := cT h1 q71
      refine AC.skip ?_
      change AC _ _ _ _
      refine AC.seq ?_
      refine AC.block ?_
      refine AC.region ?_
      refine AO.op rfl (AOp.move rfl rfl (ltb rfl) rfl ?_)
      refine AO.op rfl (AOp.move rfl rfl (ltb rfl) rfl ?_)
      refine AO.op rfl (AOp.inl [0, 1, 5, 6, 26] (by kernel_rfl) Tryd.func37 rfl Tryd.ntmps37 rfl rfl (ltb rfl) rfl (leb rfl) rfl ?_)
      intro fr72
      refine AC.seq ?_
      refine AC.region ?_
      refine AO.op rfl (AOp.assign rfl rfl (ltb rfl) rfl ?_)
      refine AO.objs (obs' := [.fix 51 [.d (eS0 g67.2.2.1), .d (dbool false), .d (dbool false), .d (dbool a1), .d (dbool g67.2.1), .d (dbool false)], .dead, .dead, .frame fr62 [(6, .d (.v (.slice none 0 0))), (10, .ptr 0 0)], .grow 63 1 (List.map keS1 g67.2.2.2), .frame fr72 [(0, .ptr 0 0), (1, .d (di .i64 ((IntKind.i64.wrap g21) * a2))), (5, .own 4), (6, .d (di .i64 g67.1)), (26, .own 4)]]) rfl ?_
      refine AO.nil ?_
      change AC _ _ _ _
      refine AC.seq ?_
      refine AC.joinP (V := Bool) [0, 1] [26] 6 (fun g73 => [(26, .d (dbool g73))]) (fun g73 => [.fix 51 [.d (eS0 g67.2.2.1), .d (dbool false), .d (dbool false), .d (dbool a1), .d (dbool g67.2.1), .d (dbool false)], .dead, .dead, .frame fr62 [(6, .d (.v (.slice none 0 0))), (10, .ptr 0 0)], .grow 63 1 (List.map keS1 g67.2.2.2), .frame fr72 [(0, .ptr 0 0), (1, .d (di .i64 ((IntKind.i64.wrap g21) * a2))), (5, .own 4), (6, .d (di .i64 g67.1)), (26, .own 4)]]) (fun g73 => (p_TakeRow_k15 a1 F g67 (iter (p_TakeRow_l13 a1 a2 F g21) n69)) g73 = some o63) rfl ?_ ?_
      · refine AC.region ?_
        refine AO.op rfl (AOp.move rfl rfl (ltb rfl) rfl ?_)
        refine AO.op rfl (AOp.nilCheck rfl rfl (ltb rfl) rfl rfl ?_)
        refine AO.op rfl (AOp.fieldAddr rfl rfl (ltb rfl) rfl fo51_4 ?_)
        refine AO.op rfl (AOp.load1 rfl rfl (ltb rfl) rfl agg4 rfl rfl ?_)
        refine AO.op rfl (AOp.move rfl rfl (ltb rfl) rfl ?_)
        refine AO.dec g67.2.1 (fun q95 => ?_) (fun q95 => ?_)
        · replace h1 := cT h1 q95
          refine AO.guardN rfl rfl rfl (ltb rfl) rfl q95 ?_
          refine AO.guardN rfl rfl rfl (ltb rfl) rfl q95 ?_
          refine AO.guardN rfl rfl rfl (ltb rfl) rfl q95 ?_
          refine AO.guardN rfl rfl rfl (ltb rfl) rfl q95 ?_
          refine AO.op rfl (AOp.pick rfl rfl (ltb rfl) rfl q95 rfl ?_)
          refine AO.op rfl (AOp.move rfl rfl (ltb rfl) rfl ?_)
          refine AO.guardN rfl rfl rfl (ltb rfl) rfl rfl ?_
          refine AO.guardN rfl rfl rfl (ltb rfl) rfl rfl ?_
          refine AO.guardN rfl rfl rfl (ltb rfl) rfl rfl ?_
          refine AO.guardN rfl rfl rfl (ltb rfl) rfl rfl ?_
          refine AO.guardN rfl rfl rfl (ltb rfl) rfl rfl ?_
          refine AO.guardN rfl rfl rfl (ltb rfl) rfl rfl ?_
          refine AO.guardN rfl rfl rfl (ltb rfl) rfl rfl ?_
          refine AO.op rfl (AOp.pick rfl rfl (ltb rfl) rfl rfl rfl ?_)
          refine AO.nil ?_
          exact ⟨true, _, rfl, (LeL.refl _), rfl, rfl, h1⟩
        replace h1 := cF h1 q95
        refine AO.guardY rfl rfl rfl q95 (AOp.move rfl rfl (ltb rfl) rfl ?_)
        refine AO.guardY rfl rfl rfl q95 (AOp.nilCheck rfl rfl (ltb rfl) rfl rfl ?_)
        refine AO.guardY rfl rfl rfl q95 (AOp.fieldAddr rfl rfl (ltb rfl) rfl fo51_5 ?_)
        refine AO.guardY rfl rfl rfl q95 (AOp.load1 rfl rfl (ltb rfl) rfl agg4 rfl rfl ?_)
        refine AO.op rfl (AOp.pickN rfl rfl (ltb rfl) rfl q95 rfl ?_)
        refine AO.op rfl (AOp.move rfl rfl (ltb rfl) rfl ?_)
        refine AO.guardY rfl rfl rfl rfl (AOp.move rfl rfl (ltb rfl) rfl ?_)
        refine AO.guardY rfl rfl rfl rfl (AOp.nilCheck rfl rfl (ltb rfl) rfl rfl ?_)
        refine AO.guardY rfl rfl rfl rfl (AOp.fieldAddr rfl rfl (ltb rfl) rfl fo51_0 ?_)
        refine AO.guardY rfl rfl rfl rfl (AOp.load1 rfl rfl (ltb rfl) rfl agg22 rfl rfl ?_)
        refine AO.guardY rfl rfl rfl rfl (AOp.lenDs (n := g67.2.2.1.length) (cells := (List.map keS0 g67.2.2.1)) rfl rfl (ltb rfl) rfl el22 (by decide) (len1 _ _) ?_)
        refine AO.guardY rfl rfl rfl rfl (AOp.move rfl rfl (ltb rfl) rfl ?_)
        refine AO.guardY rfl rfl rfl rfl (AOp.ilss rfl rfl (ltb rfl) rfl rfl ?_)
        refine AO.op rfl (AOp.pickN rfl rfl (ltb rfl) rfl rfl rfl ?_)
        refine AO.nil ?_
        exact ⟨(decide (((g67.2.2.1.length : Nat) : Int) < (8 : Int))), _, rfl, (LeL.refl _), rfl, rfl, h1⟩
      intro g73 h1
      unfold p_TakeRow_k15 at h1
      refine AC.cond rfl (fun q74 => ?_) (fun q74 => ?_)
      · replace h1 := cT h1 q74
        refine AC.seq ?_
        refine AC.region ?_
        refine AO.op rfl (AOp.move rfl rfl (ltb rfl) rfl ?_)
        refine AO.op rfl (AOp.nilCheck rfl rfl (ltb rfl) rfl rfl ?_)
        refine AO.op rfl (AOp.fieldAddr rfl rfl (ltb rfl) rfl fo51_4 ?_)
        refine AO.op rfl (AOp.store rfl rfl rfl rfl size4 rfl rfl rfl (leb rfl) ?_)
        refine AO.nil ?_
        change AC _ _ _ _
        refine AC.seq ?_
        refine AC.region ?_
        refine AO.op rfl (AOp.assign rfl rfl (ltb rfl) rfl ?_)
        refine AO.nil ?_
        change AC _ _ _ _
        refine AC.ret ?_
        refine inlret (ob' := [.fix 51 [.d (eS0 g67.2.2.1), .d (dbool false), .d (dbool false), .d (dbool a1), .d (dbool true), .d (dbool false)], .dead, .dead, .frame fr62 [(6, .d (.v (.slice none 0 0))), (10, .ptr 0 0)], .grow 63 1 (List.map keS1 g67.2.2.2), .dead]) (e' := [(0, .ptr 0 0), (1, .d (di .i64 ((IntKind.i64.wrap g21) * a2))), (5, .own 4), (6, .d (di .i64 g67.1)), (26, .own 4)]) (r := .d (di .u64 (0 : Int))) rfl rfl rfl ?_
        change AO _ _ _ _ _
        obtain ⟨q75, h1⟩ := need_elim h1
        refine AO.op rfl (AOp.callX [.int .u64 ((((0 : Int)).toNat : Nat) : Int)] rfl rfl (ltb rfl) (by rw [q75]; rfl) (callFromBits (((0 : Int)).toNat)) ?_)
        refine AO.op rfl (AOp.buildSliceD rfl rfl (ltb rfl) el24 zero63 rfl (leb rfl) rfl rfl rfl rfl ?_)
        obtain ⟨q76, h1⟩ := need_elim h1
        refine AO.op rfl (AOp.appendOwn' (p := 4) (n := g67.2.2.2.length) (m := [((0 : Int)).toNat].length) (news := (List.map keS1 [((0 : Int)).toNat])) rfl rfl (ltb rfl) rfl rfl el24 info63 rfl (by decide) rfl (len1 _ _) (len1 _ _) (one1 _ (fun _ => rfl) _) q76 (by decide) rfl rfl (cat1 _ _ _) ?_)
        refine AO.op rfl (AOp.assign rfl rfl (ltb rfl) rfl ?_)
        refine AO.objs (obs' := [.fix 51 [.d (eS0 g67.2.2.1), .d (dbool false), .d (dbool false), .d (dbool a1), .d (dbool true), .d (dbool false)], .dead, .dead, .frame fr62 [(6, .d (.v (.slice none 0 0))), (10, .ptr 0 0)], .grow 63 1 (List.map keS1 (g67.2.2.2 ++ [((0 : Int)).toNat])), .dead]) rfl ?_
        refine AO.nil ?_
        change AC _ _ _ _
        refine AC.region ?_
        refine AO.op rfl (AOp.move rfl rfl (ltb rfl) rfl ?_)
        obtain ⟨q77, h1⟩ := need_elim h1
        refine AO.op rfl (AOp.iadd rfl rfl (ltb rfl) rfl rfl rfl q77.1 q77.2 ?_)
        refine AO.op rfl (AOp.assign rfl rfl (ltb rfl) rfl ?_)
        refine AO.nil ?_
        exact ⟨((g67.1 + (1 : Int)), true, g67.2.2.1, (g67.2.2.2 ++ [((0 : Int)).toNat])), _, rfl, (LeL.refl _), rfl, rfl, h1⟩
      replace h1 := cF h1 q74
      refine AC.skip ?_
      change AC _ _ _ _
      refine AC.seq ?_
      refine AC.region ?_
      refine AO.op rfl (AOp.assign rfl rfl (ltb rfl) rfl ?_)
      refine AO.nil ?_
      change AC _ _ _ _
      refine AC.seq ?_
      refine AC.seq ?_
      refine AC.region ?_
      refine AO.op rfl (AOp.move rfl rfl (ltb rfl) rfl ?_)
      refine AO.op rfl (AOp.move rfl rfl (ltb rfl) rfl ?_)
      refine AO.nil ?_
      change AC _ _ _ _
      obtain ⟨o78, l79, h1⟩ := bind_elim h1
      refine AC.joinE (V := Int) [0, 1] [5] 6 (fun g80 => [(5, .d (di .u64 g80))]) (fun g80 => [.fix 51 [.d (eS0 g67.2.2.1), .d (dbool false), .d (dbool false), .d (dbool a1), .d (dbool g67.2.1), .d (dbool false)], .dead, .dead, .frame fr62 [(6, .d (.v (.slice none 0 0))), (10, .ptr 0 0)], .grow 63 1 (List.map keS1 g67.2.2.2), .frame fr72 [(0, .ptr 0 0), (1, .d (di .i64 ((IntKind.i64.wrap g21) * a2))), (5, .own 4), (6, .d (di .i64 g67.1)), (26, .own 4)]]) (fun g80 => (p_TakeRow_k16 g67 (iter (p_TakeRow_l13 a1 a2 F g21) n69)) g80 = some o63) rfl ?_ ?_
      · refine AC.block ?_
        refine AC.loopP (V := (Int × Int)) (p_TakeRow_l17 a1 g67) o78 [0, 1, 30] [5, 31] 6 (fun g85 => [(5, .d (di .u64 g85.1)), (31, .d (di .i64 g85.2))]) (fun g85 => [.fix 51 [.d (eS0 g67.2.2.1), .d (dbool false), .d (dbool false), .d (dbool a1), .d (dbool g67.2.1), .d (dbool false)], .dead, .dead, .frame fr62 [(6, .d (.v (.slice none 0 0))), (10, .ptr 0 0)], .grow 63 1 (List.map keS1 g67.2.2.2), .frame fr72 [(0, .ptr 0 0), (1, .d (di .i64 ((IntKind.i64.wrap g21) * a2))), (5, .own 4), (6, .d (di .i64 g67.1)), (26, .own 4)]]) F ((0 : Int), (0 : Int)) l79 rfl rfl (LeL.refl _) rfl rfl ?_
        intro n87 g85 h2
        unfold p_TakeRow_l17 at h2
        refine AC.seq ?_
        refine AC.region ?_
        refine AO.op rfl (AOp.ilss rfl rfl (ltb rfl) rfl rfl ?_)
        refine AO.nil ?_
        change AC _ _ _ _
        refine AC.seq ?_
        refine AC.cond rfl (fun q88 => ?_) (fun q88 => ?_)
        · replace h2 := cT h2 q88
          refine AC.skip ?_
          change AC _ _ _ _
          refine AC.seq ?_
          refine AC.block ?_
          refine AC.seq ?_
          refine AC.region ?_
          refine AO.op rfl (AOp.move rfl rfl (ltb rfl) rfl ?_)
          refine AO.op rfl (AOp.assign rfl rfl (ltb rfl) rfl ?_)
          refine AO.nil ?_
          change AC _ _ _ _
          refine AC.seq ?_
          refine AC.region ?_
          refine AO.op rfl (AOp.move rfl rfl (ltb rfl) rfl ?_)
          refine AO.op rfl (AOp.assign rfl rfl (ltb rfl) rfl ?_)
          refine AO.nil ?_
          change AC _ _ _ _
          refine AC.joinP (V := Int) [0, 1, 5, 30, 31] [7] 6 (fun g89 => [(7, .d (di .i64 g89))]) (fun g89 => [.fix 51 [.d (eS0 g67.2.2.1), .d (dbool false), .d (dbool false), .d (dbool a1), .d (dbool g67.2.1), .d (dbool false)], .dead, .dead, .frame fr62 [(6, .d (.v (.slice none 0 0))), (10, .ptr 0 0)], .grow 63 1 (List.map keS1 g67.2.2.2), .frame fr72 [(0, .ptr 0 0), (1, .d (di .i64 ((IntKind.i64.wrap g21) * a2))), (5, .own 4), (6, .d (di .i64 g67.1)), (26, .own 4)]]) (fun g89 => (p_TakeRow_k18 g67 g85 (iter (p_TakeRow_l17 a1 g67) n87)) g89 = some o78) rfl ?_ ?_
          · refine AC.seq ?_
            refine AC.region ?_
            refine AO.op rfl (AOp.move rfl rfl (ltb rfl) rfl ?_)
            refine AO.op rfl (AOp.nilCheck rfl rfl (ltb rfl) rfl rfl ?_)
            refine AO.op rfl (AOp.fieldAddr rfl rfl (ltb rfl) rfl fo51_3 ?_)
            refine AO.op rfl (AOp.load1 rfl rfl (ltb rfl) rfl agg4 rfl rfl ?_)
            refine AO.op rfl (AOp.bnot rfl rfl (ltb rfl) rfl ?_)
            refine AO.nil ?_
            change AC _ _ _ _
            refine AC.cond rfl (fun q93 => ?_) (fun q93 => ?_)
            · replace h2 := cT h2 q93
              refine AC.region ?_
              refine AO.op rfl (AOp.move rfl rfl (ltb rfl) rfl ?_)
              refine AO.op rfl (AOp.isub rfl rfl (ltb rfl) rfl rfl (show (8 : Int) - (1 : Int) = (7 : Int) by decide) (by decide) (by decide) ?_)
              refine AO.op rfl (AOp.move rfl rfl (ltb rfl) rfl ?_)
              obtain ⟨q94, h2⟩ := need_elim h2
              refine AO.op rfl (AOp.isub rfl rfl (ltb rfl) rfl rfl rfl q94.1 q94.2 ?_)
              refine AO.op rfl (AOp.assign rfl rfl (ltb rfl) rfl ?_)
              refine AO.nil ?_
              exact ⟨((7 : Int) - g85.2), _, rfl, (LeL.refl _), rfl, rfl, h2⟩
            replace h2 := cF h2 q93
            refine AC.skip ?_
            exact ⟨g85.2, _, rfl, (LeL.refl _), rfl, rfl, h2⟩
          intro g89 h2
          unfold p_TakeRow_k18 at h2
          refine AC.region ?_
          refine AO.op rfl (AOp.move rfl rfl (ltb rfl) rfl ?_)
          refine AO.op rfl (AOp.ishl (n := 8) rfl rfl (ltb rfl) rfl rfl (by decide) rfl ?_)
          refine AO.op rfl (AOp.move rfl rfl (ltb rfl) rfl ?_)
          refine AO.op rfl (AOp.nilCheck rfl rfl (ltb rfl) rfl rfl ?_)
          refine AO.op rfl (AOp.fieldAddr rfl rfl (ltb rfl) rfl fo51_0 ?_)
          refine AO.op rfl (AOp.load1 rfl rfl (ltb rfl) rfl agg22 rfl rfl ?_)
          refine AO.op rfl (AOp.move rfl rfl (ltb rfl) rfl ?_)
          obtain ⟨x90, q91, h2⟩ := idx_elim h2
          refine AO.op rfl (AOp.indexDs (cells := (List.map keS0 g67.2.2.1)) rfl rfl (ltb rfl) rfl rfl el22 (by decide) q91.1 (lt1 q91.2) ?_)
          refine AO.op rfl (AOp.loadEp rfl rfl (ltb rfl) rfl agg5 (at1 q91.2) ?_)
          refine AO.op rfl (AOp.i2i rfl rfl (ltb rfl) rfl Tryd.underlying5 Tryd.underlying64 rfl ?_)
          refine AO.op rfl (AOp.ibits (by simp) rfl rfl (ltb rfl) rfl rfl rfl ?_)
          refine AO.op rfl (AOp.assign rfl rfl (ltb rfl) rfl ?_)
          refine AO.nil ?_
          change AC _ _ _ _
          refine AC.region ?_
          obtain ⟨q92, h2⟩ := need_elim h2
          refine AO.op rfl (AOp.iadd rfl rfl (ltb rfl) rfl rfl rfl q92.1 q92.2 ?_)
          refine AO.op rfl (AOp.move rfl rfl (ltb rfl) rfl ?_)
          refine AO.nil ?_
          exact ⟨((bits .or .u64 (IntKind.u64.wrap (g85.1 * 2 ^ 8)) (IntKind.u64.wrap x90)), (g85.2 + (1 : Int))), _, rfl, (LeL.refl _), rfl, rfl, h2⟩
        replace h2 := cF h2 q88
        refine AC.exit ?_
        obtain rfl := Option.some.inj h2
        exact ⟨g85.1, _, rfl, (LeL.refl _), rfl, rfl, aftL h1⟩
      intro g80 h1
      unfold p_TakeRow_k16 at h1
      change AC _ _ _ _
      refine AC.seq ?_
      refine AC.region ?_
      refine AO.op rfl (AOp.move rfl rfl (ltb rfl) rfl ?_)
      refine AO.op rfl (AOp.move rfl rfl (ltb rfl) rfl ?_)
      refine AO.op rfl (AOp.nilCheck rfl rfl (ltb rfl) rfl rfl ?_)
      refine AO.op rfl (AOp.fieldAddr rfl rfl (ltb rfl) rfl fo51_0 ?_)
      refine AO.op rfl (AOp.load1 rfl rfl (ltb rfl) rfl agg22 rfl rfl ?_)
      refine AO.op rfl (AOp.move rfl rfl (ltb rfl) rfl ?_)
      obtain ⟨q81, h1⟩ := need_elim h1
      refine AO.op rfl (AOp.sliceD (cells := (List.map keS0 g67.2.2.1)) (n := g67.2.2.1.length) (l := ((8 : Int)).toNat) (hh := g67.2.2.1.length) rfl rfl (ltb rfl) rfl (.inr ⟨_, _, _, rfl, rfl, q81.1.1, rfl⟩) (.inl ⟨rfl, rfl⟩) el22 (by decide) (len1 _ _) q81.2.1 q81.2.2 (sub1 _ _ _ _) ?_)
      refine AO.op rfl (AOp.nilCheck rfl rfl (ltb rfl) rfl rfl ?_)
      refine AO.op rfl (AOp.fieldAddr rfl rfl (ltb rfl) rfl fo51_0 ?_)
      refine AO.op rfl (AOp.store rfl rfl rfl rfl size22 rfl rfl rfl (leb rfl) ?_)
      refine AO.nil ?_
      change AC _ _ _ _
      refine AC.seq ?_
      refine AC.region ?_
      refine AO.op rfl (AOp.move rfl rfl (ltb rfl) rfl ?_)
      refine AO.op rfl (AOp.assign rfl rfl (ltb rfl) rfl ?_)
      refine AO.nil ?_
      change AC _ _ _ _
      refine AC.ret ?_
      refine inlret (ob' := [.fix 51 [.d (eS0 ((g67.2.2.1.drop ((8 : Int)).toNat).take (g67.2.2.1.length - ((8 : Int)).toNat))), .d (dbool false), .d (dbool false), .d (dbool a1), .d (dbool g67.2.1), .d (dbool false)], .dead, .dead, .frame fr62 [(6, .d (.v (.slice none 0 0))), (10, .ptr 0 0)], .grow 63 1 (List.map keS1 g67.2.2.2), .dead]) (e' := [(0, .ptr 0 0), (1, .d (di .i64 ((IntKind.i64.wrap g21) * a2))), (5, .own 4), (6, .d (di .i64 g67.1)), (26, .own 4)]) (r := .d (di .u64 g80)) rfl rfl rfl ?_
      change AO _ _ _ _ _
      obtain ⟨q82, h1⟩ := need_elim h1
      refine AO.op rfl (AOp.callX [.int .u64 (((g80).toNat : Nat) : Int)] rfl rfl (ltb rfl) (by rw [q82]; rfl) (callFromBits ((g80).toNat)) ?_)
      refine AO.op rfl (AOp.buildSliceD rfl rfl (ltb rfl) el24 zero63 rfl (leb rfl) rfl rfl rfl rfl ?_)
      obtain ⟨q83, h1⟩ := need_elim h1
      refine AO.op rfl (AOp.appendOwn' (p := 4) (n := g67.2.2.2.length) (m := [(g80).toNat].length) (news := (List.map keS1 [(g80).toNat])) rfl rfl (ltb rfl) rfl rfl el24 info63 rfl (by decide) rfl (len1 _ _) (len1 _ _) (one1 _ (fun _ => rfl) _) q83 (by decide) rfl rfl (cat1 _ _ _) ?_)
      refine AO.op rfl (AOp.assign rfl rfl (ltb rfl) rfl ?_)
      refine AO.objs (obs' := [.fix 51 [.d (eS0 ((g67.2.2.1.drop ((8 : Int)).toNat).take (g67.2.2.1.length - ((8 : Int)).toNat))), .d (dbool false), .d (dbool false), .d (dbool a1), .d (dbool g67.2.1), .d (dbool false)], .dead, .dead, .frame fr62 [(6, .d (.v (.slice none 0 0))), (10, .ptr 0 0)], .grow 63 1 (List.map keS1 (g67.2.2.2 ++ [(g80).toNat])), .dead]) rfl ?_
      refine AO.nil ?_
      change AC _ _ _ _
      refine AC.region ?_
      refine AO.op rfl (AOp.move rfl rfl (ltb rfl) rfl ?_)
      obtain ⟨q84, h1⟩ := need_elim h1
      refine AO.op rfl (AOp.iadd rfl rfl (ltb rfl) rfl rfl rfl q84.1 q84.2 ?_)
      refine AO.op rfl (AOp.assign rfl rfl (ltb rfl) rfl ?_)
      refine AO.nil ?_
      exact ⟨((g67.1 + (1 : Int)), g67.2.1, ((g67.2.2.1.drop ((8 : Int)).toNat).take (g67.2.2.1.length - ((8 : Int)).toNat)), (g67.2.2.2 ++ [(g80).toNat])), _, rfl, (LeL.refl _), rfl, rfl, h1⟩
    replace h1 := cF h1 q71
    refine AC.exit ?_
    obtain rfl := Option.some.inj h1
    exact ⟨(g67.2.2.1, g67.2.1, g67.2.2.2), _, rfl, (LeL.refl _), rfl, rfl, aftL h0⟩
  intro g65 h0
  unfold p_TakeRow_k12 at h0
  change AC _ _ _ _
  refine AC.seq ?_
  refine AC.region ?_
  refine AO.op rfl (AOp.move rfl rfl (ltb rfl) rfl ?_)
  refine AO.op rfl (AOp.assign rfl rfl (ltb rfl) rfl ?_)
  refine AO.nil ?_
  change AC _ _ _ _
  refine AC.ret ?_
  refine inlret (ob' := [.fix 51 [.d (eS0 g65.1), .d (dbool false), .d (dbool false), .d (dbool a1), .d (dbool g65.2.1), .d (dbool false)], .dead, .dead, .dead, .grow 63 1 (List.map keS1 g65.2.2)]) (e' := [(6, .d (.v (.slice none 0 0))), (10, .ptr 0 0)]) (r := .own 4) rfl rfl rfl ?_
  change AO _ _ _ _ _
  refine AO.op rfl (AOp.assign rfl rfl (ltb rfl) rfl ?_)
  refine AO.nil ?_
  change AC _ _ _ _
  refine AC.seq ?_
  refine AC.draw 26 mixed (by kernel_rfl) ?_
  refine AD.op [6] rfl (by kernel_rfl) rfl rfl (fun _ _ h => AOp.move rfl rfl (ltb rfl) rfl h) ?_
  refine AD.op [10] rfl (by kernel_rfl) rfl rfl (fun _ _ h => AOp.move rfl rfl (ltb rfl) rfl h) ?_
  refine AD.op [22] rfl (by kernel_rfl) rfl rfl (fun _ _ h => AOp.nilCheck rfl rfl (ltb rfl) rfl rfl h) ?_
  refine AD.op [23] rfl (by kernel_rfl) rfl rfl (fun _ _ h => AOp.fieldAddr rfl rfl (ltb rfl) rfl fo51_0 h) ?_
  refine AD.op [24] rfl (by kernel_rfl) rfl rfl (fun _ _ h => AOp.load1 rfl rfl (ltb rfl) rfl agg22 rfl rfl h) ?_
  refine AD.op [25] rfl (by kernel_rfl) rfl rfl (fun _ _ h => AOp.lenDs (n := g65.1.length) (cells := (List.map keS0 g65.1)) rfl rfl (ltb rfl) rfl el22 (by decide) (len1 _ _) h) ?_
  refine AD.op [10] rfl (by kernel_rfl) rfl rfl (fun _ _ h => AOp.move rfl rfl (ltb rfl) rfl h) ?_
  refine AD.op [27] rfl (by kernel_rfl) rfl rfl (fun _ _ h => AOp.nilCheck rfl rfl (ltb rfl) rfl rfl h) ?_
  refine AD.op [28] rfl (by kernel_rfl) rfl rfl (fun _ _ h => AOp.fieldAddr rfl rfl (ltb rfl) rfl fo51_4 h) ?_
  refine AD.op [29] rfl (by kernel_rfl) rfl rfl (fun _ _ h => AOp.load1 rfl rfl (ltb rfl) rfl agg4 rfl rfl h) ?_
  refine AD.op [30] rfl (by kernel_rfl) rfl rfl (fun _ _ h => AOp.bnot rfl rfl (ltb rfl) rfl h) ?_
  refine AD.op [31] rfl (by kernel_rfl) rfl rfl (fun _ _ h => AOp.move rfl rfl (ltb rfl) rfl h) ?_
  refine AD.dec (!g65.2.1) (fun q66 => ?_) (fun q66 => ?_)
  · replace h0 := cT h0 q66
    refine AD.opY [10, 32] rfl rfl rfl q66 (by kernel_rfl) rfl rfl (fun _ _ h => AOp.move rfl rfl (ltb rfl) rfl h) ?_
    refine AD.opY [32, 33] rfl rfl rfl q66 (by kernel_rfl) rfl rfl (fun _ _ h => AOp.nilCheck rfl rfl (ltb rfl) rfl rfl h) ?_
    refine AD.opY [32, 34] rfl rfl rfl q66 (by kernel_rfl) rfl rfl (fun _ _ h => AOp.fieldAddr rfl rfl (ltb rfl) rfl fo51_5 h) ?_
    refine AD.opY [32, 35] rfl rfl rfl q66 (by kernel_rfl) rfl rfl (fun _ _ h => AOp.load1 rfl rfl (ltb rfl) rfl agg4 rfl rfl h) ?_
    refine AD.opY [32, 36] rfl rfl rfl q66 (by kernel_rfl) rfl rfl (fun _ _ h => AOp.bnot rfl rfl (ltb rfl) rfl h) ?_
    refine AD.op [32, 37] rfl (by kernel_rfl) rfl rfl (fun _ _ h => AOp.pick rfl rfl (ltb rfl) rfl q66 rfl h) ?_
    refine AD.op [10] rfl (by kernel_rfl) rfl rfl (fun _ _ h => AOp.move rfl rfl (ltb rfl) rfl h) ?_
    refine AD.op [39] rfl (by kernel_rfl) rfl rfl (fun _ _ h => AOp.nilCheck rfl rfl (ltb rfl) rfl rfl h) ?_
    refine AD.op [40] rfl (by kernel_rfl) rfl rfl (fun _ _ h => AOp.fieldAddr rfl rfl (ltb rfl) rfl fo51_5 h) ?_
    refine AD.op [41] rfl (by kernel_rfl) rfl rfl (fun _ _ h => AOp.load1 rfl rfl (ltb rfl) rfl agg4 rfl rfl h) ?_
    refine AD.op [21] rfl (by kernel_rfl) rfl rfl (fun _ _ h => AOp.assign rfl rfl (ltb rfl) rfl h) ?_
    refine AD.op [26] rfl (by kernel_rfl) rfl rfl (fun _ _ h => AOp.assign rfl rfl (ltb rfl) rfl h) ?_
    refine AD.op [38] rfl (by kernel_rfl) rfl rfl (fun _ _ h => AOp.assign rfl rfl (ltb rfl) rfl h) ?_
    refine AD.op [42] rfl (by kernel_rfl) rfl rfl (fun _ _ h => AOp.assign rfl rfl (ltb rfl) rfl h) ?_
    refine AD.done ?_
    refine AO.nil ?_
    change AC _ _ _ _
    refine AC.ret ?_
    change RetQ _ _ _ .ret _
    obtain rfl := Option.some.inj h0
    refine retq rfl rfl
  replace h0 := cF h0 q66
  refine AD.opN rfl rfl rfl (ltb rfl) rfl q66 ?_
  refine AD.opN rfl rfl rfl (ltb rfl) rfl q66 ?_
  refine AD.opN rfl rfl rfl (ltb rfl) rfl q66 ?_
  refine AD.opN rfl rfl rfl (ltb rfl) rfl q66 ?_
  refine AD.opN rfl rfl rfl (ltb rfl) rfl q66 ?_
  refine AD.op [32, 37] rfl (by kernel_rfl) rfl rfl (fun _ _ h => AOp.pickN rfl rfl (ltb rfl) rfl q66 rfl h) ?_
  refine AD.op [10] rfl (by kernel_rfl) rfl rfl (fun _ _ h => AOp.move rfl rfl (ltb rfl) rfl h) ?_
  refine AD.op [39] rfl (by kernel_rfl) rfl rfl (fun _ _ h => AOp.nilCheck rfl rfl (ltb rfl) rfl rfl h) ?_
  refine AD.op [40] rfl (by kernel_rfl) rfl rfl (fun _ _ h => AOp.fieldAddr rfl rfl (ltb rfl) rfl fo51_5 h) ?_
  refine AD.op [41] rfl (by kernel_rfl) rfl rfl (fun _ _ h => AOp.load1 rfl rfl (ltb rfl) rfl agg4 rfl rfl h) ?_
  refine AD.op [21] rfl (by kernel_rfl) rfl rfl (fun _ _ h => AOp.assign rfl rfl (ltb rfl) rfl h) ?_
  refine AD.op [26] rfl (by kernel_rfl) rfl rfl (fun _ _ h => AOp.assign rfl rfl (ltb rfl) rfl h) ?_
  refine AD.op [38] rfl (by kernel_rfl) rfl rfl (fun _ _ h => AOp.assign rfl rfl (ltb rfl) rfl h) ?_
  refine AD.op [42] rfl (by kernel_rfl) rfl rfl (fun _ _ h => AOp.assign rfl rfl (ltb rfl) rfl h) ?_
  refine AD.done ?_
  refine AO.nil ?_
  change AC _ _ _ _
  refine AC.ret ?_
  change RetQ _ _ _ .ret _
  obtain rfl := Option.some.inj h0
  refine retq rfl rfl

set_option maxRecDepth 100000 in
set_option maxHeartbeats 4000000 in
/-- (*bytes.Buffer).Len -/
theorem w_Buffer_Len (a0 : TBytes_Buffer) (r0 : Int) (h0 : p_Buffer_Len a0 = some r0) : FnD Tryd.prog 23 [.pt (c_TBytes_Buffer a0)] (fun r => r = di .i64 r0) := by
  refine FnD.of (by kernel_rfl) Tryd.func23 rfl Tryd.ntmps23 rfl (leb rfl) fun W ok => ?_
  unfold p_Buffer_Len at h0
  refine AC.seq ?_
  refine AC.region ?_
  refine AO.op rfl (AOp.assign rfl rfl (ltb rfl) rfl ?_)
  refine AO.nil ?_
  change AC _ _ _ _
  refine AC.seq ?_
  refine AC.draw 11 mixed (by kernel_rfl) ?_
  refine AD.op [0] rfl (by kernel_rfl) rfl rfl (fun _ _ h => AOp.move rfl rfl (ltb rfl) rfl h) ?_
  refine AD.op [3] rfl (by kernel_rfl) rfl rfl (fun _ _ h => AOp.nilCheck rfl rfl (ltb rfl) rfl rfl h) ?_
  refine AD.op [4] rfl (by kernel_rfl) rfl rfl (fun _ _ h => AOp.fieldAddrPt rfl rfl (ltb rfl) rfl fo71_0 h) ?_
  refine AD.op [5] rfl (by kernel_rfl) rfl rfl (fun _ _ h => AOp.loadEp rfl rfl (ltb rfl) rfl agg22 rfl h) ?_
  refine AD.op [6] rfl (by kernel_rfl) rfl rfl (fun _ _ h => AOp.lenDs (n := a0.buf.length) (cells := (List.map keS0 a0.buf)) rfl rfl (ltb rfl) rfl el22 (by decide) (len1 _ _) h) ?_
  refine AD.op [0] rfl (by kernel_rfl) rfl rfl (fun _ _ h => AOp.move rfl rfl (ltb rfl) rfl h) ?_
  refine AD.op [8] rfl (by kernel_rfl) rfl rfl (fun _ _ h => AOp.nilCheck rfl rfl (ltb rfl) rfl rfl h) ?_
  refine AD.op [9] rfl (by kernel_rfl) rfl rfl (fun _ _ h => AOp.fieldAddrPt rfl rfl (ltb rfl) rfl fo71_1 h) ?_
  refine AD.op [10] rfl (by kernel_rfl) rfl rfl (fun _ _ h => AOp.loadEp rfl rfl (ltb rfl) rfl agg3 rfl h) ?_
  obtain ⟨q1, h0⟩ := need_elim h0
  refine AD.op [7, 11] rfl (by kernel_rfl) rfl rfl (fun _ _ h => AOp.isub rfl rfl (ltb rfl) rfl rfl rfl q1.1 q1.2 h) ?_
  refine AD.op [12] rfl (by kernel_rfl) rfl rfl (fun _ _ h => AOp.assign rfl rfl (ltb rfl) rfl h) ?_
  refine AD.done ?_
  refine AO.nil ?_
  change AC _ _ _ _
  refine AC.ret ?_
  change RetQ _ _ _ .ret _
  obtain rfl := Option.some.inj h0
  refine retq rfl rfl

set_option maxRecDepth 100000 in
set_option maxHeartbeats 4000000 in
/-- (encoding/binary.bigEndian).Uint64 -/
theorem w_bigEndian_Uint64 (a0 : TBinary_bigEndian) (a1 : (List Int)) (r0 : Int) (h0 : p_bigEndian_Uint64 a0 a1 = some r0) : FnD Tryd.prog 88 [e_TBinary_bigEndian a0, eS0 a1] (fun r => r = di .u64 r0) := by
  refine FnD.of (by kernel_rfl) Tryd.func88 rfl Tryd.ntmps88 rfl (leb rfl) fun W ok => ?_
  unfold p_bigEndian_Uint64 at h0
  refine AC.seq ?_
  refine AC.region ?_
  refine AO.op rfl (AOp.box rfl rfl (ltb rfl) rfl rfl ?_)
  refine AO.op rfl (AOp.assign rfl rfl (ltb rfl) rfl ?_)
  refine AO.nil ?_
  change AC _ _ _ _
  refine AC.seq ?_
  refine AC.region ?_
  refine AO.op rfl (AOp.move rfl rfl (ltb rfl) rfl ?_)
  obtain ⟨x1, q2, h0⟩ := idx_elim h0
  refine AO.op rfl (AOp.indexDs (cells := (List.map keS0 a1)) rfl rfl (ltb rfl) rfl rfl el22 (by decide) q2.1 (lt1 q2.2) ?_)
  refine AO.op rfl (AOp.loadEp rfl rfl (ltb rfl) rfl agg5 (at1 q2.2) ?_)
  refine AO.nil ?_
  change AC _ _ _ _
  refine AC.seq ?_
  refine AC.draw 47 mixed (by kernel_rfl) ?_
  refine AD.op [1] rfl (by kernel_rfl) rfl rfl (fun _ _ h => AOp.move rfl rfl (ltb rfl) rfl h) ?_
  obtain ⟨x3, q4, h0⟩ := idx_elim h0
  refine AD.op [8] rfl (by kernel_rfl) rfl rfl (fun _ _ h => AOp.indexDs (cells := (List.map keS0 a1)) rfl rfl (ltb rfl) rfl rfl el22 (by decide) q4.1 (lt1 q4.2) h) ?_
  refine AD.op [9] rfl (by kernel_rfl) rfl rfl (fun _ _ h => AOp.loadEp rfl rfl (ltb rfl) rfl agg5 (at1 q4.2) h) ?_
  refine AD.op [10] rfl (by kernel_rfl) rfl rfl (fun _ _ h => AOp.i2i rfl rfl (ltb rfl) rfl Tryd.underlying5 Tryd.underlying64 rfl h) ?_
  refine AD.op [1] rfl (by kernel_rfl) rfl rfl (fun _ _ h => AOp.move rfl rfl (ltb rfl) rfl h) ?_
  obtain ⟨x5, q6, h0⟩ := idx_elim h0
  refine AD.op [12] rfl (by kernel_rfl) rfl rfl (fun _ _ h => AOp.indexDs (cells := (List.map keS0 a1)) rfl rfl (ltb rfl) rfl rfl el22 (by decide) q6.1 (lt1 q6.2) h) ?_
  refine AD.op [13] rfl (by kernel_rfl) rfl rfl (fun _ _ h => AOp.loadEp rfl rfl (ltb rfl) rfl agg5 (at1 q6.2) h) ?_
  refine AD.op [14] rfl (by kernel_rfl) rfl rfl (fun _ _ h => AOp.i2i rfl rfl (ltb rfl) rfl Tryd.underlying5 Tryd.underlying64 rfl h) ?_
  refine AD.op [15] rfl (by kernel_rfl) rfl rfl (fun _ _ h => AOp.ishl (n := 8) rfl rfl (ltb rfl) rfl rfl (by decide) rfl h) ?_
  refine AD.op [11, 16] rfl (by kernel_rfl) rfl rfl (fun _ _ h => AOp.ibits (by simp) rfl rfl (ltb rfl) rfl rfl rfl h) ?_
  refine AD.op [1] rfl (by kernel_rfl) rfl rfl (fun _ _ h => AOp.move rfl rfl (ltb rfl) rfl h) ?_
  obtain ⟨x7, q8, h0⟩ := idx_elim h0
  refine AD.op [18] rfl (by kernel_rfl) rfl rfl (fun _ _ h => AOp.indexDs (cells := (List.map keS0 a1)) rfl rfl (ltb rfl) rfl rfl el22 (by decide) q8.1 (lt1 q8.2) h) ?_
  refine AD.op [19] rfl (by kernel_rfl) rfl rfl (fun _ _ h => AOp.loadEp rfl rfl (ltb rfl) rfl agg5 (at1 q8.2) h) ?_
  refine AD.op [20] rfl (by kernel_rfl) rfl rfl (fun _ _ h => AOp.i2i rfl rfl (ltb rfl) rfl Tryd.underlying5 Tryd.underlying64 rfl h) ?_
  refine AD.op [21] rfl (by kernel_rfl) rfl rfl (fun _ _ h => AOp.ishl (n := 16) rfl rfl (ltb rfl) rfl rfl (by decide) rfl h) ?_
  refine AD.op [17, 22] rfl (by kernel_rfl) rfl rfl (fun _ _ h => AOp.ibits (by simp) rfl rfl (ltb rfl) rfl rfl rfl h) ?_
  refine AD.op [1] rfl (by kernel_rfl) rfl rfl (fun _ _ h => AOp.move rfl rfl (ltb rfl) rfl h) ?_
  obtain ⟨x9, q10, h0⟩ := idx_elim h0
  refine AD.op [24] rfl (by kernel_rfl) rfl rfl (fun _ _ h => AOp.indexDs (cells := (List.map keS0 a1)) rfl rfl (ltb rfl) rfl rfl el22 (by decide) q10.1 (lt1 q10.2) h) ?_
  refine AD.op [25] rfl (by kernel_rfl) rfl rfl (fun _ _ h => AOp.loadEp rfl rfl (ltb rfl) rfl agg5 (at1 q10.2) h) ?_
  refine AD.op [26] rfl (by kernel_rfl) rfl rfl (fun _ _ h => AOp.i2i rfl rfl (ltb rfl) rfl Tryd.underlying5 Tryd.underlying64 rfl h) ?_
  refine AD.op [27] rfl (by kernel_rfl) rfl rfl (fun _ _ h => AOp.ishl (n := 24) rfl rfl (ltb rfl) rfl rfl (by decide) rfl h) ?_
  refine AD.op [23, 28] rfl (by kernel_rfl) rfl rfl (fun _ _ h => AOp.ibits (by simp) rfl rfl (ltb rfl) rfl rfl rfl h) ?_
  refine AD.op [1] rfl (by kernel_rfl) rfl rfl (fun _ _ h => AOp.move rfl rfl (ltb rfl) rfl h) ?_
  obtain ⟨x11, q12, h0⟩ := idx_elim h0
  refine AD.op [30] rfl (by kernel_rfl) rfl rfl (fun _ _ h => AOp.indexDs (cells := (List.map keS0 a1)) rfl rfl (ltb rfl) rfl rfl el22 (by decide) q12.1 (lt1 q12.2) h) ?_
  refine AD.op [31] rfl (by kernel_rfl) rfl rfl (fun _ _ h => AOp.loadEp rfl rfl (ltb rfl) rfl agg5 (at1 q12.2) h) ?_
  refine AD.op [32] rfl (by kernel_rfl) rfl rfl (fun _ _ h => AOp.i2i rfl rfl (ltb rfl) rfl Tryd.underlying5 Tryd.underlying64 rfl h) ?_
  refine AD.op [33] rfl (by kernel_rfl) rfl rfl (fun _ _ h => AOp.ishl (n := 32) rfl rfl (ltb rfl) rfl rfl (by decide) rfl h) ?_
  refine AD.op [29, 34] rfl (by kernel_rfl) rfl rfl (fun _ _ h => AOp.ibits (by simp) rfl rfl (ltb rfl) rfl rfl rfl h) ?_
  refine AD.op [1] rfl (by kernel_rfl) rfl rfl (fun _ _ h => AOp.move rfl rfl (ltb rfl) rfl h) ?_
  obtain ⟨x13, q14, h0⟩ := idx_elim h0
  refine AD.op [36] rfl (by kernel_rfl) rfl rfl (fun _ _ h => AOp.indexDs (cells := (List.map keS0 a1)) rfl rfl (ltb rfl) rfl rfl el22 (by decide) q14.1 (lt1 q14.2) h) ?_
  refine AD.op [37] rfl (by kernel_rfl) rfl rfl (fun _ _ h => AOp.loadEp rfl rfl (ltb rfl) rfl agg5 (at1 q14.2) h) ?_
  refine AD.op [38] rfl (by kernel_rfl) rfl rfl (fun _ _ h => AOp.i2i rfl rfl (ltb rfl) rfl Tryd.underlying5 Tryd.underlying64 rfl h) ?_
  refine AD.op [39] rfl (by kernel_rfl) rfl rfl (fun _ _ h => AOp.ishl (n := 40) rfl rfl (ltb rfl) rfl rfl (by decide) rfl h) ?_
  refine AD.op [35, 40] rfl (by kernel_rfl) rfl rfl (fun _ _ h => AOp.ibits (by simp) rfl rfl (ltb rfl) rfl rfl rfl h) ?_
  refine AD.op [1] rfl (by kernel_rfl) rfl rfl (fun _ _ h => AOp.move rfl rfl (ltb rfl) rfl h) ?_
  obtain ⟨x15, q16, h0⟩ := idx_elim h0
  refine AD.op [42] rfl (by kernel_rfl) rfl rfl (fun _ _ h => AOp.indexDs (cells := (List.map keS0 a1)) rfl rfl (ltb rfl) rfl rfl el22 (by decide) q16.1 (lt1 q16.2) h) ?_
  refine AD.op [43] rfl (by kernel_rfl) rfl rfl (fun _ _ h => AOp.loadEp rfl rfl (ltb rfl) rfl agg5 (at1 q16.2) h) ?_
  refine AD.op [44] rfl (by kernel_rfl) rfl rfl (fun _ _ h => AOp.i2i rfl rfl (ltb rfl) rfl Tryd.underlying5 Tryd.underlying64 rfl h) ?_
  refine AD.op [45] rfl (by kernel_rfl) rfl rfl (fun _ _ h => AOp.ishl (n := 48) rfl rfl (ltb rfl) rfl rfl (by decide) rfl h) ?_
  refine AD.op [41, 46] rfl (by kernel_rfl) rfl rfl (fun _ _ h => AOp.ibits (by simp) rfl rfl (ltb rfl) rfl rfl rfl h) ?_
  refine AD.op [1] rfl (by kernel_rfl) rfl rfl (fun _ _ h => AOp.move rfl rfl (ltb rfl) rfl h) ?_
  obtain ⟨x17, q18, h0⟩ := idx_elim h0
  refine AD.op [48] rfl (by kernel_rfl) rfl rfl (fun _ _ h => AOp.indexDs (cells := (List.map keS0 a1)) rfl rfl (ltb rfl) rfl rfl el22 (by decide) q18.1 (lt1 q18.2) h) ?_
  refine AD.op [49] rfl (by kernel_rfl) rfl rfl (fun _ _ h => AOp.loadEp rfl rfl (ltb rfl) rfl agg5 (at1 q18.2) h) ?_
  refine AD.op [50] rfl (by kernel_rfl) rfl rfl (fun _ _ h => AOp.i2i rfl rfl (ltb rfl) rfl Tryd.underlying5 Tryd.underlying64 rfl h) ?_
  refine AD.op [51] rfl (by kernel_rfl) rfl rfl (fun _ _ h => AOp.ishl (n := 56) rfl rfl (ltb rfl) rfl rfl (by decide) rfl h) ?_
  refine AD.op [47, 52] rfl (by kernel_rfl) rfl rfl (fun _ _ h => AOp.ibits (by simp) rfl rfl (ltb rfl) rfl rfl rfl h) ?_
  refine AD.op [53] rfl (by kernel_rfl) rfl rfl (fun _ _ h => AOp.assign rfl rfl (ltb rfl) rfl h) ?_
  refine AD.done ?_
  refine AO.nil ?_
  change AC _ _ _ _
  refine AC.ret ?_
  change RetQ _ _ _ .ret _
  obtain rfl := Option.some.inj h0
  refine retq rfl rfl

set_option maxRecDepth 100000 in
set_option maxHeartbeats 4000000 in
/-- (encoding/binary.littleEndian).Uint64 -/
theorem w_littleEndian_Uint64 (a0 : TBinary_bigEndian) (a1 : (List Int)) (r0 : Int) (h0 : p_littleEndian_Uint64 a0 a1 = some r0) : FnD Tryd.prog 96 [e_TBinary_bigEndian a0, eS0 a1] (fun r => r = di .u64 r0) := by
  refine FnD.of (by kernel_rfl) Tryd.func96 rfl Tryd.ntmps96 rfl (leb rfl) fun W ok => ?_
  unfold p_littleEndian_Uint64 at h0
  refine AC.seq ?_
  refine AC.region ?_
  refine AO.op rfl (AOp.box rfl rfl (ltb rfl) rfl rfl ?_)
  refine AO.op rfl (AOp.assign rfl rfl (ltb rfl) rfl ?_)
  refine AO.nil ?_
  change AC _ _ _ _
  refine AC.seq ?_
  refine AC.region ?_
  refine AO.op rfl (AOp.move rfl rfl (ltb rfl) rfl ?_)
  obtain ⟨x1, q2, h0⟩ := idx_elim h0
  refine AO.op rfl (AOp.indexDs (cells := (List.map keS0 a1)) rfl rfl (ltb rfl) rfl rfl el22 (by decide) q2.1 (lt1 q2.2) ?_)
  refine AO.op rfl (AOp.loadEp rfl rfl (ltb rfl) rfl agg5 (at1 q2.2) ?_)
  refine AO.nil ?_
  change AC _ _ _ _
  refine AC.seq ?_
  refine AC.draw 47 mixed (by kernel_rfl) ?_
  refine AD.op [1] rfl (by kernel_rfl) rfl rfl (fun _ _ h => AOp.move rfl rfl (ltb rfl) rfl h) ?_
  obtain ⟨x3, q4, h0⟩ := idx_elim h0
  refine AD.op [8] rfl (by kernel_rfl) rfl rfl (fun _ _ h => AOp.indexDs (cells := (List.map keS0 a1)) rfl rfl (ltb rfl) rfl rfl el22 (by decide) q4.1 (lt1 q4.2) h) ?_
  refine AD.op [9] rfl (by kernel_rfl) rfl rfl (fun _ _ h => AOp.loadEp rfl rfl (ltb rfl) rfl agg5 (at1 q4.2) h) ?_
  refine AD.op [10] rfl (by kernel_rfl) rfl rfl (fun _ _ h => AOp.i2i rfl rfl (ltb rfl) rfl Tryd.underlying5 Tryd.underlying64 rfl h) ?_
  refine AD.op [1] rfl (by kernel_rfl) rfl rfl (fun _ _ h => AOp.move rfl rfl (ltb rfl) rfl h) ?_
  obtain ⟨x5, q6, h0⟩ := idx_elim h0
  refine AD.op [12] rfl (by kernel_rfl) rfl rfl (fun _ _ h => AOp.indexDs (cells := (List.map keS0 a1)) rfl rfl (ltb rfl) rfl rfl el22 (by decide) q6.1 (lt1 q6.2) h) ?_
  refine AD.op [13] rfl (by kernel_rfl) rfl rfl (fun _ _ h => AOp.loadEp rfl rfl (ltb rfl) rfl agg5 (at1 q6.2) h) ?_
  refine AD.op [14] rfl (by kernel_rfl) rfl rfl (fun _ _ h => AOp.i2i rfl rfl (ltb rfl) rfl Tryd.underlying5 Tryd.underlying64 rfl h) ?_
  refine AD.op [15] rfl (by kernel_rfl) rfl rfl (fun _ _ h => AOp.ishl (n := 8) rfl rfl (ltb rfl) rfl rfl (by decide) rfl h) ?_
  refine AD.op [11, 16] rfl (by kernel_rfl) rfl rfl (fun _ _ h => AOp.ibits (by simp) rfl rfl (ltb rfl) rfl rfl rfl h) ?_
  refine AD.op [1] rfl (by kernel_rfl) rfl rfl (fun _ _ h => AOp.move rfl rfl (ltb rfl) rfl h) ?_
  obtain ⟨x7, q8, h0⟩ := idx_elim h0
  refine AD.op [18] rfl (by kernel_rfl) rfl rfl (fun _ _ h => AOp.indexDs (cells := (List.map keS0 a1)) rfl rfl (ltb rfl) rfl rfl el22 (by decide) q8.1 (lt1 q8.2) h) ?_
  refine AD.op [19] rfl (by kernel_rfl) rfl rfl (fun _ _ h => AOp.loadEp rfl rfl (ltb rfl) rfl agg5 (at1 q8.2) h) ?_
  refine AD.op [20] rfl (by kernel_rfl) rfl rfl (fun _ _ h => AOp.i2i rfl rfl (ltb rfl) rfl Tryd.underlying5 Tryd.underlying64 rfl h) ?_
  refine AD.op [21] rfl (by kernel_rfl) rfl rfl (fun _ _ h => AOp.ishl (n := 16) rfl rfl (ltb rfl) rfl rfl (by decide) rfl h) ?_
  refine AD.op [17, 22] rfl (by kernel_rfl) rfl rfl (fun _ _ h => AOp.ibits (by simp) rfl rfl (ltb rfl) rfl rfl rfl h) ?_
  refine AD.op [1] rfl (by kernel_rfl) rfl rfl (fun _ _ h => AOp.move rfl rfl (ltb rfl) rfl h) ?_
  obtain ⟨x9, q10, h0⟩ := idx_elim h0
  refine AD.op [24] rfl (by kernel_rfl) rfl rfl (fun _ _ h => AOp.indexDs (cells := (List.map keS0 a1)) rfl rfl (ltb rfl) rfl rfl el22 (by decide) q10.1 (lt1 q10.2) h) ?_
  refine AD.op [25] rfl (by kernel_rfl) rfl rfl (fun _ _ h => AOp.loadEp rfl rfl (ltb rfl) rfl agg5 (at1 q10.2) h) ?_
  refine AD.op [26] rfl (by kernel_rfl) rfl rfl (fun _ _ h => AOp.i2i rfl rfl (ltb rfl) rfl Tryd.underlying5 Tryd.underlying64 rfl h) ?_
  refine AD.op [27] rfl (by kernel_rfl) rfl rfl (fun _ _ h => AOp.ishl (n := 24) rfl rfl (ltb rfl) rfl rfl (by decide) rfl h) ?_
  refine AD.op [23, 28] rfl (by kernel_rfl) rfl rfl (fun _ _ h => AOp.ibits (by simp) rfl rfl (ltb rfl) rfl rfl rfl h) ?_
  refine AD.op [1] rfl (by kernel_rfl) rfl rfl (fun _ _ h => AOp.move rfl rfl (ltb rfl) rfl h) ?_
  obtain ⟨x11, q12, h0⟩ := idx_elim h0
  refine AD.op [30] rfl (by kernel_rfl) rfl rfl (fun _ _ h => AOp.indexDs (cells := (List.map keS0 a1)) rfl rfl (ltb rfl) rfl rfl el22 (by decide) q12.1 (lt1 q12.2) h) ?_
  refine AD.op [31] rfl (by kernel_rfl) rfl rfl (fun _ _ h => AOp.loadEp rfl rfl (ltb rfl) rfl agg5 (at1 q12.2) h) ?_
  refine AD.op [32] rfl (by kernel_rfl) rfl rfl (fun _ _ h => AOp.i2i rfl rfl (ltb rfl) rfl Tryd.underlying5 Tryd.underlying64 rfl h) ?_
  refine AD.op [33] rfl (by kernel_rfl) rfl rfl (fun _ _ h => AOp.ishl (n := 32) rfl rfl (ltb rfl) rfl rfl (by decide) rfl h) ?_
  refine AD.op [29, 34] rfl (by kernel_rfl) rfl rfl (fun _ _ h => AOp.ibits (by simp) rfl rfl (ltb rfl) rfl rfl rfl h) ?_
  refine AD.op [1] rfl (by kernel_rfl) rfl rfl (fun _ _ h => AOp.move rfl rfl (ltb rfl) rfl h) ?_
  obtain ⟨x13, q14, h0⟩ := idx_elim h0
  refine AD.op [36] rfl (by kernel_rfl) rfl rfl (fun _ _ h => AOp.indexDs (cells := (List.map keS0 a1)) rfl rfl (ltb rfl) rfl rfl el22 (by decide) q14.1 (lt1 q14.2) h) ?_
  refine AD.op [37] rfl (by kernel_rfl) rfl rfl (fun _ _ h => AOp.loadEp rfl rfl (ltb rfl) rfl agg5 (at1 q14.2) h) ?_
  refine AD.op [38] rfl (by kernel_rfl) rfl rfl (fun _ _ h => AOp.i2i rfl rfl (ltb rfl) rfl Tryd.underlying5 Tryd.underlying64 rfl h) ?_
  refine AD.op [39] rfl (by kernel_rfl) rfl rfl (fun _ _ h => AOp.ishl (n := 40) rfl rfl (ltb rfl) rfl rfl (by decide) rfl h) ?_
  refine AD.op [35, 40] rfl (by kernel_rfl) rfl rfl (fun _ _ h => AOp.ibits (by simp) rfl rfl (ltb rfl) rfl rfl rfl h) ?_
  refine AD.op [1] rfl (by kernel_rfl) rfl rfl (fun _ _ h => AOp.move rfl rfl (ltb rfl) rfl h) ?_
  obtain ⟨x15, q16, h0⟩ := idx_elim h0
  refine AD.op [42] rfl (by kernel_rfl) rfl rfl (fun _ _ h => AOp.indexDs (cells := (List.map keS0 a1)) rfl rfl (ltb rfl) rfl rfl el22 (by decide) q16.1 (lt1 q16.2) h) ?_
  refine AD.op [43] rfl (by kernel_rfl) rfl rfl (fun _ _ h => AOp.loadEp rfl rfl (ltb rfl) rfl agg5 (at1 q16.2) h) ?_
  refine AD.op [44] rfl (by kernel_rfl) rfl rfl (fun _ _ h => AOp.i2i rfl rfl (ltb rfl) rfl Tryd.underlying5 Tryd.underlying64 rfl h) ?_
  refine AD.op [45] rfl (by kernel_rfl) rfl rfl (fun _ _ h => AOp.ishl (n := 48) rfl rfl (ltb rfl) rfl rfl (by decide) rfl h) ?_
  refine AD.op [41, 46] rfl (by kernel_rfl) rfl rfl (fun _ _ h => AOp.ibits (by simp) rfl rfl (ltb rfl) rfl rfl rfl h) ?_
  refine AD.op [1] rfl (by kernel_rfl) rfl rfl (fun _ _ h => AOp.move rfl rfl (ltb rfl) rfl h) ?_
  obtain ⟨x17, q18, h0⟩ := idx_elim h0
  refine AD.op [48] rfl (by kernel_rfl) rfl rfl (fun _ _ h => AOp.indexDs (cells := (List.map keS0 a1)) rfl rfl (ltb rfl) rfl rfl el22 (by decide) q18.1 (lt1 q18.2) h) ?_
  refine AD.op [49] rfl (by kernel_rfl) rfl rfl (fun _ _ h => AOp.loadEp rfl rfl (ltb rfl) rfl agg5 (at1 q18.2) h) ?_
  refine AD.op [50] rfl (by kernel_rfl) rfl rfl (fun _ _ h => AOp.i2i rfl rfl (ltb rfl) rfl Tryd.underlying5 Tryd.underlying64 rfl h) ?_
  refine AD.op [51] rfl (by kernel_rfl) rfl rfl (fun _ _ h => AOp.ishl (n := 56) rfl rfl (ltb rfl) rfl rfl (by decide) rfl h) ?_
  refine AD.op [47, 52] rfl (by kernel_rfl) rfl rfl (fun _ _ h => AOp.ibits (by simp) rfl rfl (ltb rfl) rfl rfl rfl h) ?_
  refine AD.op [53] rfl (by kernel_rfl) rfl rfl (fun _ _ h => AOp.assign rfl rfl (ltb rfl) rfl h) ?_
  refine AD.done ?_
  refine AO.nil ?_
  change AC _ _ _ _
  refine AC.ret ?_
  change RetQ _ _ _ .ret _
  obtain rfl := Option.some.inj h0
  refine retq rfl rfl

end Go.Proofs.YtjhdpnjlphpboaaDoor.Wk
