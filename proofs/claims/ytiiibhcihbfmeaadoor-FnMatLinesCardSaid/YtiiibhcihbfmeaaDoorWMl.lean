/- Proved: functions of the program compute what the printed functions say, wherever these say something. -/
import Derived.Test.YtiiibhcihbfmeaaDoorPMl
import Derived.Test.YtiiibhcihbfmeaaDoorVmDraw4
import Derived.Test.YtiiibhcihbfmeaaDoorVmIfc
import Derived.Test.YtiiibhcihbfmeaaDoorVmNew
import Derived.Test.YtiiibhcihbfmeaaDoorVmNaN
import Derived.Test.YtiiibhcihbfmeaaDoorVmArr
import Derived.Test.YtiiibhcihbfmeaaDoorVmPan
import Derived.Test.YtiiibhcihbfmeaaDoorFltDy
import Derived.Test.YtiiibhcihbfmeaaDoorFltMin
import Derived.Test.YtiiibhcihbfmeaaDoorVmFin
import Derived.Test.YtiiibhcihbfmeaaDoorProg
namespace Go.Proofs.YtiiibhcihbfmeaaDoor.Wk
open Go.Vm
set_option linter.unusedVariables false
set_option linter.unusedSimpArgs false
theorem agg22 : aggT Tryd.prog 22 = some false := by kernel_rfl
theorem agg24 : aggT Tryd.prog 24 = some true := by kernel_rfl
theorem agg27 : aggT Tryd.prog 27 = some true := by kernel_rfl
theorem agg38 : aggT Tryd.prog 38 = some false := by kernel_rfl
theorem agg49 : aggT Tryd.prog 49 = some false := by kernel_rfl
theorem agg59 : aggT Tryd.prog 59 = some true := by kernel_rfl
theorem ar24 : arrT Tryd.prog 24 = some (9, 22, 1) := by kernel_rfl
theorem ar61 : arrT Tryd.prog 61 = some (9, 22, 1) := by kernel_rfl
theorem conc59 : concT Tryd.prog 59 = true := by kernel_rfl
theorem eg27 : Tryd.prog.eqGuardType Tryd.prog.depth 27 = false := by kernel_rfl
theorem el36 : elemT Tryd.prog 36 = some (24, 9) := by kernel_rfl
theorem el38 : elemT Tryd.prog 38 = some (22, 1) := by kernel_rfl
theorem el39 : elemT Tryd.prog 39 = some (38, 1) := by kernel_rfl
theorem eq27 (a0 : Nat) (a1 : Nat) (a2 : Nat) (b0 : Nat) (b1 : Nat) (b2 : Nat) : eqT Tryd.prog 9 27 [.float .f64 a0, .float .f64 a1, .float .f64 a2] [.float .f64 b0, .float .f64 b1, .float .f64 b2] = some (feq a0 b0 && (feq a1 b1 && (feq a2 b2 && true))) := by kernel_rfl
theorem fo41_0 : fieldOff Tryd.prog 41 0 = some 0 := by kernel_rfl
theorem fo41_1 : fieldOff Tryd.prog 41 1 = some 1 := by kernel_rfl
theorem fo41_2 : fieldOff Tryd.prog 41 2 = some 2 := by kernel_rfl
theorem fo51_0 : fieldOff Tryd.prog 51 0 = some 0 := by kernel_rfl
theorem idle13 (vs : Array Value) (w : World) (h : vs.size = 2) : CallsD Tryd.prog 13 vs .returning w fun e u' w' => e = .returned (.tuple #[]) ∧ u' = .returning ∧ w' = w := by
  obtain ⟨x0, x1, rfl⟩ : ∃ x0 x1, vs = #[x0, x1] := by
    obtain ⟨l⟩ := vs
    match l, h with
    | [x0, x1], _ => exact ⟨x0, x1, rfl⟩
  refine callsD_of_wpS Tryd.func13 rfl fun c₀ cs hu => ?_
  apply wpS_seq
  apply wpS_region
  simp [wpOpsS, go_sem, recoverD, hu, Tryd.ntmps13, Exit.thenS]
  refine wpS_cond (t := false) (by simp [Act.eval, Array.replicate]) ?_
  simp only [Bool.false_eq_true, if_false]
  refine wpS_of_wp (wp_skip ?_)
  cases c₀
  simp_all [bodyPostS, results, Tryd.results13]
theorem idle17 (vs : Array Value) (w : World) (h : vs.size = 2) : CallsD Tryd.prog 17 vs .returning w fun e u' w' => e = .returned (.tuple #[]) ∧ u' = .returning ∧ w' = w := by
  obtain ⟨x0, x1, rfl⟩ : ∃ x0 x1, vs = #[x0, x1] := by
    obtain ⟨l⟩ := vs
    match l, h with
    | [x0, x1], _ => exact ⟨x0, x1, rfl⟩
  refine callsD_of_wpS Tryd.func17 rfl fun c₀ cs hu => ?_
  apply wpS_seq
  apply wpS_region
  simp [wpOpsS, go_sem, recoverD, hu, Tryd.ntmps17, Exit.thenS]
  refine wpS_cond (t := false) (by simp [Act.eval, Array.replicate]) ?_
  simp only [Bool.false_eq_true, if_false]
  refine wpS_of_wp (wp_skip ?_)
  cases c₀
  simp_all [bodyPostS, results, Tryd.results17]
theorem imeth20 : Tryd.prog.underlying 20 = some (.interface (Tryd.prog.methodsAt 20)) := by kernel_rfl
theorem info22 : (Tryd.prog.info? 22).map (fun i => (i.zero, i.size, i.bytes)) = some (some (.float .f64 0), 1, 8) := by kernel_rfl
theorem mixed : Tryd.prog.follows .mixedOrders = true := by kernel_rfl
def pl27 : Nat → Option (Nat × Nat) := fun i => ([(0, 1), (1, 1), (2, 1)] : List (Nat × Nat))[i]?
theorem places27 : placesT Tryd.prog 27 = some pl27 := by kernel_rfl
def pl41 : Nat → Option (Nat × Nat) := fun i => ([(0, 1), (1, 1), (2, 1)] : List (Nat × Nat))[i]?
theorem places41 : placesT Tryd.prog 41 = some pl41 := by kernel_rfl
def pl51 : Nat → Option (Nat × Nat) := fun i => ([(0, 1)] : List (Nat × Nat))[i]?
theorem places51 : placesT Tryd.prog 51 = some pl51 := by kernel_rfl
theorem pmeth49 : Tryd.prog.underlying 49 = some (.pointer (Tryd.prog.pointee 49)) := by kernel_rfl
theorem size24 : sizeT Tryd.prog 24 = some 9 := by kernel_rfl
theorem size27 : sizeT Tryd.prog 27 = some 3 := by kernel_rfl
theorem size4 : sizeT Tryd.prog 4 = some 1 := by kernel_rfl
theorem size41 : sizeT Tryd.prog 41 = some 3 := by kernel_rfl
theorem size59 : sizeT Tryd.prog 59 = some 1 := by kernel_rfl
theorem zero24 : (Tryd.prog.info? 24).map (·.zero) = some (some (.agg #[.float .f64 0, .float .f64 0, .float .f64 0, .float .f64 0, .float .f64 0, .float .f64 0, .float .f64 0, .float .f64 0, .float .f64 0])) := by kernel_rfl
theorem zero27 : (Tryd.prog.info? 27).map (·.zero) = some (some (.agg #[.float .f64 0, .float .f64 0, .float .f64 0])) := by kernel_rfl
theorem zero38 : (Tryd.prog.info? 38).map (·.zero) = some (some (.slice none 0 0)) := by kernel_rfl
theorem zero4 : (Tryd.prog.info? 4).map (·.zero) = some (some (.bool false)) := by kernel_rfl
theorem zero41 : (Tryd.prog.info? 41).map (·.zero) = some (some (.agg #[.float .f64 0, .float .f64 0, .float .f64 0])) := by kernel_rfl
theorem zero51 : (Tryd.prog.info? 51).map (·.zero) = some (some (.agg #[.pointer none])) := by kernel_rfl
open Flt (truncD okF inR K20)
def notNan (x : Nat) : Prop := (FloatKind.f64.decode x).isNaN = false
def truncS (x : Nat) (d : Ieee.Datum) : Sem Value :=
  match d with
  | .nan s t =>
    if FloatKind.f64.format.quiet t = t then pure (.float .f64 x) else do
      let kept ← choose (.extern "math.Floor,Ceil,Trunc,RoundToEven.signallingNaN kept" 2)
      pure (.float .f64 (if kept == 1 then x else FloatKind.f64.encode (.nan s (FloatKind.f64.format.quiet t))))
  | d => pure (.float .f64 (FloatKind.f64.encode (d.integral .zero)))
theorem run_trunc (P : Program) (x : Nat) (h : notNan x) (w : World) : (Extern.MathFloor.toIntegral "math.archTrunc" .zero #[.float .f64 x]).run P w = .ok (.float .f64 (truncD x)) w := by
  unfold notNan at h
  have e : Extern.MathFloor.toIntegral "math.archTrunc" .zero #[.float .f64 x] = truncS x (FloatKind.f64.decode x) := rfl
  have e2 : ∀ d : Ieee.Datum, d.isNaN = false → truncS x d = pure (.float .f64 (FloatKind.f64.encode (d.integral .zero))) := by
    intro d hd
    cases d with
    | nan s t => cases hd
    | number s m e => rfl
    | infinity s => rfl
  rw [e, e2 _ h]
  rfl

theorem callTrunc (x : Nat) (h : notNan x) (w : World) : (callFunc 29 #[.float .f64 x]).run Tryd.prog w = .ok (.value (.float .f64 (truncD x))) w := by
  rw [run_callFunc_extern Tryd.func29 (by kernel_rfl) (by kernel_rfl) (by kernel_rfl) (e := Extern.MathFloor.toIntegral "math.archTrunc" .zero) (by kernel_rfl), run_trunc Tryd.prog x h]
  rfl

theorem inR_nn (m x : Nat) (h : fle x m = true) : notNan x := by
  unfold fle at h
  unfold notNan
  unfold Ieee.Format.order at h
  show (Ieee.double.read x).isNaN = false
  generalize Ieee.double.read x = d at *
  cases d with
  | nan s t => simp [Ieee.Datum.order] at h
  | number s m e => rfl
  | infinity s => rfl

set_option maxRecDepth 100000 in
/-- math.Trunc -/
theorem trunc (x : Nat) (h : notNan x) : FnD Tryd.prog 25 [dfl x] (fun r => r = dfl (truncD x)) := by
  refine FnD.of (by kernel_rfl) Tryd.func25 rfl Tryd.ntmps25 rfl (leb rfl) fun W ok => ?_
  refine AC.seq ?_
  refine AC.region ?_
  refine AO.op rfl (AOp.assign rfl rfl (ltb rfl) rfl ?_)
  refine AO.nil ?_
  change AC _ _ _ _
  refine AC.seq ?_
  refine AC.condT rfl rfl ?_
  refine AC.seq ?_
  refine AC.region ?_
  refine AO.op rfl (AOp.move rfl rfl (ltb rfl) rfl ?_)
  refine AO.op rfl (AOp.callX [.float .f64 x] rfl rfl (ltb rfl) rfl (callTrunc x h) ?_)
  refine AO.op rfl (AOp.assign rfl rfl (ltb rfl) rfl ?_)
  refine AO.nil ?_
  change AC _ _ _ _
  refine AC.ret ?_
  change RetQ _ _ _ .ret _
  refine retq rfl ?_
  exact rfl

theorem notNan_of {x : Nat} (h : Flt.isNan x = false) : notNan x := h
theorem callTruncA (x : Nat) (h : Flt.isNan x = true) (w : World) : ∃ r w', (callFunc 29 #[.float .f64 x]).run Tryd.prog w = .ok (.value r) w' ∧ (w' = w ∨ w' = w.drew) ∧ ∃ z, r = .float .f64 z ∧ Flt.isNan z = true := by
  obtain ⟨r, w', h1, h2, h3⟩ := Flt.run_truncA Tryd.prog x h w
  refine ⟨r, w', ?_, h2, h3⟩
  rw [run_callFunc_extern Tryd.func29 (by kernel_rfl) (by kernel_rfl) (by kernel_rfl) (e := Extern.MathFloor.toIntegral "math.archTrunc" .zero) (by kernel_rfl), h1]
  rfl
set_option maxRecDepth 100000 in
theorem truncNN (x : Nat) (h : Flt.isNan x = true) : FnD Tryd.prog 25 [dfl x] (fun r => ∃ z, r = dfl z ∧ Flt.isNan z = true) := by
  refine FnD.of (by kernel_rfl) Tryd.func25 rfl Tryd.ntmps25 rfl (leb rfl) fun W ok => ?_
  refine AC.seq ?_
  refine AC.region ?_
  refine AO.op rfl (AOp.assign rfl rfl (ltb rfl) rfl ?_)
  refine AO.nil ?_
  change AC _ _ _ _
  refine AC.seq ?_
  refine AC.condT rfl rfl ?_
  refine AC.seq ?_
  refine AC.region ?_
  refine AO.op rfl (AOp.move rfl rfl (ltb rfl) rfl ?_)
  refine AO.op rfl (AOp.callXA [.float .f64 x] rfl rfl (ltb rfl) rfl (callTruncA x h) ?_)
  rintro _ ⟨z, rfl, hz⟩
  refine AO.op rfl (AOp.assign rfl rfl (ltb rfl) rfl ?_)
  refine AO.nil ?_
  change AC _ _ _ _
  refine AC.ret ?_
  change RetQ _ _ _ .ret _
  refine retq rfl ?_
  exact ⟨z, rfl, hz⟩

theorem truncA (x : Nat) : FnD Tryd.prog 25 [dfl x] (fun r => ∃ z, r = dfl z ∧ Flt.TruncR x z) := by
  cases h : Flt.isNan x with
  | false => exact (trunc x h).mono fun r hr => ⟨_, hr, fun _ => rfl, fun h2 => by rw [h] at h2; cases h2⟩
  | true => exact (truncNN x h).mono fun r ⟨z, h1, h2⟩ => ⟨z, h1, fun h3 => by (rw [h] at h3; cases h3), fun _ => h2⟩

set_option maxRecDepth 100000 in
set_option maxHeartbeats 4000000 in
/-- pub-orthodrome/spec.Grid -/
theorem w_Grid (F : Nat) (a0 : (List (List Nat))) (a1 : Int) (a2 : Nat) (r0 : Bool) (h0 : p_Grid F a0 a1 a2 = some r0) : FnD Tryd.prog 12 [eS2 a0, di .i64 a1, dfl a2] (fun r => r = dbool r0) := by
  refine FnD.of (by kernel_rfl) Tryd.func12 rfl Tryd.ntmps12 rfl (leb rfl) fun W ok => ?_
  unfold p_Grid at h0
  refine AC.seq ?_
  refine AC.region ?_
  refine AO.op rfl (AOp.assign rfl rfl (ltb rfl) rfl ?_)
  refine AO.nil ?_
  change AC _ _ _ _
  refine AC.seq ?_
  refine AC.seq ?_
  refine AC.region ?_
  refine AO.op rfl (AOp.move rfl rfl (ltb rfl) rfl ?_)
  refine AO.op rfl (AOp.lenDs (n := a0.length) (cells := (List.map keS2 a0)) rfl rfl (ltb rfl) rfl el39 (by decide) (len1 _ _) ?_)
  refine AO.op rfl (AOp.move rfl rfl (ltb rfl) rfl ?_)
  refine AO.nil ?_
  change AC _ _ _ _
  obtain ⟨o1, l2, h0⟩ := bind_elim h0
  refine AC.joinE (V := Unit) [1] [] 0 (fun g3 => []) (fun g3 => []) (fun g3 => (p_Grid_k1 a1) g3 = some r0) rfl ?_ ?_
  · refine AC.block ?_
    refine AC.loopP (V := Int) (p_Grid_l2 a0 a1 a2 F) o1 [1, 2, 11, 12] [13] 0 (fun g4 => [(13, .d (di .i64 g4))]) (fun g4 => []) F (0 : Int) l2 rfl rfl (LeL.refl _) rfl rfl ?_
    intro n6 g4 h1
    unfold p_Grid_l2 at h1
    refine AC.seq ?_
    refine AC.region ?_
    refine AO.op rfl (AOp.ilss rfl rfl (ltb rfl) rfl rfl ?_)
    refine AO.nil ?_
    change AC _ _ _ _
    refine AC.seq ?_
    refine AC.cond rfl (fun q7 => ?_) (fun q7 => ?_)
    · replace h1 := cT h1 q7
      refine AC.skip ?_
      change AC _ _ _ _
      refine AC.seq ?_
      refine AC.block ?_
      refine AC.seq ?_
      refine AC.region ?_
      obtain ⟨x8, q9, h1⟩ := idx_elim h1
      refine AO.op rfl (AOp.indexDs (cells := (List.map keS2 a0)) rfl rfl (ltb rfl) rfl rfl el39 (by decide) q9.1 (lt1 q9.2) ?_)
      refine AO.op rfl (AOp.loadEp rfl rfl (ltb rfl) rfl agg38 (at1 q9.2) ?_)
      refine AO.op rfl (AOp.assign rfl rfl (ltb rfl) rfl ?_)
      refine AO.nil ?_
      change AC _ _ _ _
      refine AC.seq ?_
      refine AC.seq ?_
      refine AC.region ?_
      refine AO.op rfl (AOp.move rfl rfl (ltb rfl) rfl ?_)
      refine AO.op rfl (AOp.lenDs (n := x8.length) (cells := (List.map keS1 x8)) rfl rfl (ltb rfl) rfl el38 (by decide) (len1 _ _) ?_)
      refine AO.op rfl (AOp.move rfl rfl (ltb rfl) rfl ?_)
      refine AO.op rfl (AOp.ineq rfl rfl (ltb rfl) rfl rfl ?_)
      refine AO.nil ?_
      change AC _ _ _ _
      refine AC.cond rfl (fun q10 => ?_) (fun q10 => ?_)
      · replace h1 := cT h1 q10
        refine AC.seq ?_
        refine AC.region ?_
        refine AO.op rfl (AOp.assign rfl rfl (ltb rfl) rfl ?_)
        refine AO.nil ?_
        change AC _ _ _ _
        refine AC.ret ?_
        change RetQ _ _ _ .ret _
        obtain rfl := Option.some.inj h1
        replace h0 := aftR h0
        obtain rfl := Option.some.inj h0
        refine retq rfl rfl
      replace h1 := cF h1 q10
      refine AC.skip ?_
      change AC _ _ _ _
      refine AC.seq ?_
      refine AC.region ?_
      refine AO.op rfl (AOp.move rfl rfl (ltb rfl) rfl ?_)
      refine AO.op rfl (AOp.lenDs (n := x8.length) (cells := (List.map keS1 x8)) rfl rfl (ltb rfl) rfl el38 (by decide) (len1 _ _) ?_)
      refine AO.op rfl (AOp.move rfl rfl (ltb rfl) rfl ?_)
      refine AO.nil ?_
      change AC _ _ _ _
      obtain ⟨o11, l12, h1⟩ := bind_elim h1
      refine AC.joinE (V := Unit) [1, 2, 11, 12, 13] [] 0 (fun g13 => []) (fun g13 => []) (fun g13 => (p_Grid_k3 g4 (iter (p_Grid_l2 a0 a1 a2 F) n6)) g13 = some o1) rfl ?_ ?_
      · refine AC.block ?_
        refine AC.loopP (V := Int) (p_Grid_l4 a2 x8) o11 [1, 2, 11, 12, 13, 21, 22] [23] 0 (fun g15 => [(23, .d (di .i64 g15))]) (fun g15 => []) F (0 : Int) l12 rfl rfl (LeL.refl _) rfl rfl ?_
        intro n17 g15 h2
        unfold p_Grid_l4 at h2
        refine AC.seq ?_
        refine AC.region ?_
        refine AO.op rfl (AOp.ilss rfl rfl (ltb rfl) rfl rfl ?_)
        refine AO.nil ?_
        change AC _ _ _ _
        refine AC.seq ?_
        refine AC.cond rfl (fun q18 => ?_) (fun q18 => ?_)
        · replace h2 := cT h2 q18
          refine AC.skip ?_
          change AC _ _ _ _
          refine AC.seq ?_
          refine AC.block ?_
          refine AC.seq ?_
          refine AC.region ?_
          obtain ⟨x19, q20, h2⟩ := idx_elim h2
          refine AO.op rfl (AOp.indexDs (cells := (List.map keS1 x8)) rfl rfl (ltb rfl) rfl rfl el38 (by decide) q20.1 (lt1 q20.2) ?_)
          refine AO.op rfl (AOp.loadEp rfl rfl (ltb rfl) rfl agg22 (at1 q20.2) ?_)
          refine AO.op rfl (AOp.assign rfl rfl (ltb rfl) rfl ?_)
          refine AO.nil ?_
          change AC _ _ _ _
          refine AC.seq ?_
          refine AC.region ?_
          refine AO.op rfl (AOp.move rfl rfl (ltb rfl) rfl ?_)
          refine AO.op rfl (AOp.move rfl rfl (ltb rfl) rfl ?_)
          refine AO.op rfl (AOp.fneg rfl rfl (ltb rfl) rfl ?_)
          refine AO.op rfl (AOp.fgeq rfl rfl (ltb rfl) rfl rfl ?_)
          refine AO.op rfl (AOp.move rfl rfl (ltb rfl) rfl ?_)
          refine AO.dec (fge x19 (fneg a2)) (fun q21 => ?_) (fun q21 => ?_)
          · replace h2 := cT h2 q21
            refine AO.guardY rfl rfl rfl q21 (AOp.move rfl rfl (ltb rfl) rfl ?_)
            refine AO.guardY rfl rfl rfl q21 (AOp.move rfl rfl (ltb rfl) rfl ?_)
            refine AO.guardY rfl rfl rfl q21 (AOp.fleq rfl rfl (ltb rfl) rfl rfl ?_)
            refine AO.op rfl (AOp.pick rfl rfl (ltb rfl) rfl q21 rfl ?_)
            refine AO.op rfl (AOp.bnot rfl rfl (ltb rfl) rfl ?_)
            refine AO.op rfl (AOp.move rfl rfl (ltb rfl) rfl ?_)
            refine AO.dec (!(fle x19 a2)) (fun q22 => ?_) (fun q22 => ?_)
            · replace h2 := cT h2 q22
              refine AO.guardN rfl rfl rfl (ltb rfl) rfl q22 ?_
              refine AO.guardN rfl rfl rfl (ltb rfl) rfl q22 ?_
              refine AO.guardN rfl rfl rfl (ltb rfl) rfl q22 ?_
              refine AO.guardN rfl rfl rfl (ltb rfl) rfl q22 ?_
              refine AO.op rfl (AOp.pick rfl rfl (ltb rfl) rfl q22 rfl ?_)
              refine AO.nil ?_
              change AC _ _ _ _
              refine AC.condT rfl rfl ?_
              refine AC.seq ?_
              refine AC.region ?_
              refine AO.op rfl (AOp.assign rfl rfl (ltb rfl) rfl ?_)
              refine AO.nil ?_
              change AC _ _ _ _
              refine AC.ret ?_
              change RetQ _ _ _ .ret _
              obtain rfl := Option.some.inj h2
              replace h1 := aftR h1
              obtain rfl := Option.some.inj h1
              replace h0 := aftR h0
              obtain rfl := Option.some.inj h0
              refine retq rfl rfl
            replace h2 := cF h2 q22
            refine AO.guardY rfl rfl rfl q22 (AOp.move rfl rfl (ltb rfl) rfl ?_)
            refine AO.guardY rfl rfl rfl q22 (AOp.move rfl rfl (ltb rfl) rfl ?_)
            refine AO.guardY rfl rfl rfl q22 (AOp.callD rfl rfl (ltb rfl) rfl rfl (truncA x19) ?_)
            rintro _ ⟨z23, rfl, hz24⟩
            refine AO.guardY rfl rfl rfl q22 (AOp.fneq rfl rfl (ltb rfl) rfl rfl ?_)
            rw [hz24.feq]
            refine AO.op rfl (AOp.pickN rfl rfl (ltb rfl) rfl q22 rfl ?_)
            refine AO.nil ?_
            change AC _ _ _ _
            refine AC.cond rfl (fun q25 => ?_) (fun q25 => ?_)
            · replace h2 := cT h2 q25
              refine AC.seq ?_
              refine AC.region ?_
              refine AO.op rfl (AOp.assign rfl rfl (ltb rfl) rfl ?_)
              refine AO.nil ?_
              change AC _ _ _ _
              refine AC.ret ?_
              change RetQ _ _ _ .ret _
              obtain rfl := Option.some.inj h2
              replace h1 := aftR h1
              obtain rfl := Option.some.inj h1
              replace h0 := aftR h0
              obtain rfl := Option.some.inj h0
              refine retq rfl rfl
            replace h2 := cF h2 q25
            refine AC.skip ?_
            change AC _ _ _ _
            refine AC.region ?_
            obtain ⟨q26, h2⟩ := need_elim h2
            refine AO.op rfl (AOp.iadd rfl rfl (ltb rfl) rfl rfl rfl q26.1 q26.2 ?_)
            refine AO.op rfl (AOp.move rfl rfl (ltb rfl) rfl ?_)
            refine AO.nil ?_
            exact ⟨(g15 + (1 : Int)), _, rfl, (LeL.refl _), rfl, rfl, h2⟩
          replace h2 := cF h2 q21
          refine AO.guardN rfl rfl rfl (ltb rfl) rfl q21 ?_
          refine AO.guardN rfl rfl rfl (ltb rfl) rfl q21 ?_
          refine AO.guardN rfl rfl rfl (ltb rfl) rfl q21 ?_
          refine AO.op rfl (AOp.pickN rfl rfl (ltb rfl) rfl q21 rfl ?_)
          refine AO.op rfl (AOp.bnot rfl rfl (ltb rfl) rfl ?_)
          refine AO.op rfl (AOp.move rfl rfl (ltb rfl) rfl ?_)
          refine AO.guardN rfl rfl rfl (ltb rfl) rfl rfl ?_
          refine AO.guardN rfl rfl rfl (ltb rfl) rfl rfl ?_
          refine AO.guardN rfl rfl rfl (ltb rfl) rfl rfl ?_
          refine AO.guardN rfl rfl rfl (ltb rfl) rfl rfl ?_
          refine AO.op rfl (AOp.pick rfl rfl (ltb rfl) rfl rfl rfl ?_)
          refine AO.nil ?_
          change AC _ _ _ _
          refine AC.condT rfl rfl ?_
          refine AC.seq ?_
          refine AC.region ?_
          refine AO.op rfl (AOp.assign rfl rfl (ltb rfl) rfl ?_)
          refine AO.nil ?_
          change AC _ _ _ _
          refine AC.ret ?_
          change RetQ _ _ _ .ret _
          obtain rfl := Option.some.inj h2
          replace h1 := aftR h1
          obtain rfl := Option.some.inj h1
          replace h0 := aftR h0
          obtain rfl := Option.some.inj h0
          refine retq rfl rfl
        replace h2 := cF h2 q18
        refine AC.exit ?_
        obtain rfl := Option.some.inj h2
        exact ⟨(), _, rfl, (LeL.refl _), rfl, rfl, aftL h1⟩
      intro g13 h1
      unfold p_Grid_k3 at h1
      change AC _ _ _ _
      refine AC.region ?_
      obtain ⟨q14, h1⟩ := need_elim h1
      refine AO.op rfl (AOp.iadd rfl rfl (ltb rfl) rfl rfl rfl q14.1 q14.2 ?_)
      refine AO.op rfl (AOp.move rfl rfl (ltb rfl) rfl ?_)
      refine AO.nil ?_
      exact ⟨(g4 + (1 : Int)), _, rfl, (LeL.refl _), rfl, rfl, h1⟩
    replace h1 := cF h1 q7
    refine AC.exit ?_
    obtain rfl := Option.some.inj h1
    exact ⟨(), _, rfl, (LeL.refl _), rfl, rfl, aftL h0⟩
  intro g3 h0
  unfold p_Grid_k1 at h0
  change AC _ _ _ _
  refine AC.seq ?_
  refine AC.region ?_
  refine AO.op rfl (AOp.move rfl rfl (ltb rfl) rfl ?_)
  refine AO.op rfl (AOp.igtr rfl rfl (ltb rfl) rfl rfl ?_)
  refine AO.op rfl (AOp.assign rfl rfl (ltb rfl) rfl ?_)
  refine AO.nil ?_
  change AC _ _ _ _
  refine AC.ret ?_
  change RetQ _ _ _ .ret _
  obtain rfl := Option.some.inj h0
  refine retq rfl rfl

set_option maxRecDepth 100000 in
set_option maxHeartbeats 4000000 in
/-- pub-orthodrome/laws.entries -/
theorem w_entries (F : Nat) (a0 : (List TImpl_Mat)) (r0 : Bool) (h0 : p_entries F a0 = some r0) : FnD Tryd.prog 5 [eS0 a0] (fun r => r = dbool r0) := by
  refine FnD.of (by kernel_rfl) Tryd.func5 rfl Tryd.ntmps5 rfl (leb rfl) fun W ok => ?_
  unfold p_entries at h0
  refine AC.seq ?_
  refine AC.region ?_
  refine AO.op rfl (AOp.assign rfl rfl (ltb rfl) rfl ?_)
  refine AO.nil ?_
  change AC _ _ _ _
  refine AC.seq ?_
  refine AC.seq ?_
  refine AC.region ?_
  refine AO.op rfl (AOp.move rfl rfl (ltb rfl) rfl ?_)
  refine AO.op rfl (AOp.lenDs (n := a0.length) (cells := (List.flatMap c_TImpl_Mat a0)) rfl rfl (ltb rfl) rfl el36 (by decide) (lenN _ 9 (fun _ => rfl) _) ?_)
  refine AO.op rfl (AOp.move rfl rfl (ltb rfl) rfl ?_)
  refine AO.nil ?_
  change AC _ _ _ _
  obtain ⟨o1, l2, h0⟩ := bind_elim h0
  refine AC.joinE (V := Unit) [] [] 0 (fun g3 => []) (fun g3 => []) (fun g3 => p_entries_k1 g3 = some r0) rfl ?_ ?_
  · refine AC.block ?_
    refine AC.loopP (V := Int) (p_entries_l2 a0 F) o1 [5, 6] [7] 0 (fun g4 => [(7, .d (di .i64 g4))]) (fun g4 => []) F (0 : Int) l2 rfl rfl (LeL.refl _) rfl rfl ?_
    intro n6 g4 h1
    unfold p_entries_l2 at h1
    refine AC.seq ?_
    refine AC.region ?_
    refine AO.op rfl (AOp.ilss rfl rfl (ltb rfl) rfl rfl ?_)
    refine AO.nil ?_
    change AC _ _ _ _
    refine AC.seq ?_
    refine AC.cond rfl (fun q7 => ?_) (fun q7 => ?_)
    · replace h1 := cT h1 q7
      refine AC.skip ?_
      change AC _ _ _ _
      refine AC.seq ?_
      refine AC.block ?_
      refine AC.seq ?_
      refine AC.region ?_
      obtain ⟨x8, q9, h1⟩ := idx_elim h1
      refine AO.op rfl (AOp.indexDs (cells := (List.flatMap c_TImpl_Mat a0)) rfl rfl (ltb rfl) rfl rfl el36 (by decide) q9.1 (ltN 9 (fun _ => rfl) (by decide) q9.2) ?_)
      refine AO.op rfl (AOp.loadEpN rfl rfl (ltb rfl) rfl agg24 size24 (leN 9 (fun _ => rfl) q9.2) (atN 9 (fun _ => rfl) q9.2) ?_)
      refine AO.op rfl (AOp.alloc rfl rfl (ltb rfl) zero24 rfl ?_)
      refine AO.op rfl (AOp.store rfl rfl rfl rfl size24 rfl rfl rfl (leb rfl) ?_)
      refine AO.nil ?_
      change AC _ _ _ _
      refine AC.seq ?_
      refine AC.region ?_
      refine AO.op rfl (AOp.sliceArr rfl rfl (ltb rfl) rfl ar24 ⟨_, _, rfl⟩ ?_)
      obtain ⟨q10, h1⟩ := need_elim h1
      refine AO.freezeF (ds := (List.map keS1 [x8.e0, x8.e1, x8.e2, x8.e3, x8.e4, x8.e5, x8.e6, x8.e7, x8.e8])) 11 0 rfl rfl rfl (by rw [List.map_map]; rfl) (lenq q10 (len1 _ _)) (Nat.le_refl _) ?_
      refine AO.op rfl (AOp.buildSliceD rfl rfl (ltb rfl) el39 zero38 rfl (leb rfl) rfl rfl rfl rfl ?_)
      obtain ⟨y11, q12, h1⟩ := bind_elim h1
      refine AO.op rfl (AOp.callD rfl rfl (ltb rfl) rfl rfl (w_Grid F [[x8.e0, x8.e1, x8.e2, x8.e3, x8.e4, x8.e5, x8.e6, x8.e7, x8.e8]] (9 : Int) (4652218415073722368 : Nat) y11 q12) ?_)
      rintro _ rfl
      refine AO.op rfl (AOp.bnot rfl rfl (ltb rfl) rfl ?_)
      refine AO.nil ?_
      change AC _ _ _ _
      refine AC.cond rfl (fun q13 => ?_) (fun q13 => ?_)
      · replace h1 := cT h1 q13
        refine AC.seq ?_
        refine AC.region ?_
        refine AO.op rfl (AOp.assign rfl rfl (ltb rfl) rfl ?_)
        refine AO.nil ?_
        change AC _ _ _ _
        refine AC.ret ?_
        change RetQ _ _ _ .ret _
        obtain rfl := Option.some.inj h1
        replace h0 := aftR h0
        obtain rfl := Option.some.inj h0
        refine retq rfl rfl
      replace h1 := cF h1 q13
      refine AC.skip ?_
      change AC _ _ _ _
      refine AC.region ?_
      obtain ⟨q14, h1⟩ := need_elim h1
      refine AO.op rfl (AOp.iadd rfl rfl (ltb rfl) rfl rfl rfl q14.1 q14.2 ?_)
      refine AO.op rfl (AOp.move rfl rfl (ltb rfl) rfl ?_)
      refine AO.nil ?_
      exact ⟨(g4 + (1 : Int)), _, rfl, (LeL.refl _), rfl, rfl, h1⟩
    replace h1 := cF h1 q7
    refine AC.exit ?_
    obtain rfl := Option.some.inj h1
    exact ⟨(), _, rfl, (LeL.refl _), rfl, rfl, aftL h0⟩
  intro g3 h0
  unfold p_entries_k1 at h0
  change AC _ _ _ _
  refine AC.seq ?_
  refine AC.region ?_
  refine AO.op rfl (AOp.assign rfl rfl (ltb rfl) rfl ?_)
  refine AO.nil ?_
  change AC _ _ _ _
  refine AC.ret ?_
  change RetQ _ _ _ .ret _
  obtain rfl := Option.some.inj h0
  refine retq rfl rfl

set_option maxRecDepth 100000 in
set_option maxHeartbeats 4000000 in
/-- pub-orthodrome/impl.mat -/
theorem w_mat (a0 : TImpl_Mat) (r0 : TR3_Mat) (h0 : p_mat a0 = some r0) : FnD Tryd.prog 15 [e_TImpl_Mat a0] (fun r => r = .pt (c_TR3_Mat r0)) := by
  refine FnD.of (by kernel_rfl) Tryd.func15 rfl Tryd.ntmps15 rfl (leb rfl) fun W ok => ?_
  unfold p_mat at h0
  refine AC.seq ?_
  refine AC.region ?_
  refine AO.op rfl (AOp.box rfl rfl (ltb rfl) rfl rfl ?_)
  refine AO.op rfl (AOp.assign rfl rfl (ltb rfl) rfl ?_)
  refine AO.nil ?_
  change AC _ _ _ _
  refine AC.seq ?_
  refine AC.region ?_
  refine AO.op rfl (AOp.sliceArr rfl rfl (ltb rfl) rfl ar24 ⟨_, _, rfl⟩ ?_)
  refine AO.op rfl (AOp.inl [2] (by kernel_rfl) Tryd.func27 rfl Tryd.ntmps27 rfl rfl (ltb rfl) rfl (leb rfl) rfl ?_)
  intro fr1
  refine AC.seq ?_
  refine AC.region ?_
  refine AO.op rfl (AOp.assign rfl rfl (ltb rfl) rfl ?_)
  refine AO.nil ?_
  change AC _ _ _ _
  refine AC.seq ?_
  refine AC.region ?_
  refine AO.op rfl (AOp.move rfl rfl (ltb rfl) rfl ?_)
  obtain ⟨q2, h0⟩ := need_elim h0
  refine AO.freezeF (ds := (List.map keS1 [a0.e0, a0.e1, a0.e2, a0.e3, a0.e4, a0.e5, a0.e6, a0.e7, a0.e8])) 3 0 rfl rfl rfl (by rw [List.map_map]; rfl) (lenq q2 (len1 _ _)) (Nat.le_refl _) ?_
  obtain ⟨q3, h0⟩ := need_elim h0
  refine AO.op rfl (AOp.appendNew (m := [a0.e0, a0.e1, a0.e2, a0.e3, a0.e4, a0.e5, a0.e6, a0.e7, a0.e8].length) (news := (List.map keS1 [a0.e0, a0.e1, a0.e2, a0.e3, a0.e4, a0.e5, a0.e6, a0.e7, a0.e8])) rfl rfl (ltb rfl) rfl rfl el38 info22 rfl (by decide) (len1 _ _) (one1 _ (fun _ => rfl) _) (small63 q3) (small q3 (by decide)) ?_)
  refine AO.op rfl (AOp.assign rfl rfl (ltb rfl) rfl ?_)
  refine AO.nil ?_
  change AC _ _ _ _
  refine AC.ret ?_
  refine inlret (ob' := [.dead, .dead, .grow 22 1 (List.map keS1 [a0.e0, a0.e1, a0.e2, a0.e3, a0.e4, a0.e5, a0.e6, a0.e7, a0.e8])]) (e' := [(2, .d (.v (.pointer none)))]) (r := .own 2) rfl rfl rfl ?_
  change AO _ _ _ _ _
  refine AO.op rfl (AOp.inl [2] (by kernel_rfl) Tryd.func26 rfl Tryd.ntmps26 rfl rfl (ltb rfl) rfl (leb rfl) rfl ?_)
  intro fr4
  refine AC.seq ?_
  refine AC.region ?_
  refine AO.op rfl (AOp.assign rfl rfl (ltb rfl) rfl ?_)
  refine AO.nil ?_
  change AC _ _ _ _
  refine AC.seq ?_
  refine AC.seq ?_
  refine AC.region ?_
  refine AO.op rfl (AOp.move rfl rfl (ltb rfl) rfl ?_)
  refine AO.op rfl (AOp.lenOwn (cells := (List.map keS1 [a0.e0, a0.e1, a0.e2, a0.e3, a0.e4, a0.e5, a0.e6, a0.e7, a0.e8])) (n := 9) rfl rfl (ltb rfl) rfl el38 rfl (by decide) rfl ?_)
  refine AO.op rfl (AOp.ieql rfl rfl (ltb rfl) rfl rfl ?_)
  refine AO.nil ?_
  change AC _ _ _ _
  refine AC.condT rfl rfl ?_
  refine AC.seq ?_
  refine AC.region ?_
  refine AO.op rfl (AOp.move rfl rfl (ltb rfl) rfl ?_)
  refine AO.op rfl (AOp.inl [2] (by kernel_rfl) Tryd.func31 rfl Tryd.ntmps31 rfl rfl (ltb rfl) rfl (leb rfl) rfl ?_)
  intro fr5
  refine AC.seq ?_
  refine AC.region ?_
  refine AO.op rfl (AOp.assign rfl rfl (ltb rfl) rfl ?_)
  refine AO.nil ?_
  change AC _ _ _ _
  refine AC.seq ?_
  refine AC.region ?_
  refine AO.op rfl (AOp.move rfl rfl (ltb rfl) rfl ?_)
  refine AO.freezeG 2 rfl rfl rfl ?_
  refine AO.op rfl (AOp.arrPtr (cells := (List.map keS1 [a0.e0, a0.e1, a0.e2, a0.e3, a0.e4, a0.e5, a0.e6, a0.e7, a0.e8])) rfl rfl (ltb rfl) rfl ar61 rfl (by decide) (by decide) ?_)
  refine AO.op rfl (AOp.assign rfl rfl (ltb rfl) rfl ?_)
  refine AO.nil ?_
  change AC _ _ _ _
  refine AC.ret ?_
  refine inlret (ob' := [.dead, .dead, .dead, .frame fr4 [(2, .d (.v (.pointer none)))], .dead]) (e' := [(2, .d (.v (.pointer none)))]) (r := .d (.pt (c_TImpl_Mat a0))) rfl rfl rfl ?_
  change AO _ _ _ _ _
  refine AO.op rfl (AOp.build rfl rfl (ltb rfl) zero51 rfl places51 rfl rfl ?_)
  refine AO.op rfl (AOp.box rfl rfl (ltb rfl) rfl rfl ?_)
  refine AO.op rfl (AOp.assign rfl rfl (ltb rfl) rfl ?_)
  refine AO.objs (obs' := [.dead, .dead, .dead, .frame fr4 [(2, .d (.v (.pointer none)))], .dead, .fix 51 [.d (.pt (c_TImpl_Mat a0))]]) rfl ?_
  refine AO.nil ?_
  change AC _ _ _ _
  refine AC.ret ?_
  refine inlret (ob' := [.dead, .dead, .dead, .dead, .dead, .fix 51 [.d (.pt (c_TImpl_Mat a0))]]) (e' := [(2, .d (.v (.pointer none)))]) (r := .ptr 5 0) rfl rfl rfl ?_
  change AO _ _ _ _ _
  refine AO.op rfl (AOp.assign rfl rfl (ltb rfl) rfl ?_)
  refine AO.objs (obs' := [.dead, .dead, .dead, .dead, .dead, .fix 51 [.d (.pt (c_TImpl_Mat a0))]]) rfl ?_
  refine AO.nil ?_
  change AC _ _ _ _
  refine AC.ret ?_
  change RetQ _ _ _ .ret _
  obtain rfl := Option.some.inj h0
  refine retq rfl rfl

set_option maxRecDepth 100000 in
set_option maxHeartbeats 4000000 in
/-- (*pub-orthodrome/pub/gonum/spatial/r3.Mat).At -/
theorem w_Mat_At (a0 : TR3_Mat) (a1 : Int) (a2 : Int) (r0 : Nat) (h0 : p_Mat_At a0 a1 a2 = some r0) : FnD Tryd.prog 28 [.pt (c_TR3_Mat a0), di .i64 a1, di .i64 a2] (fun r => r = dfl r0) := by
  refine FnD.of (by kernel_rfl) Tryd.func28 rfl Tryd.ntmps28 rfl (leb rfl) fun W ok => ?_
  unfold p_Mat_At at h0
  refine AC.seq ?_
  refine AC.region ?_
  refine AO.op rfl (AOp.assign rfl rfl (ltb rfl) rfl ?_)
  refine AO.nil ?_
  change AC _ _ _ _
  refine AC.seq ?_
  refine AC.seq ?_
  refine AC.region ?_
  refine AO.op rfl (AOp.move rfl rfl (ltb rfl) rfl ?_)
  refine AO.op rfl (AOp.i2i rfl rfl (ltb rfl) rfl Tryd.underlying3 Tryd.underlying67 rfl ?_)
  refine AO.op rfl (AOp.igtr rfl rfl (ltb rfl) rfl rfl ?_)
  refine AO.nil ?_
  change AC _ _ _ _
  refine AC.cond rfl (fun q1 => ?_) (fun q1 => ?_)
  · replace h0 := cT h0 q1
    refine AC.region ?_
    cases h0
  replace h0 := cF h0 q1
  refine AC.skip ?_
  change AC _ _ _ _
  refine AC.seq ?_
  refine AC.seq ?_
  refine AC.region ?_
  refine AO.op rfl (AOp.move rfl rfl (ltb rfl) rfl ?_)
  refine AO.op rfl (AOp.i2i rfl rfl (ltb rfl) rfl Tryd.underlying3 Tryd.underlying67 rfl ?_)
  refine AO.op rfl (AOp.igtr rfl rfl (ltb rfl) rfl rfl ?_)
  refine AO.nil ?_
  change AC _ _ _ _
  refine AC.cond rfl (fun q2 => ?_) (fun q2 => ?_)
  · replace h0 := cT h0 q2
    refine AC.region ?_
    cases h0
  replace h0 := cF h0 q2
  refine AC.skip ?_
  change AC _ _ _ _
  refine AC.seq ?_
  refine AC.seq ?_
  refine AC.region ?_
  refine AO.op rfl (AOp.move rfl rfl (ltb rfl) rfl ?_)
  refine AO.op rfl (AOp.nilCheck rfl rfl (ltb rfl) rfl rfl ?_)
  refine AO.op rfl (AOp.fieldAddrPt rfl rfl (ltb rfl) rfl fo51_0 ?_)
  refine AO.op rfl (AOp.loadEp rfl rfl (ltb rfl) rfl agg49 rfl ?_)
  refine AO.op rfl (AOp.ptrNilEql rfl rfl (ltb rfl) rfl rfl pmeth49 ?_)
  refine AO.nil ?_
  change AC _ _ _ _
  refine AC.condF rfl rfl ?_
  refine AC.skip ?_
  change AC _ _ _ _
  refine AC.seq ?_
  refine AC.region ?_
  refine AO.op rfl (AOp.move rfl rfl (ltb rfl) rfl ?_)
  refine AO.op rfl (AOp.nilCheck rfl rfl (ltb rfl) rfl rfl ?_)
  refine AO.op rfl (AOp.fieldAddrPt rfl rfl (ltb rfl) rfl fo51_0 ?_)
  refine AO.op rfl (AOp.loadEp rfl rfl (ltb rfl) rfl agg49 rfl ?_)
  refine AO.op rfl (AOp.move rfl rfl (ltb rfl) rfl ?_)
  obtain ⟨q3, h0⟩ := need_elim h0
  refine AO.op rfl (AOp.imul rfl rfl (ltb rfl) rfl rfl rfl q3.1 q3.2 ?_)
  refine AO.op rfl (AOp.move rfl rfl (ltb rfl) rfl ?_)
  obtain ⟨q4, h0⟩ := need_elim h0
  refine AO.op rfl (AOp.iadd rfl rfl (ltb rfl) rfl rfl rfl q4.1 q4.2 ?_)
  refine AO.op rfl (AOp.nilCheck rfl rfl (ltb rfl) rfl rfl ?_)
  obtain ⟨x5, q6, h0⟩ := idx_elim h0
  refine AO.op rfl (AOp.indexArrD (cells := (List.map keS1 [a0.data.e0, a0.data.e1, a0.data.e2, a0.data.e3, a0.data.e4, a0.data.e5, a0.data.e6, a0.data.e7, a0.data.e8])) rfl rfl (ltb rfl) rfl rfl ar61 q6.1 (arr_lt q6.1 q6.2 rfl) ?_)
  refine AO.op rfl (AOp.loadEp rfl rfl (ltb rfl) rfl agg22 (at1 q6.2) ?_)
  refine AO.op rfl (AOp.assign rfl rfl (ltb rfl) rfl ?_)
  refine AO.nil ?_
  change AC _ _ _ _
  refine AC.ret ?_
  change RetQ _ _ _ .ret _
  obtain rfl := Option.some.inj h0
  refine retq rfl rfl

set_option maxRecDepth 100000 in
set_option maxHeartbeats 4000000 in
/-- (*pub-orthodrome/pub/gonum/spatial/r3.Mat).VecRow -/
theorem w_Mat_VecRow (a0 : TR3_Mat) (a1 : Int) (r0 : TImpl_P3) (h0 : p_Mat_VecRow a0 a1 = some r0) : FnD Tryd.prog 16 [.pt (c_TR3_Mat a0), di .i64 a1] (fun r => r = e_TImpl_P3 r0) := by
  refine FnD.of (by kernel_rfl) Tryd.func16 rfl Tryd.ntmps16 rfl (leb rfl) fun W ok => ?_
  unfold p_Mat_VecRow at h0
  refine AC.seq ?_
  refine AC.region ?_
  refine AO.op rfl (AOp.alloc rfl rfl (ltb rfl) zero41 rfl ?_)
  refine AO.nil ?_
  change AC _ _ _ _
  refine AC.seq ?_
  refine AC.seq ?_
  refine AC.region ?_
  refine AO.op rfl (AOp.move rfl rfl (ltb rfl) rfl ?_)
  refine AO.op rfl (AOp.igtr rfl rfl (ltb rfl) rfl rfl ?_)
  refine AO.nil ?_
  change AC _ _ _ _
  refine AC.cond rfl (fun q1 => ?_) (fun q1 => ?_)
  · replace h0 := cT h0 q1
    refine AC.region ?_
    cases h0
  replace h0 := cF h0 q1
  refine AC.skip ?_
  change AC _ _ _ _
  refine AC.seq ?_
  refine AC.seq ?_
  refine AC.region ?_
  refine AO.op rfl (AOp.move rfl rfl (ltb rfl) rfl ?_)
  refine AO.op rfl (AOp.nilCheck rfl rfl (ltb rfl) rfl rfl ?_)
  refine AO.op rfl (AOp.fieldAddrPt rfl rfl (ltb rfl) rfl fo51_0 ?_)
  refine AO.op rfl (AOp.loadEp rfl rfl (ltb rfl) rfl agg49 rfl ?_)
  refine AO.op rfl (AOp.ptrNilEql rfl rfl (ltb rfl) rfl rfl pmeth49 ?_)
  refine AO.nil ?_
  change AC _ _ _ _
  refine AC.condF rfl rfl ?_
  refine AC.skip ?_
  change AC _ _ _ _
  refine AC.seq ?_
  refine AC.region ?_
  refine AO.op rfl (AOp.move rfl rfl (ltb rfl) rfl ?_)
  refine AO.op rfl (AOp.move rfl rfl (ltb rfl) rfl ?_)
  obtain ⟨y2, q3, h0⟩ := bind_elim h0
  refine AO.op rfl (AOp.callD rfl rfl (ltb rfl) rfl rfl (w_Mat_At a0 a1 (0 : Int) y2 q3) ?_)
  rintro _ rfl
  refine AO.op rfl (AOp.move rfl rfl (ltb rfl) rfl ?_)
  refine AO.op rfl (AOp.move rfl rfl (ltb rfl) rfl ?_)
  obtain ⟨y4, q5, h0⟩ := bind_elim h0
  refine AO.op rfl (AOp.callD rfl rfl (ltb rfl) rfl rfl (w_Mat_At a0 a1 (1 : Int) y4 q5) ?_)
  rintro _ rfl
  refine AO.op rfl (AOp.move rfl rfl (ltb rfl) rfl ?_)
  refine AO.op rfl (AOp.move rfl rfl (ltb rfl) rfl ?_)
  obtain ⟨y6, q7, h0⟩ := bind_elim h0
  refine AO.op rfl (AOp.callD rfl rfl (ltb rfl) rfl rfl (w_Mat_At a0 a1 (2 : Int) y6 q7) ?_)
  rintro _ rfl
  refine AO.op rfl (AOp.build rfl rfl (ltb rfl) zero41 rfl places41 rfl rfl ?_)
  refine AO.op rfl (AOp.store rfl rfl rfl rfl size41 rfl rfl rfl (leb rfl) ?_)
  refine AO.nil ?_
  change AC _ _ _ _
  refine AC.ret ?_
  change RetQ _ _ _ .ret _
  obtain rfl := Option.some.inj h0
  refine retq rfl rfl

set_option maxRecDepth 100000 in
set_option maxHeartbeats 4000000 in
/-- pub-orthodrome/impl.plainP3 -/
theorem w_plainP3 (a0 : TImpl_P3) (r0 : TImpl_P3) (h0 : p_plainP3 a0 = some r0) : FnD Tryd.prog 14 [e_TImpl_P3 a0] (fun r => r = e_TImpl_P3 r0) := by
  refine FnD.of (by kernel_rfl) Tryd.func14 rfl Tryd.ntmps14 rfl (leb rfl) fun W ok => ?_
  unfold p_plainP3 at h0
  refine AC.seq ?_
  refine AC.region ?_
  refine AO.op rfl (AOp.box rfl rfl (ltb rfl) rfl rfl ?_)
  refine AO.op rfl (AOp.alloc rfl rfl (ltb rfl) zero27 rfl ?_)
  refine AO.nil ?_
  change AC _ _ _ _
  refine AC.seq ?_
  refine AC.region ?_
  refine AO.op rfl (AOp.fieldAddr rfl rfl (ltb rfl) rfl fo41_0 ?_)
  refine AO.op rfl (AOp.load1 rfl rfl (ltb rfl) rfl agg22 rfl rfl ?_)
  refine AO.op rfl (AOp.fieldAddr rfl rfl (ltb rfl) rfl fo41_1 ?_)
  refine AO.op rfl (AOp.load1 rfl rfl (ltb rfl) rfl agg22 rfl rfl ?_)
  refine AO.op rfl (AOp.fieldAddr rfl rfl (ltb rfl) rfl fo41_2 ?_)
  refine AO.op rfl (AOp.load1 rfl rfl (ltb rfl) rfl agg22 rfl rfl ?_)
  refine AO.op rfl (AOp.build rfl rfl (ltb rfl) zero27 rfl places27 rfl rfl ?_)
  refine AO.op rfl (AOp.store rfl rfl rfl rfl size27 rfl rfl rfl (leb rfl) ?_)
  refine AO.nil ?_
  change AC _ _ _ _
  refine AC.ret ?_
  change RetQ _ _ _ .ret _
  obtain rfl := Option.some.inj h0
  refine retq rfl rfl

set_option maxRecDepth 100000 in
set_option maxHeartbeats 4000000 in
/-- pub-orthodrome/impl.MatRow -/
theorem w_MatRow_in (a0 : TImpl_Mat) (a1 : Int) (r0 : (TImpl_P3 × Bool)) (h0 : p_MatRow_in a0 a1 = some r0) : FnD Tryd.prog 6 [e_TImpl_Mat a0, di .i64 a1] (fun r => r = .tu [e_TImpl_P3 r0.1, dbool r0.2]) := by
  refine FnD.wrap (g := 13) (m := 2) (fun vs w h => idle13 vs w h) (by kernel_rfl) Tryd.func6 rfl Tryd.ntmps6 rfl (leb rfl) fun W ok => ?_
  unfold p_MatRow_in at h0
  refine AW.seq ?_
  refine AC.region ?_
  refine AO.op rfl (AOp.box rfl rfl (ltb rfl) rfl rfl ?_)
  refine AO.op rfl (AOp.alloc rfl rfl (ltb rfl) zero27 rfl ?_)
  refine AO.op rfl (AOp.alloc rfl rfl (ltb rfl) zero4 rfl ?_)
  refine AO.nil ?_
  refine ⟨rfl, ?_⟩
  refine AW.defer (caps := [.tmp 4, .tmp 5]) rfl rfl rfl (ltb rfl) rfl rfl rfl rfl (by kernel_rfl) rfl fun df => ?_
  refine AC.seq ?_
  refine AC.region ?_
  refine AO.op rfl (AOp.loadN rfl rfl (ltb rfl) rfl agg24 size24 rfl (leb rfl) rfl ?_)
  obtain ⟨y1, q2, h0⟩ := bind_elim h0
  refine AO.op rfl (AOp.callD rfl rfl (ltb rfl) rfl rfl (w_mat a0 y1 q2) ?_)
  rintro _ rfl
  refine AO.op rfl (AOp.move rfl rfl (ltb rfl) rfl ?_)
  obtain ⟨y3, q4, h0⟩ := bind_elim h0
  refine AO.op rfl (AOp.callD rfl rfl (ltb rfl) rfl rfl (w_Mat_VecRow y1 a1 y3 q4) ?_)
  rintro _ rfl
  obtain ⟨y5, q6, h0⟩ := bind_elim h0
  refine AO.op rfl (AOp.callD rfl rfl (ltb rfl) rfl rfl (w_plainP3 y3 y5 q6) ?_)
  rintro _ rfl
  refine AO.op rfl (AOp.store rfl rfl rfl rfl size27 rfl rfl rfl (leb rfl) ?_)
  refine AO.op rfl (AOp.store rfl rfl rfl rfl size4 rfl rfl rfl (leb rfl) ?_)
  refine AO.nil ?_
  change AC _ _ _ _
  refine AC.ret ?_
  change RetQ _ _ _ .ret _
  obtain rfl := Option.some.inj h0
  refine retq rfl rfl

set_option maxRecDepth 100000 in
/-- (*pub-orthodrome/pub/gonum/spatial/r3.Mat).At: it panics. -/
theorem wp_Mat_At (a0 : TR3_Mat) (a1 : Int) (a2 : Int) (h0 : pp_Mat_At a0 a1 a2 = some ()) : FnP Tryd.prog 28 [.pt (c_TR3_Mat a0), di .i64 a1, di .i64 a2] := by
  refine FnP.of (by kernel_rfl) Tryd.func28 rfl Tryd.ntmps28 (leb rfl) fun W ok => ?_
  unfold pp_Mat_At at h0
  refine AC.seq ?_
  refine AC.region ?_
  refine AO.op rfl (AOp.assign rfl rfl (ltb rfl) rfl ?_)
  refine AO.nil ?_
  change AC _ _ _ _
  refine AC.seq ?_
  refine AC.seq ?_
  refine AC.region ?_
  refine AO.op rfl (AOp.move rfl rfl (ltb rfl) rfl ?_)
  refine AO.op rfl (AOp.i2i rfl rfl (ltb rfl) rfl Tryd.underlying3 Tryd.underlying67 rfl ?_)
  refine AO.op rfl (AOp.igtr rfl rfl (ltb rfl) rfl rfl ?_)
  refine AO.nil ?_
  change AC _ _ _ _
  refine AC.cond rfl (fun q1 => ?_) (fun q1 => ?_)
  · replace h0 := cT h0 q1
    refine AC.region ?_
    refine AO.op rfl (AOp.loadG1 (v := .string ⟨#[109, 97, 116, 58, 32, 114, 111, 119, 32, 105, 110, 100, 101, 120, 32, 111, 117, 116, 32, 111, 102, 32, 114, 97, 110, 103, 101]⟩) rfl rfl (ltb rfl) rfl agg59 size59 (by simp [Globs]) ?_)
    refine AO.op rfl (AOp.makeIfc rfl rfl (ltb rfl) rfl conc59 ?_)
    refine AO.op rfl (AOp.panic rfl rfl ?_)
    intro ch hch
    exact hch
  replace h0 := cF h0 q1
  refine AC.skip ?_
  change AC _ _ _ _
  refine AC.seq ?_
  refine AC.seq ?_
  refine AC.region ?_
  refine AO.op rfl (AOp.move rfl rfl (ltb rfl) rfl ?_)
  refine AO.op rfl (AOp.i2i rfl rfl (ltb rfl) rfl Tryd.underlying3 Tryd.underlying67 rfl ?_)
  refine AO.op rfl (AOp.igtr rfl rfl (ltb rfl) rfl rfl ?_)
  refine AO.nil ?_
  change AC _ _ _ _
  refine AC.cond rfl (fun q2 => ?_) (fun q2 => ?_)
  · replace h0 := cT h0 q2
    refine AC.region ?_
    refine AO.op rfl (AOp.loadG1 (v := .string ⟨#[109, 97, 116, 58, 32, 99, 111, 108, 117, 109, 110, 32, 105, 110, 100, 101, 120, 32, 111, 117, 116, 32, 111, 102, 32, 114, 97, 110, 103, 101]⟩) rfl rfl (ltb rfl) rfl agg59 size59 (by simp [Globs]) ?_)
    refine AO.op rfl (AOp.makeIfc rfl rfl (ltb rfl) rfl conc59 ?_)
    refine AO.op rfl (AOp.panic rfl rfl ?_)
    intro ch hch
    exact hch
  replace h0 := cF h0 q2
  refine AC.skip ?_
  change AC _ _ _ _
  refine AC.seq ?_
  refine AC.seq ?_
  refine AC.region ?_
  refine AO.op rfl (AOp.move rfl rfl (ltb rfl) rfl ?_)
  refine AO.op rfl (AOp.nilCheck rfl rfl (ltb rfl) rfl rfl ?_)
  refine AO.op rfl (AOp.fieldAddrPt rfl rfl (ltb rfl) rfl fo51_0 ?_)
  refine AO.op rfl (AOp.loadEp rfl rfl (ltb rfl) rfl agg49 rfl ?_)
  refine AO.op rfl (AOp.ptrNilEql rfl rfl (ltb rfl) rfl rfl pmeth49 ?_)
  refine AO.nil ?_
  change AC _ _ _ _
  refine AC.condF rfl rfl ?_
  refine AC.skip ?_
  change AC _ _ _ _
  refine AC.seq ?_
  refine AC.region ?_
  refine AO.op rfl (AOp.move rfl rfl (ltb rfl) rfl ?_)
  refine AO.op rfl (AOp.nilCheck rfl rfl (ltb rfl) rfl rfl ?_)
  refine AO.op rfl (AOp.fieldAddrPt rfl rfl (ltb rfl) rfl fo51_0 ?_)
  refine AO.op rfl (AOp.loadEp rfl rfl (ltb rfl) rfl agg49 rfl ?_)
  refine AO.op rfl (AOp.move rfl rfl (ltb rfl) rfl ?_)
  obtain ⟨q3, h0⟩ := need_elim h0
  refine AO.op rfl (AOp.imul rfl rfl (ltb rfl) rfl rfl rfl q3.1 q3.2 ?_)
  refine AO.op rfl (AOp.move rfl rfl (ltb rfl) rfl ?_)
  obtain ⟨q4, h0⟩ := need_elim h0
  refine AO.op rfl (AOp.iadd rfl rfl (ltb rfl) rfl rfl rfl q4.1 q4.2 ?_)
  refine AO.op rfl (AOp.nilCheck rfl rfl (ltb rfl) rfl rfl ?_)
  obtain ⟨x5, q6, h0⟩ := idx_elim h0
  refine AO.op rfl (AOp.indexArrD (cells := (List.map keS1 [a0.data.e0, a0.data.e1, a0.data.e2, a0.data.e3, a0.data.e4, a0.data.e5, a0.data.e6, a0.data.e7, a0.data.e8])) rfl rfl (ltb rfl) rfl rfl ar61 q6.1 (arr_lt q6.1 q6.2 rfl) ?_)
  refine AO.op rfl (AOp.loadEp rfl rfl (ltb rfl) rfl agg22 (at1 q6.2) ?_)
  refine AO.op rfl (AOp.assign rfl rfl (ltb rfl) rfl ?_)
  refine AO.nil ?_
  change AC _ _ _ _
  cases h0

set_option maxRecDepth 100000 in
/-- (*pub-orthodrome/pub/gonum/spatial/r3.Mat).VecRow: it panics. -/
theorem wp_Mat_VecRow (a0 : TR3_Mat) (a1 : Int) (h0 : pp_Mat_VecRow a0 a1 = some ()) : FnP Tryd.prog 16 [.pt (c_TR3_Mat a0), di .i64 a1] := by
  refine FnP.of (by kernel_rfl) Tryd.func16 rfl Tryd.ntmps16 (leb rfl) fun W ok => ?_
  unfold pp_Mat_VecRow at h0
  refine AC.seq ?_
  refine AC.region ?_
  refine AO.op rfl (AOp.alloc rfl rfl (ltb rfl) zero41 rfl ?_)
  refine AO.nil ?_
  change AC _ _ _ _
  refine AC.seq ?_
  refine AC.seq ?_
  refine AC.region ?_
  refine AO.op rfl (AOp.move rfl rfl (ltb rfl) rfl ?_)
  refine AO.op rfl (AOp.igtr rfl rfl (ltb rfl) rfl rfl ?_)
  refine AO.nil ?_
  change AC _ _ _ _
  refine AC.cond rfl (fun q1 => ?_) (fun q1 => ?_)
  · replace h0 := cT h0 q1
    refine AC.region ?_
    refine AO.op rfl (AOp.loadG1 (v := .string ⟨#[109, 97, 116, 58, 32, 114, 111, 119, 32, 105, 110, 100, 101, 120, 32, 111, 117, 116, 32, 111, 102, 32, 114, 97, 110, 103, 101]⟩) rfl rfl (ltb rfl) rfl agg59 size59 (by simp [Globs]) ?_)
    refine AO.op rfl (AOp.makeIfc rfl rfl (ltb rfl) rfl conc59 ?_)
    refine AO.op rfl (AOp.panic rfl rfl ?_)
    intro ch hch
    exact hch
  replace h0 := cF h0 q1
  refine AC.skip ?_
  change AC _ _ _ _
  refine AC.seq ?_
  refine AC.seq ?_
  refine AC.region ?_
  refine AO.op rfl (AOp.move rfl rfl (ltb rfl) rfl ?_)
  refine AO.op rfl (AOp.nilCheck rfl rfl (ltb rfl) rfl rfl ?_)
  refine AO.op rfl (AOp.fieldAddrPt rfl rfl (ltb rfl) rfl fo51_0 ?_)
  refine AO.op rfl (AOp.loadEp rfl rfl (ltb rfl) rfl agg49 rfl ?_)
  refine AO.op rfl (AOp.ptrNilEql rfl rfl (ltb rfl) rfl rfl pmeth49 ?_)
  refine AO.nil ?_
  change AC _ _ _ _
  refine AC.condF rfl rfl ?_
  refine AC.skip ?_
  change AC _ _ _ _
  refine AC.seq ?_
  refine AC.region ?_
  refine AO.op rfl (AOp.move rfl rfl (ltb rfl) rfl ?_)
  refine AO.op rfl (AOp.move rfl rfl (ltb rfl) rfl ?_)
  refine AO.op rfl (AOp.callP rfl rfl rfl (wp_Mat_At a0 a1 (0 : Int) h0) ?_)
  intro ch hch
  exact hch

set_option maxRecDepth 100000 in
/-- pub-orthodrome/impl.MatRow: it panics, and recovers. -/
theorem wc_MatRow (a0 : TImpl_Mat) (a1 : Int) (h0 : pp_MatRow a0 a1 = some ()) : FnD Tryd.prog 6 [e_TImpl_Mat a0, di .i64 a1] (fun r => r = .tu [e_TImpl_P3 (TImpl_P3.mk (0 : Nat) (0 : Nat) (0 : Nat)), dbool false]) := by
  refine FnD.catch (g := 13) (d0 := 2) (d1 := 3) (by kernel_rfl) Tryd.func6 rfl Tryd.ntmps6 rfl (leb rfl) (by kernel_rfl) Tryd.func13 rfl Tryd.ntmps13 rfl (ltb rfl) (ltb rfl) (fun a w => rfl) rfl rfl (fun a w t u h => run_neqNil rfl imeth20 h) rfl rfl fun W ok => ?_
  unfold pp_MatRow at h0
  refine AWP.seq ?_
  refine AC.region ?_
  refine AO.op rfl (AOp.box rfl rfl (ltb rfl) rfl rfl ?_)
  refine AO.op rfl (AOp.alloc rfl rfl (ltb rfl) zero27 rfl ?_)
  refine AO.op rfl (AOp.alloc rfl rfl (ltb rfl) zero4 rfl ?_)
  refine AO.nil ?_
  refine ⟨rfl, ?_⟩
  refine AWP.defer (caps := [.tmp 4, .tmp 5]) rfl rfl rfl (ltb rfl) rfl rfl rfl rfl rfl (fun cv hcv => ?_) rfl
  refine AC.seq ?_
  refine AC.region ?_
  refine AO.op rfl (AOp.loadN rfl rfl (ltb rfl) rfl agg24 size24 rfl (leb rfl) rfl ?_)
  obtain ⟨y1, q2, h0⟩ := bind_elim h0
  refine AO.op rfl (AOp.callD rfl rfl (ltb rfl) rfl rfl (w_mat a0 y1 q2) ?_)
  rintro _ rfl
  refine AO.op rfl (AOp.move rfl rfl (ltb rfl) rfl ?_)
  refine AO.op rfl (AOp.callP rfl rfl rfl (wp_Mat_VecRow y1 a1 h0) ?_)
  intro ch hch
  refine ⟨hch, 3, _, rfl, ⟨hcv, leb rfl⟩, fun tm => ?_⟩
  refine AC.condT rfl rfl ?_
  refine AC.region ?_
  refine AO.op rfl (AOp.build rfl rfl (ltb rfl) zero27 rfl places27 rfl rfl ?_)
  refine AO.op rfl (AOp.store rfl rfl rfl rfl size27 rfl rfl rfl (leb rfl) ?_)
  refine AO.op rfl (AOp.store rfl rfl rfl rfl size4 rfl rfl rfl (leb rfl) ?_)
  refine AO.nil ?_
  exact ⟨_, _, rfl, rfl, rfl⟩
/-- pub-orthodrome/impl.MatRow -/
theorem w_MatRow (a0 : TImpl_Mat) (a1 : Int) (r0 : (TImpl_P3 × Bool)) (h0 : p_MatRow a0 a1 = some r0) : FnD Tryd.prog 6 [e_TImpl_Mat a0, di .i64 a1] (fun r => r = .tu [e_TImpl_P3 r0.1, dbool r0.2]) := by
  unfold p_MatRow at h0
  cases hp : (pp_MatRow a0 a1).isSome with
  | false => exact w_MatRow_in a0 a1 r0 (cF h0 hp)
  | true =>
    have h1 := cT h0 hp
    obtain rfl := Option.some.inj h1
    refine wc_MatRow a0 a1 ?_
    cases hq : pp_MatRow a0 a1 with
    | none => rw [hq] at hp; cases hp
    | some x => rfl

set_option maxRecDepth 100000 in
set_option maxHeartbeats 4000000 in
/-- (*pub-orthodrome/pub/gonum/spatial/r3.Mat).VecCol -/
theorem w_Mat_VecCol (a0 : TR3_Mat) (a1 : Int) (r0 : TImpl_P3) (h0 : p_Mat_VecCol a0 a1 = some r0) : FnD Tryd.prog 18 [.pt (c_TR3_Mat a0), di .i64 a1] (fun r => r = e_TImpl_P3 r0) := by
  refine FnD.of (by kernel_rfl) Tryd.func18 rfl Tryd.ntmps18 rfl (leb rfl) fun W ok => ?_
  unfold p_Mat_VecCol at h0
  refine AC.seq ?_
  refine AC.region ?_
  refine AO.op rfl (AOp.alloc rfl rfl (ltb rfl) zero41 rfl ?_)
  refine AO.nil ?_
  change AC _ _ _ _
  refine AC.seq ?_
  refine AC.seq ?_
  refine AC.region ?_
  refine AO.op rfl (AOp.move rfl rfl (ltb rfl) rfl ?_)
  refine AO.op rfl (AOp.igtr rfl rfl (ltb rfl) rfl rfl ?_)
  refine AO.nil ?_
  change AC _ _ _ _
  refine AC.cond rfl (fun q1 => ?_) (fun q1 => ?_)
  · replace h0 := cT h0 q1
    refine AC.region ?_
    cases h0
  replace h0 := cF h0 q1
  refine AC.skip ?_
  change AC _ _ _ _
  refine AC.seq ?_
  refine AC.seq ?_
  refine AC.region ?_
  refine AO.op rfl (AOp.move rfl rfl (ltb rfl) rfl ?_)
  refine AO.op rfl (AOp.nilCheck rfl rfl (ltb rfl) rfl rfl ?_)
  refine AO.op rfl (AOp.fieldAddrPt rfl rfl (ltb rfl) rfl fo51_0 ?_)
  refine AO.op rfl (AOp.loadEp rfl rfl (ltb rfl) rfl agg49 rfl ?_)
  refine AO.op rfl (AOp.ptrNilEql rfl rfl (ltb rfl) rfl rfl pmeth49 ?_)
  refine AO.nil ?_
  change AC _ _ _ _
  refine AC.condF rfl rfl ?_
  refine AC.skip ?_
  change AC _ _ _ _
  refine AC.seq ?_
  refine AC.region ?_
  refine AO.op rfl (AOp.move rfl rfl (ltb rfl) rfl ?_)
  refine AO.op rfl (AOp.move rfl rfl (ltb rfl) rfl ?_)
  obtain ⟨y2, q3, h0⟩ := bind_elim h0
  refine AO.op rfl (AOp.callD rfl rfl (ltb rfl) rfl rfl (w_Mat_At a0 (0 : Int) a1 y2 q3) ?_)
  rintro _ rfl
  refine AO.op rfl (AOp.move rfl rfl (ltb rfl) rfl ?_)
  refine AO.op rfl (AOp.move rfl rfl (ltb rfl) rfl ?_)
  obtain ⟨y4, q5, h0⟩ := bind_elim h0
  refine AO.op rfl (AOp.callD rfl rfl (ltb rfl) rfl rfl (w_Mat_At a0 (1 : Int) a1 y4 q5) ?_)
  rintro _ rfl
  refine AO.op rfl (AOp.move rfl rfl (ltb rfl) rfl ?_)
  refine AO.op rfl (AOp.move rfl rfl (ltb rfl) rfl ?_)
  obtain ⟨y6, q7, h0⟩ := bind_elim h0
  refine AO.op rfl (AOp.callD rfl rfl (ltb rfl) rfl rfl (w_Mat_At a0 (2 : Int) a1 y6 q7) ?_)
  rintro _ rfl
  refine AO.op rfl (AOp.build rfl rfl (ltb rfl) zero41 rfl places41 rfl rfl ?_)
  refine AO.op rfl (AOp.store rfl rfl rfl rfl size41 rfl rfl rfl (leb rfl) ?_)
  refine AO.nil ?_
  change AC _ _ _ _
  refine AC.ret ?_
  change RetQ _ _ _ .ret _
  obtain rfl := Option.some.inj h0
  refine retq rfl rfl

set_option maxRecDepth 100000 in
set_option maxHeartbeats 4000000 in
/-- pub-orthodrome/impl.MatCol -/
theorem w_MatCol_in (a0 : TImpl_Mat) (a1 : Int) (r0 : (TImpl_P3 × Bool)) (h0 : p_MatCol_in a0 a1 = some r0) : FnD Tryd.prog 7 [e_TImpl_Mat a0, di .i64 a1] (fun r => r = .tu [e_TImpl_P3 r0.1, dbool r0.2]) := by
  refine FnD.wrap (g := 17) (m := 2) (fun vs w h => idle17 vs w h) (by kernel_rfl) Tryd.func7 rfl Tryd.ntmps7 rfl (leb rfl) fun W ok => ?_
  unfold p_MatCol_in at h0
  refine AW.seq ?_
  refine AC.region ?_
  refine AO.op rfl (AOp.box rfl rfl (ltb rfl) rfl rfl ?_)
  refine AO.op rfl (AOp.alloc rfl rfl (ltb rfl) zero27 rfl ?_)
  refine AO.op rfl (AOp.alloc rfl rfl (ltb rfl) zero4 rfl ?_)
  refine AO.nil ?_
  refine ⟨rfl, ?_⟩
  refine AW.defer (caps := [.tmp 4, .tmp 5]) rfl rfl rfl (ltb rfl) rfl rfl rfl rfl (by kernel_rfl) rfl fun df => ?_
  refine AC.seq ?_
  refine AC.region ?_
  refine AO.op rfl (AOp.loadN rfl rfl (ltb rfl) rfl agg24 size24 rfl (leb rfl) rfl ?_)
  obtain ⟨y1, q2, h0⟩ := bind_elim h0
  refine AO.op rfl (AOp.callD rfl rfl (ltb rfl) rfl rfl (w_mat a0 y1 q2) ?_)
  rintro _ rfl
  refine AO.op rfl (AOp.move rfl rfl (ltb rfl) rfl ?_)
  obtain ⟨y3, q4, h0⟩ := bind_elim h0
  refine AO.op rfl (AOp.callD rfl rfl (ltb rfl) rfl rfl (w_Mat_VecCol y1 a1 y3 q4) ?_)
  rintro _ rfl
  obtain ⟨y5, q6, h0⟩ := bind_elim h0
  refine AO.op rfl (AOp.callD rfl rfl (ltb rfl) rfl rfl (w_plainP3 y3 y5 q6) ?_)
  rintro _ rfl
  refine AO.op rfl (AOp.store rfl rfl rfl rfl size27 rfl rfl rfl (leb rfl) ?_)
  refine AO.op rfl (AOp.store rfl rfl rfl rfl size4 rfl rfl rfl (leb rfl) ?_)
  refine AO.nil ?_
  change AC _ _ _ _
  refine AC.ret ?_
  change RetQ _ _ _ .ret _
  obtain rfl := Option.some.inj h0
  refine retq rfl rfl

set_option maxRecDepth 100000 in
/-- (*pub-orthodrome/pub/gonum/spatial/r3.Mat).VecCol: it panics. -/
theorem wp_Mat_VecCol (a0 : TR3_Mat) (a1 : Int) (h0 : pp_Mat_VecCol a0 a1 = some ()) : FnP Tryd.prog 18 [.pt (c_TR3_Mat a0), di .i64 a1] := by
  refine FnP.of (by kernel_rfl) Tryd.func18 rfl Tryd.ntmps18 (leb rfl) fun W ok => ?_
  unfold pp_Mat_VecCol at h0
  refine AC.seq ?_
  refine AC.region ?_
  refine AO.op rfl (AOp.alloc rfl rfl (ltb rfl) zero41 rfl ?_)
  refine AO.nil ?_
  change AC _ _ _ _
  refine AC.seq ?_
  refine AC.seq ?_
  refine AC.region ?_
  refine AO.op rfl (AOp.move rfl rfl (ltb rfl) rfl ?_)
  refine AO.op rfl (AOp.igtr rfl rfl (ltb rfl) rfl rfl ?_)
  refine AO.nil ?_
  change AC _ _ _ _
  refine AC.cond rfl (fun q1 => ?_) (fun q1 => ?_)
  · replace h0 := cT h0 q1
    refine AC.region ?_
    refine AO.op rfl (AOp.loadG1 (v := .string ⟨#[109, 97, 116, 58, 32, 99, 111, 108, 117, 109, 110, 32, 105, 110, 100, 101, 120, 32, 111, 117, 116, 32, 111, 102, 32, 114, 97, 110, 103, 101]⟩) rfl rfl (ltb rfl) rfl agg59 size59 (by simp [Globs]) ?_)
    refine AO.op rfl (AOp.makeIfc rfl rfl (ltb rfl) rfl conc59 ?_)
    refine AO.op rfl (AOp.panic rfl rfl ?_)
    intro ch hch
    exact hch
  replace h0 := cF h0 q1
  refine AC.skip ?_
  change AC _ _ _ _
  refine AC.seq ?_
  refine AC.seq ?_
  refine AC.region ?_
  refine AO.op rfl (AOp.move rfl rfl (ltb rfl) rfl ?_)
  refine AO.op rfl (AOp.nilCheck rfl rfl (ltb rfl) rfl rfl ?_)
  refine AO.op rfl (AOp.fieldAddrPt rfl rfl (ltb rfl) rfl fo51_0 ?_)
  refine AO.op rfl (AOp.loadEp rfl rfl (ltb rfl) rfl agg49 rfl ?_)
  refine AO.op rfl (AOp.ptrNilEql rfl rfl (ltb rfl) rfl rfl pmeth49 ?_)
  refine AO.nil ?_
  change AC _ _ _ _
  refine AC.condF rfl rfl ?_
  refine AC.skip ?_
  change AC _ _ _ _
  refine AC.seq ?_
  refine AC.region ?_
  refine AO.op rfl (AOp.move rfl rfl (ltb rfl) rfl ?_)
  refine AO.op rfl (AOp.move rfl rfl (ltb rfl) rfl ?_)
  refine AO.op rfl (AOp.callP rfl rfl rfl (wp_Mat_At a0 (0 : Int) a1 h0) ?_)
  intro ch hch
  exact hch

set_option maxRecDepth 100000 in
/-- pub-orthodrome/impl.MatCol: it panics, and recovers. -/
theorem wc_MatCol (a0 : TImpl_Mat) (a1 : Int) (h0 : pp_MatCol a0 a1 = some ()) : FnD Tryd.prog 7 [e_TImpl_Mat a0, di .i64 a1] (fun r => r = .tu [e_TImpl_P3 (TImpl_P3.mk (0 : Nat) (0 : Nat) (0 : Nat)), dbool false]) := by
  refine FnD.catch (g := 17) (d0 := 2) (d1 := 3) (by kernel_rfl) Tryd.func7 rfl Tryd.ntmps7 rfl (leb rfl) (by kernel_rfl) Tryd.func17 rfl Tryd.ntmps17 rfl (ltb rfl) (ltb rfl) (fun a w => rfl) rfl rfl (fun a w t u h => run_neqNil rfl imeth20 h) rfl rfl fun W ok => ?_
  unfold pp_MatCol at h0
  refine AWP.seq ?_
  refine AC.region ?_
  refine AO.op rfl (AOp.box rfl rfl (ltb rfl) rfl rfl ?_)
  refine AO.op rfl (AOp.alloc rfl rfl (ltb rfl) zero27 rfl ?_)
  refine AO.op rfl (AOp.alloc rfl rfl (ltb rfl) zero4 rfl ?_)
  refine AO.nil ?_
  refine ⟨rfl, ?_⟩
  refine AWP.defer (caps := [.tmp 4, .tmp 5]) rfl rfl rfl (ltb rfl) rfl rfl rfl rfl rfl (fun cv hcv => ?_) rfl
  refine AC.seq ?_
  refine AC.region ?_
  refine AO.op rfl (AOp.loadN rfl rfl (ltb rfl) rfl agg24 size24 rfl (leb rfl) rfl ?_)
  obtain ⟨y1, q2, h0⟩ := bind_elim h0
  refine AO.op rfl (AOp.callD rfl rfl (ltb rfl) rfl rfl (w_mat a0 y1 q2) ?_)
  rintro _ rfl
  refine AO.op rfl (AOp.move rfl rfl (ltb rfl) rfl ?_)
  refine AO.op rfl (AOp.callP rfl rfl rfl (wp_Mat_VecCol y1 a1 h0) ?_)
  intro ch hch
  refine ⟨hch, 3, _, rfl, ⟨hcv, leb rfl⟩, fun tm => ?_⟩
  refine AC.condT rfl rfl ?_
  refine AC.region ?_
  refine AO.op rfl (AOp.build rfl rfl (ltb rfl) zero27 rfl places27 rfl rfl ?_)
  refine AO.op rfl (AOp.store rfl rfl rfl rfl size27 rfl rfl rfl (leb rfl) ?_)
  refine AO.op rfl (AOp.store rfl rfl rfl rfl size4 rfl rfl rfl (leb rfl) ?_)
  refine AO.nil ?_
  exact ⟨_, _, rfl, rfl, rfl⟩
/-- pub-orthodrome/impl.MatCol -/
theorem w_MatCol (a0 : TImpl_Mat) (a1 : Int) (r0 : (TImpl_P3 × Bool)) (h0 : p_MatCol a0 a1 = some r0) : FnD Tryd.prog 7 [e_TImpl_Mat a0, di .i64 a1] (fun r => r = .tu [e_TImpl_P3 r0.1, dbool r0.2]) := by
  unfold p_MatCol at h0
  cases hp : (pp_MatCol a0 a1).isSome with
  | false => exact w_MatCol_in a0 a1 r0 (cF h0 hp)
  | true =>
    have h1 := cT h0 hp
    obtain rfl := Option.some.inj h1
    refine wc_MatCol a0 a1 ?_
    cases hq : pp_MatCol a0 a1 with
    | none => rw [hq] at hp; cases hp
    | some x => rfl

set_option maxRecDepth 100000 in
set_option maxHeartbeats 4000000 in
/-- pub-orthodrome/laws.FnMatLines -/
theorem w_FnMatLines (F : Nat) (a0 : TImpl_Mat) (a1 : Int) (r0 : Bool) (h0 : p_FnMatLines F a0 a1 = some r0) : FnD Tryd.prog 3 [e_TImpl_Mat a0, di .i64 a1] (fun r => r = dbool r0) := by
  refine FnD.of (by kernel_rfl) Tryd.func3 rfl Tryd.ntmps3 rfl (leb rfl) fun W ok => ?_
  unfold p_FnMatLines at h0
  refine AC.seq ?_
  refine AC.region ?_
  refine AO.op rfl (AOp.box rfl rfl (ltb rfl) rfl rfl ?_)
  refine AO.op rfl (AOp.assign rfl rfl (ltb rfl) rfl ?_)
  refine AO.nil ?_
  change AC _ _ _ _
  refine AC.seq ?_
  refine AC.seq ?_
  refine AC.region ?_
  refine AO.op rfl (AOp.loadN rfl rfl (ltb rfl) rfl agg24 size24 rfl (leb rfl) rfl ?_)
  refine AO.op rfl (AOp.buildSliceD rfl rfl (ltb rfl) el36 zero24 rfl (leb rfl) rfl rfl rfl rfl ?_)
  obtain ⟨y1, q2, h0⟩ := bind_elim h0
  refine AO.op rfl (AOp.callD rfl rfl (ltb rfl) rfl rfl (w_entries F [a0] y1 q2) ?_)
  rintro _ rfl
  refine AO.op rfl (AOp.bnot rfl rfl (ltb rfl) rfl ?_)
  refine AO.nil ?_
  change AC _ _ _ _
  refine AC.cond rfl (fun q3 => ?_) (fun q3 => ?_)
  · replace h0 := cT h0 q3
    refine AC.seq ?_
    refine AC.region ?_
    refine AO.op rfl (AOp.assign rfl rfl (ltb rfl) rfl ?_)
    refine AO.nil ?_
    change AC _ _ _ _
    refine AC.ret ?_
    change RetQ _ _ _ .ret _
    obtain rfl := Option.some.inj h0
    refine retq rfl rfl
  replace h0 := cF h0 q3
  refine AC.skip ?_
  change AC _ _ _ _
  refine AC.seq ?_
  refine AC.region ?_
  refine AO.op rfl (AOp.loadN rfl rfl (ltb rfl) rfl agg24 size24 rfl (leb rfl) rfl ?_)
  refine AO.op rfl (AOp.move rfl rfl (ltb rfl) rfl ?_)
  obtain ⟨y4, q5, h0⟩ := bind_elim h0
  refine AO.op rfl (AOp.callD rfl rfl (ltb rfl) rfl rfl (w_MatRow a0 a1 y4 q5) ?_)
  rintro _ rfl
  refine AO.op rfl (AOp.move rfl rfl (ltb rfl) rfl ?_)
  first | refine AO.op rfl (AOp.extractD rfl rfl (ltb rfl) rfl rfl ?_) | refine AO.op rfl (AOp.extract rfl rfl (ltb rfl) rfl rfl ?_)
  first | refine AO.op rfl (AOp.extractD rfl rfl (ltb rfl) rfl rfl ?_) | refine AO.op rfl (AOp.extract rfl rfl (ltb rfl) rfl rfl ?_)
  refine AO.op rfl (AOp.alloc rfl rfl (ltb rfl) zero27 rfl ?_)
  refine AO.op rfl (AOp.store rfl rfl rfl rfl size27 rfl rfl rfl (leb rfl) ?_)
  refine AO.op rfl (AOp.assign rfl rfl (ltb rfl) rfl ?_)
  refine AO.nil ?_
  change AC _ _ _ _
  refine AC.seq ?_
  refine AC.region ?_
  refine AO.op rfl (AOp.loadN rfl rfl (ltb rfl) rfl agg24 size24 rfl (leb rfl) rfl ?_)
  refine AO.op rfl (AOp.move rfl rfl (ltb rfl) rfl ?_)
  obtain ⟨y6, q7, h0⟩ := bind_elim h0
  refine AO.op rfl (AOp.callD rfl rfl (ltb rfl) rfl rfl (w_MatCol a0 a1 y6 q7) ?_)
  rintro _ rfl
  refine AO.op rfl (AOp.move rfl rfl (ltb rfl) rfl ?_)
  first | refine AO.op rfl (AOp.extractD rfl rfl (ltb rfl) rfl rfl ?_) | refine AO.op rfl (AOp.extract rfl rfl (ltb rfl) rfl rfl ?_)
  first | refine AO.op rfl (AOp.extractD rfl rfl (ltb rfl) rfl rfl ?_) | refine AO.op rfl (AOp.extract rfl rfl (ltb rfl) rfl rfl ?_)
  refine AO.op rfl (AOp.alloc rfl rfl (ltb rfl) zero27 rfl ?_)
  refine AO.op rfl (AOp.store rfl rfl rfl rfl size27 rfl rfl rfl (leb rfl) ?_)
  refine AO.op rfl (AOp.assign rfl rfl (ltb rfl) rfl ?_)
  refine AO.nil ?_
  change AC _ _ _ _
  refine AC.seq ?_
  refine AC.joinP (V := Bool) [1, 2, 5, 6, 7, 8] [30] 3 (fun g8 => [(30, .d (dbool g8))]) (fun g8 => [.fix 24 [.d (dfl a0.e0), .d (dfl a0.e1), .d (dfl a0.e2), .d (dfl a0.e3), .d (dfl a0.e4), .d (dfl a0.e5), .d (dfl a0.e6), .d (dfl a0.e7), .d (dfl a0.e8)], .fix 27 [.d (dfl y4.1.X), .d (dfl y4.1.Y), .d (dfl y4.1.Z)], .fix 27 [.d (dfl y6.1.X), .d (dfl y6.1.Y), .d (dfl y6.1.Z)]]) (fun g8 => (p_FnMatLines_k1 a0 a1 y4 y6) g8 = some r0) rfl ?_ ?_
  · refine AC.region ?_
    refine AO.op rfl (AOp.move rfl rfl (ltb rfl) rfl ?_)
    refine AO.op rfl (AOp.ilss rfl rfl (ltb rfl) rfl rfl ?_)
    refine AO.op rfl (AOp.move rfl rfl (ltb rfl) rfl ?_)
    refine AO.dec (decide (a1 < (0 : Int))) (fun q40 => ?_) (fun q40 => ?_)
    · replace h0 := cT h0 q40
      refine AO.guardN rfl rfl rfl (ltb rfl) rfl q40 ?_
      refine AO.guardN rfl rfl rfl (ltb rfl) rfl q40 ?_
      refine AO.op rfl (AOp.pick rfl rfl (ltb rfl) rfl q40 rfl ?_)
      refine AO.nil ?_
      exact ⟨true, _, rfl, (LeL.refl _), rfl, rfl, h0⟩
    replace h0 := cF h0 q40
    refine AO.guardY rfl rfl rfl q40 (AOp.move rfl rfl (ltb rfl) rfl ?_)
    refine AO.guardY rfl rfl rfl q40 (AOp.igtr rfl rfl (ltb rfl) rfl rfl ?_)
    refine AO.op rfl (AOp.pickN rfl rfl (ltb rfl) rfl q40 rfl ?_)
    refine AO.nil ?_
    exact ⟨(decide ((2 : Int) < a1)), _, rfl, (LeL.refl _), rfl, rfl, h0⟩
  intro g8 h0
  unfold p_FnMatLines_k1 at h0
  refine AC.cond rfl (fun q9 => ?_) (fun q9 => ?_)
  · replace h0 := cT h0 q9
    refine AC.joinP (V := Bool) [] [4] 3 (fun g10 => [(4, .d (dbool g10))]) (fun g10 => [.fix 24 [.d (dfl a0.e0), .d (dfl a0.e1), .d (dfl a0.e2), .d (dfl a0.e3), .d (dfl a0.e4), .d (dfl a0.e5), .d (dfl a0.e6), .d (dfl a0.e7), .d (dfl a0.e8)], .fix 27 [.d (dfl y4.1.X), .d (dfl y4.1.Y), .d (dfl y4.1.Z)], .fix 27 [.d (dfl y6.1.X), .d (dfl y6.1.Y), .d (dfl y6.1.Z)]]) (fun g10 => p_FnMatLines_k2 g10 = some r0) rfl ?_ ?_
    · refine AC.region ?_
      refine AO.op rfl (AOp.move rfl rfl (ltb rfl) rfl ?_)
      refine AO.op rfl (AOp.bnot rfl rfl (ltb rfl) rfl ?_)
      refine AO.op rfl (AOp.move rfl rfl (ltb rfl) rfl ?_)
      refine AO.dec (!y4.2) (fun q11 => ?_) (fun q11 => ?_)
      · replace h0 := cT h0 q11
        refine AO.guardY rfl rfl rfl q11 (AOp.move rfl rfl (ltb rfl) rfl ?_)
        refine AO.guardY rfl rfl rfl q11 (AOp.bnot rfl rfl (ltb rfl) rfl ?_)
        refine AO.op rfl (AOp.pick rfl rfl (ltb rfl) rfl q11 rfl ?_)
        refine AO.op rfl (AOp.assign rfl rfl (ltb rfl) rfl ?_)
        refine AO.nil ?_
        exact ⟨(!y6.2), _, rfl, (LeL.refl _), rfl, rfl, h0⟩
      replace h0 := cF h0 q11
      refine AO.guardN rfl rfl rfl (ltb rfl) rfl q11 ?_
      refine AO.guardN rfl rfl rfl (ltb rfl) rfl q11 ?_
      refine AO.op rfl (AOp.pickN rfl rfl (ltb rfl) rfl q11 rfl ?_)
      refine AO.op rfl (AOp.assign rfl rfl (ltb rfl) rfl ?_)
      refine AO.nil ?_
      exact ⟨false, _, rfl, (LeL.refl _), rfl, rfl, h0⟩
    intro g10 h0
    unfold p_FnMatLines_k2 at h0
    refine AC.ret ?_
    change RetQ _ _ _ .ret _
    obtain rfl := Option.some.inj h0
    refine retq rfl rfl
  replace h0 := cF h0 q9
  refine AC.skip ?_
  change AC _ _ _ _
  refine AC.seq ?_
  refine AC.draw 40 mixed (by kernel_rfl) ?_
  refine AD.op [6] rfl (by kernel_rfl) rfl rfl (fun _ _ h => AOp.move rfl rfl (ltb rfl) rfl h) ?_
  refine AD.op [37] rfl (by kernel_rfl) rfl rfl (fun _ _ h => AOp.move rfl rfl (ltb rfl) rfl h) ?_
  refine AD.dec y4.2 (fun q12 => ?_) (fun q12 => ?_)
  · replace h0 := cT h0 q12
    refine AD.opY [8, 38] rfl rfl rfl q12 (by kernel_rfl) rfl rfl (fun _ _ h => AOp.move rfl rfl (ltb rfl) rfl h) ?_
    refine AD.op [38, 39] rfl (by kernel_rfl) rfl rfl (fun _ _ h => AOp.pick rfl rfl (ltb rfl) rfl q12 rfl h) ?_
    refine AD.op [40] rfl (by kernel_rfl) rfl rfl (fun _ _ h => AOp.move rfl rfl (ltb rfl) rfl h) ?_
    refine AD.dec y6.2 (fun q13 => ?_) (fun q13 => ?_)
    · replace h0 := cT h0 q13
      refine AD.opY [5, 41] rfl rfl rfl q13 (by kernel_rfl) rfl rfl (fun _ _ h => AOp.loadN rfl rfl (ltb rfl) rfl agg27 size27 rfl (leb rfl) rfl h) ?_
      refine AD.opY [1, 41] rfl rfl rfl q13 (by kernel_rfl) rfl rfl (fun _ _ h => AOp.move rfl rfl (ltb rfl) rfl h) ?_
      obtain ⟨q14, h0⟩ := need_elim h0
      refine AD.opY [41, 43] rfl rfl rfl q13 (by kernel_rfl) rfl rfl (fun _ _ h => AOp.imul rfl rfl (ltb rfl) rfl rfl rfl q14.1 q14.2 h) ?_
      obtain ⟨q15, h0⟩ := need_elim h0
      refine AD.opY [2, 41, 44] rfl rfl rfl q13 (by kernel_rfl) rfl rfl (fun _ _ h => AOp.indexArrO rfl rfl (ltb rfl) rfl rfl ar24 q15.1 q15.2 rfl h) ?_
      obtain ⟨x16, q17, h0⟩ := idx_elim h0
      refine AD.opY [41, 45] rfl rfl rfl q13 (by kernel_rfl) rfl rfl (fun _ _ h => AOp.load1 rfl rfl (ltb rfl) rfl agg22 rfl (atO (f := fun z => SV.d (keS1 z)) q17.2) h) ?_
      refine AD.opY [1, 41] rfl rfl rfl q13 (by kernel_rfl) rfl rfl (fun _ _ h => AOp.move rfl rfl (ltb rfl) rfl h) ?_
      obtain ⟨q18, h0⟩ := need_elim h0
      refine AD.opY [41, 47] rfl rfl rfl q13 (by kernel_rfl) rfl rfl (fun _ _ h => AOp.imul rfl rfl (ltb rfl) rfl rfl rfl q18.1 q18.2 h) ?_
      obtain ⟨q19, h0⟩ := need_elim h0
      refine AD.opY [41, 48] rfl rfl rfl q13 (by kernel_rfl) rfl rfl (fun _ _ h => AOp.iadd rfl rfl (ltb rfl) rfl rfl rfl q19.1 q19.2 h) ?_
      obtain ⟨q20, h0⟩ := need_elim h0
      refine AD.opY [2, 41, 49] rfl rfl rfl q13 (by kernel_rfl) rfl rfl (fun _ _ h => AOp.indexArrO rfl rfl (ltb rfl) rfl rfl ar24 q20.1 q20.2 rfl h) ?_
      obtain ⟨x21, q22, h0⟩ := idx_elim h0
      refine AD.opY [41, 50] rfl rfl rfl q13 (by kernel_rfl) rfl rfl (fun _ _ h => AOp.load1 rfl rfl (ltb rfl) rfl agg22 rfl (atO (f := fun z => SV.d (keS1 z)) q22.2) h) ?_
      refine AD.opY [1, 41] rfl rfl rfl q13 (by kernel_rfl) rfl rfl (fun _ _ h => AOp.move rfl rfl (ltb rfl) rfl h) ?_
      obtain ⟨q23, h0⟩ := need_elim h0
      refine AD.opY [41, 52] rfl rfl rfl q13 (by kernel_rfl) rfl rfl (fun _ _ h => AOp.imul rfl rfl (ltb rfl) rfl rfl rfl q23.1 q23.2 h) ?_
      obtain ⟨q24, h0⟩ := need_elim h0
      refine AD.opY [41, 53] rfl rfl rfl q13 (by kernel_rfl) rfl rfl (fun _ _ h => AOp.iadd rfl rfl (ltb rfl) rfl rfl rfl q24.1 q24.2 h) ?_
      obtain ⟨q25, h0⟩ := need_elim h0
      refine AD.opY [2, 41, 54] rfl rfl rfl q13 (by kernel_rfl) rfl rfl (fun _ _ h => AOp.indexArrO rfl rfl (ltb rfl) rfl rfl ar24 q25.1 q25.2 rfl h) ?_
      obtain ⟨x26, q27, h0⟩ := idx_elim h0
      refine AD.opY [41, 55] rfl rfl rfl q13 (by kernel_rfl) rfl rfl (fun _ _ h => AOp.load1 rfl rfl (ltb rfl) rfl agg22 rfl (atO (f := fun z => SV.d (keS1 z)) q27.2) h) ?_
      refine AD.opY [41, 46, 51, 56] rfl rfl rfl q13 (by kernel_rfl) rfl rfl (fun _ _ h => AOp.build rfl rfl (ltb rfl) zero27 rfl places27 rfl rfl h) ?_
      refine AD.opY [41, 42, 57] rfl rfl rfl q13 (by kernel_rfl) rfl rfl (fun _ _ h => AOp.seql (n := 9) rfl rfl (ltb rfl) rfl rfl agg27 eg27 (by decide) (eq27 _ _ _ _ _ _) h) ?_
      refine AD.op [41, 58] rfl (by kernel_rfl) rfl rfl (fun _ _ h => AOp.pick rfl rfl (ltb rfl) rfl q13 rfl h) ?_
      refine AD.op [59] rfl (by kernel_rfl) rfl rfl (fun _ _ h => AOp.move rfl rfl (ltb rfl) rfl h) ?_
      refine AD.dec (feq y4.1.X x16 && (feq y4.1.Y x21 && (feq y4.1.Z x26 && true))) (fun q28 => ?_) (fun q28 => ?_)
      · replace h0 := cT h0 q28
        refine AD.opY [7, 60] rfl rfl rfl q28 (by kernel_rfl) rfl rfl (fun _ _ h => AOp.loadN rfl rfl (ltb rfl) rfl agg27 size27 rfl (leb rfl) rfl h) ?_
        refine AD.opY [1, 60] rfl rfl rfl q28 (by kernel_rfl) rfl rfl (fun _ _ h => AOp.move rfl rfl (ltb rfl) rfl h) ?_
        obtain ⟨q29, h0⟩ := need_elim h0
        refine AD.opY [2, 60, 62] rfl rfl rfl q28 (by kernel_rfl) rfl rfl (fun _ _ h => AOp.indexArrO rfl rfl (ltb rfl) rfl rfl ar24 q29.1 q29.2 rfl h) ?_
        obtain ⟨x30, q31, h0⟩ := idx_elim h0
        refine AD.opY [60, 63] rfl rfl rfl q28 (by kernel_rfl) rfl rfl (fun _ _ h => AOp.load1 rfl rfl (ltb rfl) rfl agg22 rfl (atO (f := fun z => SV.d (keS1 z)) q31.2) h) ?_
        refine AD.opY [1, 60] rfl rfl rfl q28 (by kernel_rfl) rfl rfl (fun _ _ h => AOp.move rfl rfl (ltb rfl) rfl h) ?_
        obtain ⟨q32, h0⟩ := need_elim h0
        refine AD.opY [60, 65] rfl rfl rfl q28 (by kernel_rfl) rfl rfl (fun _ _ h => AOp.iadd rfl rfl (ltb rfl) rfl rfl rfl q32.1 q32.2 h) ?_
        obtain ⟨q33, h0⟩ := need_elim h0
        refine AD.opY [2, 60, 66] rfl rfl rfl q28 (by kernel_rfl) rfl rfl (fun _ _ h => AOp.indexArrO rfl rfl (ltb rfl) rfl rfl ar24 q33.1 q33.2 rfl h) ?_
        obtain ⟨x34, q35, h0⟩ := idx_elim h0
        refine AD.opY [60, 67] rfl rfl rfl q28 (by kernel_rfl) rfl rfl (fun _ _ h => AOp.load1 rfl rfl (ltb rfl) rfl agg22 rfl (atO (f := fun z => SV.d (keS1 z)) q35.2) h) ?_
        refine AD.opY [1, 60] rfl rfl rfl q28 (by kernel_rfl) rfl rfl (fun _ _ h => AOp.move rfl rfl (ltb rfl) rfl h) ?_
        obtain ⟨q36, h0⟩ := need_elim h0
        refine AD.opY [60, 69] rfl rfl rfl q28 (by kernel_rfl) rfl rfl (fun _ _ h => AOp.iadd rfl rfl (ltb rfl) rfl rfl rfl q36.1 q36.2 h) ?_
        obtain ⟨q37, h0⟩ := need_elim h0
        refine AD.opY [2, 60, 70] rfl rfl rfl q28 (by kernel_rfl) rfl rfl (fun _ _ h => AOp.indexArrO rfl rfl (ltb rfl) rfl rfl ar24 q37.1 q37.2 rfl h) ?_
        obtain ⟨x38, q39, h0⟩ := idx_elim h0
        refine AD.opY [60, 71] rfl rfl rfl q28 (by kernel_rfl) rfl rfl (fun _ _ h => AOp.load1 rfl rfl (ltb rfl) rfl agg22 rfl (atO (f := fun z => SV.d (keS1 z)) q39.2) h) ?_
        refine AD.opY [60, 64, 68, 72] rfl rfl rfl q28 (by kernel_rfl) rfl rfl (fun _ _ h => AOp.build rfl rfl (ltb rfl) zero27 rfl places27 rfl rfl h) ?_
        refine AD.opY [60, 61, 73] rfl rfl rfl q28 (by kernel_rfl) rfl rfl (fun _ _ h => AOp.seql (n := 9) rfl rfl (ltb rfl) rfl rfl agg27 eg27 (by decide) (eq27 _ _ _ _ _ _) h) ?_
        refine AD.op [60, 74] rfl (by kernel_rfl) rfl rfl (fun _ _ h => AOp.pick rfl rfl (ltb rfl) rfl q28 rfl h) ?_
        refine AD.op [75] rfl (by kernel_rfl) rfl rfl (fun _ _ h => AOp.assign rfl rfl (ltb rfl) rfl h) ?_
        refine AD.done ?_
        refine AO.nil ?_
        change AC _ _ _ _
        refine AC.ret ?_
        change RetQ _ _ _ .ret _
        obtain rfl := Option.some.inj h0
        refine retq rfl rfl
      replace h0 := cF h0 q28
      refine AD.opN rfl rfl rfl (ltb rfl) rfl q28 ?_
      refine AD.opN rfl rfl rfl (ltb rfl) rfl q28 ?_
      refine AD.opN rfl rfl rfl (ltb rfl) rfl q28 ?_
      refine AD.opN rfl rfl rfl (ltb rfl) rfl q28 ?_
      refine AD.opN rfl rfl rfl (ltb rfl) rfl q28 ?_
      refine AD.opN rfl rfl rfl (ltb rfl) rfl q28 ?_
      refine AD.opN rfl rfl rfl (ltb rfl) rfl q28 ?_
      refine AD.opN rfl rfl rfl (ltb rfl) rfl q28 ?_
      refine AD.opN rfl rfl rfl (ltb rfl) rfl q28 ?_
      refine AD.opN rfl rfl rfl (ltb rfl) rfl q28 ?_
      refine AD.opN rfl rfl rfl (ltb rfl) rfl q28 ?_
      refine AD.opN rfl rfl rfl (ltb rfl) rfl q28 ?_
      refine AD.opN rfl rfl rfl (ltb rfl) rfl q28 ?_
      refine AD.opN rfl rfl rfl (ltb rfl) rfl q28 ?_
      refine AD.op [60, 74] rfl (by kernel_rfl) rfl rfl (fun _ _ h => AOp.pickN rfl rfl (ltb rfl) rfl q28 rfl h) ?_
      refine AD.op [75] rfl (by kernel_rfl) rfl rfl (fun _ _ h => AOp.assign rfl rfl (ltb rfl) rfl h) ?_
      refine AD.done ?_
      refine AO.nil ?_
      change AC _ _ _ _
      refine AC.ret ?_
      change RetQ _ _ _ .ret _
      obtain rfl := Option.some.inj h0
      refine retq rfl rfl
    replace h0 := cF h0 q13
    refine AD.opN rfl rfl rfl (ltb rfl) rfl q13 ?_
    refine AD.opN rfl rfl rfl (ltb rfl) rfl q13 ?_
    refine AD.opN rfl rfl rfl (ltb rfl) rfl q13 ?_
    refine AD.opN rfl rfl rfl (ltb rfl) rfl q13 ?_
    refine AD.opN rfl rfl rfl (ltb rfl) rfl q13 ?_
    refine AD.opN rfl rfl rfl (ltb rfl) rfl q13 ?_
    refine AD.opN rfl rfl rfl (ltb rfl) rfl q13 ?_
    refine AD.opN rfl rfl rfl (ltb rfl) rfl q13 ?_
    refine AD.opN rfl rfl rfl (ltb rfl) rfl q13 ?_
    refine AD.opN rfl rfl rfl (ltb rfl) rfl q13 ?_
    refine AD.opN rfl rfl rfl (ltb rfl) rfl q13 ?_
    refine AD.opN rfl rfl rfl (ltb rfl) rfl q13 ?_
    refine AD.opN rfl rfl rfl (ltb rfl) rfl q13 ?_
    refine AD.opN rfl rfl rfl (ltb rfl) rfl q13 ?_
    refine AD.opN rfl rfl rfl (ltb rfl) rfl q13 ?_
    refine AD.opN rfl rfl rfl (ltb rfl) rfl q13 ?_
    refine AD.opN rfl rfl rfl (ltb rfl) rfl q13 ?_
    refine AD.op [41, 58] rfl (by kernel_rfl) rfl rfl (fun _ _ h => AOp.pickN rfl rfl (ltb rfl) rfl q13 rfl h) ?_
    refine AD.op [59] rfl (by kernel_rfl) rfl rfl (fun _ _ h => AOp.move rfl rfl (ltb rfl) rfl h) ?_
    refine AD.opN rfl rfl rfl (ltb rfl) rfl rfl ?_
    refine AD.opN rfl rfl rfl (ltb rfl) rfl rfl ?_
    refine AD.opN rfl rfl rfl (ltb rfl) rfl rfl ?_
    refine AD.opN rfl rfl rfl (ltb rfl) rfl rfl ?_
    refine AD.opN rfl rfl rfl (ltb rfl) rfl rfl ?_
    refine AD.opN rfl rfl rfl (ltb rfl) rfl rfl ?_
    refine AD.opN rfl rfl rfl (ltb rfl) rfl rfl ?_
    refine AD.opN rfl rfl rfl (ltb rfl) rfl rfl ?_
    refine AD.opN rfl rfl rfl (ltb rfl) rfl rfl ?_
    refine AD.opN rfl rfl rfl (ltb rfl) rfl rfl ?_
    refine AD.opN rfl rfl rfl (ltb rfl) rfl rfl ?_
    refine AD.opN rfl rfl rfl (ltb rfl) rfl rfl ?_
    refine AD.opN rfl rfl rfl (ltb rfl) rfl rfl ?_
    refine AD.opN rfl rfl rfl (ltb rfl) rfl rfl ?_
    refine AD.op [60, 74] rfl (by kernel_rfl) rfl rfl (fun _ _ h => AOp.pickN rfl rfl (ltb rfl) rfl rfl rfl h) ?_
    refine AD.op [75] rfl (by kernel_rfl) rfl rfl (fun _ _ h => AOp.assign rfl rfl (ltb rfl) rfl h) ?_
    refine AD.done ?_
    refine AO.nil ?_
    change AC _ _ _ _
    refine AC.ret ?_
    change RetQ _ _ _ .ret _
    obtain rfl := Option.some.inj h0
    refine retq rfl rfl
  replace h0 := cF h0 q12
  refine AD.opN rfl rfl rfl (ltb rfl) rfl q12 ?_
  refine AD.op [38, 39] rfl (by kernel_rfl) rfl rfl (fun _ _ h => AOp.pickN rfl rfl (ltb rfl) rfl q12 rfl h) ?_
  refine AD.op [40] rfl (by kernel_rfl) rfl rfl (fun _ _ h => AOp.move rfl rfl (ltb rfl) rfl h) ?_
  refine AD.opN rfl rfl rfl (ltb rfl) rfl rfl ?_
  refine AD.opN rfl rfl rfl (ltb rfl) rfl rfl ?_
  refine AD.opN rfl rfl rfl (ltb rfl) rfl rfl ?_
  refine AD.opN rfl rfl rfl (ltb rfl) rfl rfl ?_
  refine AD.opN rfl rfl rfl (ltb rfl) rfl rfl ?_
  refine AD.opN rfl rfl rfl (ltb rfl) rfl rfl ?_
  refine AD.opN rfl rfl rfl (ltb rfl) rfl rfl ?_
  refine AD.opN rfl rfl rfl (ltb rfl) rfl rfl ?_
  refine AD.opN rfl rfl rfl (ltb rfl) rfl rfl ?_
  refine AD.opN rfl rfl rfl (ltb rfl) rfl rfl ?_
  refine AD.opN rfl rfl rfl (ltb rfl) rfl rfl ?_
  refine AD.opN rfl rfl rfl (ltb rfl) rfl rfl ?_
  refine AD.opN rfl rfl rfl (ltb rfl) rfl rfl ?_
  refine AD.opN rfl rfl rfl (ltb rfl) rfl rfl ?_
  refine AD.opN rfl rfl rfl (ltb rfl) rfl rfl ?_
  refine AD.opN rfl rfl rfl (ltb rfl) rfl rfl ?_
  refine AD.opN rfl rfl rfl (ltb rfl) rfl rfl ?_
  refine AD.op [41, 58] rfl (by kernel_rfl) rfl rfl (fun _ _ h => AOp.pickN rfl rfl (ltb rfl) rfl rfl rfl h) ?_
  refine AD.op [59] rfl (by kernel_rfl) rfl rfl (fun _ _ h => AOp.move rfl rfl (ltb rfl) rfl h) ?_
  refine AD.opN rfl rfl rfl (ltb rfl) rfl rfl ?_
  refine AD.opN rfl rfl rfl (ltb rfl) rfl rfl ?_
  refine AD.opN rfl rfl rfl (ltb rfl) rfl rfl ?_
  refine AD.opN rfl rfl rfl (ltb rfl) rfl rfl ?_
  refine AD.opN rfl rfl rfl (ltb rfl) rfl rfl ?_
  refine AD.opN rfl rfl rfl (ltb rfl) rfl rfl ?_
  refine AD.opN rfl rfl rfl (ltb rfl) rfl rfl ?_
  refine AD.opN rfl rfl rfl (ltb rfl) rfl rfl ?_
  refine AD.opN rfl rfl rfl (ltb rfl) rfl rfl ?_
  refine AD.opN rfl rfl rfl (ltb rfl) rfl rfl ?_
  refine AD.opN rfl rfl rfl (ltb rfl) rfl rfl ?_
  refine AD.opN rfl rfl rfl (ltb rfl) rfl rfl ?_
  refine AD.opN rfl rfl rfl (ltb rfl) rfl rfl ?_
  refine AD.opN rfl rfl rfl (ltb rfl) rfl rfl ?_
  refine AD.op [60, 74] rfl (by kernel_rfl) rfl rfl (fun _ _ h => AOp.pickN rfl rfl (ltb rfl) rfl rfl rfl h) ?_
  refine AD.op [75] rfl (by kernel_rfl) rfl rfl (fun _ _ h => AOp.assign rfl rfl (ltb rfl) rfl h) ?_
  refine AD.done ?_
  refine AO.nil ?_
  change AC _ _ _ _
  refine AC.ret ?_
  change RetQ _ _ _ .ret _
  obtain rfl := Option.some.inj h0
  refine retq rfl rfl

end Go.Proofs.YtiiibhcihbfmeaaDoor.Wk
