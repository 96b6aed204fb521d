/- Proved: functions of the program compute what the printed functions say, wherever these say something. -/
import Derived.Test.YtiiibhcihbfmeaaDoorPMe
import Derived.Test.YtiiibhcihbfmeaaDoorVmDraw4
import Derived.Test.YtiiibhcihbfmeaaDoorVmIfc
import Derived.Test.YtiiibhcihbfmeaaDoorVmNew
import Derived.Test.YtiiibhcihbfmeaaDoorVmNaN
import Derived.Test.YtiiibhcihbfmeaaDoorVmArr
import Derived.Test.YtiiibhcihbfmeaaDoorFltDy
import Derived.Test.YtiiibhcihbfmeaaDoorFltMin
import Derived.Test.YtiiibhcihbfmeaaDoorVmFin
import Derived.Test.YtiiibhcihbfmeaaDoorProg
namespace Go.Proofs.YtiiibhcihbfmeaaDoor.Wk
open Go.Vm
set_option linter.unusedVariables false
set_option linter.unusedSimpArgs false
theorem agg22 : aggT Tryd.prog 22 = some false := by kernel_rfl
theorem agg24 : aggT Tryd.prog 24 = some true := by kernel_rfl
theorem agg27 : aggT Tryd.prog 27 = some true := by kernel_rfl
theorem agg38 : aggT Tryd.prog 38 = some false := by kernel_rfl
theorem agg49 : aggT Tryd.prog 49 = some false := by kernel_rfl
theorem agg59 : aggT Tryd.prog 59 = some true := by kernel_rfl
theorem ar24 : arrT Tryd.prog 24 = some (9, 22, 1) := by kernel_rfl
theorem ar61 : arrT Tryd.prog 61 = some (9, 22, 1) := by kernel_rfl
theorem conc42 : concT Tryd.prog 42 = true := by kernel_rfl
theorem eg24 : Tryd.prog.eqGuardType Tryd.prog.depth 24 = false := by kernel_rfl
theorem eg27 : Tryd.prog.eqGuardType Tryd.prog.depth 27 = false := by kernel_rfl
theorem el36 : elemT Tryd.prog 36 = some (24, 9) := by kernel_rfl
theorem el38 : elemT Tryd.prog 38 = some (22, 1) := by kernel_rfl
theorem el39 : elemT Tryd.prog 39 = some (38, 1) := by kernel_rfl
theorem el45 : elemT Tryd.prog 45 = some (27, 3) := by kernel_rfl
theorem eq24 (a0 : Nat) (a1 : Nat) (a2 : Nat) (a3 : Nat) (a4 : Nat) (a5 : Nat) (a6 : Nat) (a7 : Nat) (a8 : Nat) (b0 : Nat) (b1 : Nat) (b2 : Nat) (b3 : Nat) (b4 : Nat) (b5 : Nat) (b6 : Nat) (b7 : Nat) (b8 : Nat) : eqT Tryd.prog 9 24 [.float .f64 a0, .float .f64 a1, .float .f64 a2, .float .f64 a3, .float .f64 a4, .float .f64 a5, .float .f64 a6, .float .f64 a7, .float .f64 a8] [.float .f64 b0, .float .f64 b1, .float .f64 b2, .float .f64 b3, .float .f64 b4, .float .f64 b5, .float .f64 b6, .float .f64 b7, .float .f64 b8] = some (feq a0 b0 && (feq a1 b1 && (feq a2 b2 && (feq a3 b3 && (feq a4 b4 && (feq a5 b5 && (feq a6 b6 && (feq a7 b7 && (feq a8 b8 && true))))))))) := by kernel_rfl
theorem eq27 (a0 : Nat) (a1 : Nat) (a2 : Nat) (b0 : Nat) (b1 : Nat) (b2 : Nat) : eqT Tryd.prog 9 27 [.float .f64 a0, .float .f64 a1, .float .f64 a2] [.float .f64 b0, .float .f64 b1, .float .f64 b2] = some (feq a0 b0 && (feq a1 b1 && (feq a2 b2 && true))) := by kernel_rfl
theorem fo27_0 : fieldOff Tryd.prog 27 0 = some 0 := by kernel_rfl
theorem fo27_1 : fieldOff Tryd.prog 27 1 = some 1 := by kernel_rfl
theorem fo27_2 : fieldOff Tryd.prog 27 2 = some 2 := by kernel_rfl
theorem fo41_0 : fieldOff Tryd.prog 41 0 = some 0 := by kernel_rfl
theorem fo41_1 : fieldOff Tryd.prog 41 1 = some 1 := by kernel_rfl
theorem fo41_2 : fieldOff Tryd.prog 41 2 = some 2 := by kernel_rfl
theorem fo51_0 : fieldOff Tryd.prog 51 0 = some 0 := by kernel_rfl
theorem info22 : (Tryd.prog.info? 22).map (fun i => (i.zero, i.size, i.bytes)) = some (some (.float .f64 0), 1, 8) := by kernel_rfl
theorem meth42_At : methT Tryd.prog 42 "At" = some (28, none) := by kernel_rfl
theorem meth42_Dims : methT Tryd.prog 42 "Dims" = some (52, none) := by kernel_rfl
theorem mixed : Tryd.prog.follows .mixedOrders = true := by kernel_rfl
def pl24 : Nat → Option (Nat × Nat) := fun i => some (i * 1, 1)
theorem places24 : placesT Tryd.prog 24 = some pl24 := by kernel_rfl
def pl27 : Nat → Option (Nat × Nat) := fun i => ([(0, 1), (1, 1), (2, 1)] : List (Nat × Nat))[i]?
theorem places27 : placesT Tryd.prog 27 = some pl27 := by kernel_rfl
def pl41 : Nat → Option (Nat × Nat) := fun i => ([(0, 1), (1, 1), (2, 1)] : List (Nat × Nat))[i]?
theorem places41 : placesT Tryd.prog 41 = some pl41 := by kernel_rfl
def pl51 : Nat → Option (Nat × Nat) := fun i => ([(0, 1)] : List (Nat × Nat))[i]?
theorem places51 : placesT Tryd.prog 51 = some pl51 := by kernel_rfl
def pl61 : Nat → Option (Nat × Nat) := fun i => some (i * 1, 1)
theorem places61 : placesT Tryd.prog 61 = some pl61 := by kernel_rfl
theorem pmeth49 : Tryd.prog.underlying 49 = some (.pointer (Tryd.prog.pointee 49)) := by kernel_rfl
theorem size22 : sizeT Tryd.prog 22 = some 1 := by kernel_rfl
theorem size24 : sizeT Tryd.prog 24 = some 9 := by kernel_rfl
theorem size27 : sizeT Tryd.prog 27 = some 3 := by kernel_rfl
theorem size41 : sizeT Tryd.prog 41 = some 3 := by kernel_rfl
theorem size49 : sizeT Tryd.prog 49 = some 1 := by kernel_rfl
theorem size61 : sizeT Tryd.prog 61 = some 9 := by kernel_rfl
theorem zero22 : (Tryd.prog.info? 22).map (·.zero) = some (some (.float .f64 0)) := by kernel_rfl
theorem zero24 : (Tryd.prog.info? 24).map (·.zero) = some (some (.agg #[.float .f64 0, .float .f64 0, .float .f64 0, .float .f64 0, .float .f64 0, .float .f64 0, .float .f64 0, .float .f64 0, .float .f64 0])) := by kernel_rfl
theorem zero27 : (Tryd.prog.info? 27).map (·.zero) = some (some (.agg #[.float .f64 0, .float .f64 0, .float .f64 0])) := by kernel_rfl
theorem zero38 : (Tryd.prog.info? 38).map (·.zero) = some (some (.slice none 0 0)) := by kernel_rfl
theorem zero41 : (Tryd.prog.info? 41).map (·.zero) = some (some (.agg #[.float .f64 0, .float .f64 0, .float .f64 0])) := by kernel_rfl
theorem zero51 : (Tryd.prog.info? 51).map (·.zero) = some (some (.agg #[.pointer none])) := by kernel_rfl
theorem zero61 : (Tryd.prog.info? 61).map (·.zero) = some (some (.agg #[.float .f64 0, .float .f64 0, .float .f64 0, .float .f64 0, .float .f64 0, .float .f64 0, .float .f64 0, .float .f64 0, .float .f64 0])) := by kernel_rfl
open Flt (truncD okF inR K20)
def notNan (x : Nat) : Prop := (FloatKind.f64.decode x).isNaN = false
def truncS (x : Nat) (d : Ieee.Datum) : Sem Value :=
  match d with
  | .nan s t =>
    if FloatKind.f64.format.quiet t = t then pure (.float .f64 x) else do
      let kept ← choose (.extern "math.Floor,Ceil,Trunc,RoundToEven.signallingNaN kept" 2)
      pure (.float .f64 (if kept == 1 then x else FloatKind.f64.encode (.nan s (FloatKind.f64.format.quiet t))))
  | d => pure (.float .f64 (FloatKind.f64.encode (d.integral .zero)))
theorem run_trunc (P : Program) (x : Nat) (h : notNan x) (w : World) : (Extern.MathFloor.toIntegral "math.archTrunc" .zero #[.float .f64 x]).run P w = .ok (.float .f64 (truncD x)) w := by
  unfold notNan at h
  have e : Extern.MathFloor.toIntegral "math.archTrunc" .zero #[.float .f64 x] = truncS x (FloatKind.f64.decode x) := rfl
  have e2 : ∀ d : Ieee.Datum, d.isNaN = false → truncS x d = pure (.float .f64 (FloatKind.f64.encode (d.integral .zero))) := by
    intro d hd
    cases d with
    | nan s t => cases hd
    | number s m e => rfl
    | infinity s => rfl
  rw [e, e2 _ h]
  rfl

theorem callTrunc (x : Nat) (h : notNan x) (w : World) : (callFunc 29 #[.float .f64 x]).run Tryd.prog w = .ok (.value (.float .f64 (truncD x))) w := by
  rw [run_callFunc_extern Tryd.func29 (by kernel_rfl) (by kernel_rfl) (by kernel_rfl) (e := Extern.MathFloor.toIntegral "math.archTrunc" .zero) (by kernel_rfl), run_trunc Tryd.prog x h]
  rfl

theorem inR_nn (m x : Nat) (h : fle x m = true) : notNan x := by
  unfold fle at h
  unfold notNan
  unfold Ieee.Format.order at h
  show (Ieee.double.read x).isNaN = false
  generalize Ieee.double.read x = d at *
  cases d with
  | nan s t => simp [Ieee.Datum.order] at h
  | number s m e => rfl
  | infinity s => rfl

set_option maxRecDepth 100000 in
/-- math.Trunc -/
theorem trunc (x : Nat) (h : notNan x) : FnD Tryd.prog 25 [dfl x] (fun r => r = dfl (truncD x)) := by
  refine FnD.of (by kernel_rfl) Tryd.func25 rfl Tryd.ntmps25 rfl (leb rfl) fun W ok => ?_
  refine AC.seq ?_
  refine AC.region ?_
  refine AO.op rfl (AOp.assign rfl rfl (ltb rfl) rfl ?_)
  refine AO.nil ?_
  change AC _ _ _ _
  refine AC.seq ?_
  refine AC.condT rfl rfl ?_
  refine AC.seq ?_
  refine AC.region ?_
  refine AO.op rfl (AOp.move rfl rfl (ltb rfl) rfl ?_)
  refine AO.op rfl (AOp.callX [.float .f64 x] rfl rfl (ltb rfl) rfl (callTrunc x h) ?_)
  refine AO.op rfl (AOp.assign rfl rfl (ltb rfl) rfl ?_)
  refine AO.nil ?_
  change AC _ _ _ _
  refine AC.ret ?_
  change RetQ _ _ _ .ret _
  refine retq rfl ?_
  exact rfl

theorem notNan_of {x : Nat} (h : Flt.isNan x = false) : notNan x := h
theorem callTruncA (x : Nat) (h : Flt.isNan x = true) (w : World) : ∃ r w', (callFunc 29 #[.float .f64 x]).run Tryd.prog w = .ok (.value r) w' ∧ (w' = w ∨ w' = w.drew) ∧ ∃ z, r = .float .f64 z ∧ Flt.isNan z = true := by
  obtain ⟨r, w', h1, h2, h3⟩ := Flt.run_truncA Tryd.prog x h w
  refine ⟨r, w', ?_, h2, h3⟩
  rw [run_callFunc_extern Tryd.func29 (by kernel_rfl) (by kernel_rfl) (by kernel_rfl) (e := Extern.MathFloor.toIntegral "math.archTrunc" .zero) (by kernel_rfl), h1]
  rfl
set_option maxRecDepth 100000 in
theorem truncNN (x : Nat) (h : Flt.isNan x = true) : FnD Tryd.prog 25 [dfl x] (fun r => ∃ z, r = dfl z ∧ Flt.isNan z = true) := by
  refine FnD.of (by kernel_rfl) Tryd.func25 rfl Tryd.ntmps25 rfl (leb rfl) fun W ok => ?_
  refine AC.seq ?_
  refine AC.region ?_
  refine AO.op rfl (AOp.assign rfl rfl (ltb rfl) rfl ?_)
  refine AO.nil ?_
  change AC _ _ _ _
  refine AC.seq ?_
  refine AC.condT rfl rfl ?_
  refine AC.seq ?_
  refine AC.region ?_
  refine AO.op rfl (AOp.move rfl rfl (ltb rfl) rfl ?_)
  refine AO.op rfl (AOp.callXA [.float .f64 x] rfl rfl (ltb rfl) rfl (callTruncA x h) ?_)
  rintro _ ⟨z, rfl, hz⟩
  refine AO.op rfl (AOp.assign rfl rfl (ltb rfl) rfl ?_)
  refine AO.nil ?_
  change AC _ _ _ _
  refine AC.ret ?_
  change RetQ _ _ _ .ret _
  refine retq rfl ?_
  exact ⟨z, rfl, hz⟩

theorem truncA (x : Nat) : FnD Tryd.prog 25 [dfl x] (fun r => ∃ z, r = dfl z ∧ Flt.TruncR x z) := by
  cases h : Flt.isNan x with
  | false => exact (trunc x h).mono fun r hr => ⟨_, hr, fun _ => rfl, fun h2 => by rw [h] at h2; cases h2⟩
  | true => exact (truncNN x h).mono fun r ⟨z, h1, h2⟩ => ⟨z, h1, fun h3 => by (rw [h] at h3; cases h3), fun _ => h2⟩

set_option maxRecDepth 100000 in
set_option maxHeartbeats 4000000 in
/-- pub-orthodrome/spec.Grid -/
theorem w_Grid (F : Nat) (a0 : (List (List Nat))) (a1 : Int) (a2 : Nat) (r0 : Bool) (h0 : p_Grid F a0 a1 a2 = some r0) : FnD Tryd.prog 12 [eS2 a0, di .i64 a1, dfl a2] (fun r => r = dbool r0) := by
  refine FnD.of (by kernel_rfl) Tryd.func12 rfl Tryd.ntmps12 rfl (leb rfl) fun W ok => ?_
  unfold p_Grid at h0
  refine AC.seq ?_
  refine AC.region ?_
  refine AO.op rfl (AOp.assign rfl rfl (ltb rfl) rfl ?_)
  refine AO.nil ?_
  change AC _ _ _ _
  refine AC.seq ?_
  refine AC.seq ?_
  refine AC.region ?_
  refine AO.op rfl (AOp.move rfl rfl (ltb rfl) rfl ?_)
  refine AO.op rfl (AOp.lenDs (n := a0.length) (cells := (List.map keS2 a0)) rfl rfl (ltb rfl) rfl el39 (by decide) (len1 _ _) ?_)
  refine AO.op rfl (AOp.move rfl rfl (ltb rfl) rfl ?_)
  refine AO.nil ?_
  change AC _ _ _ _
  obtain ⟨o1, l2, h0⟩ := bind_elim h0
  refine AC.joinE (V := Unit) [1] [] 0 (fun g3 => []) (fun g3 => []) (fun g3 => (p_Grid_k1 a1) g3 = some r0) rfl ?_ ?_
  · refine AC.block ?_
    refine AC.loopP (V := Int) (p_Grid_l2 a0 a1 a2 F) o1 [1, 2, 11, 12] [13] 0 (fun g4 => [(13, .d (di .i64 g4))]) (fun g4 => []) F (0 : Int) l2 rfl rfl (LeL.refl _) rfl rfl ?_
    intro n6 g4 h1
    unfold p_Grid_l2 at h1
    refine AC.seq ?_
    refine AC.region ?_
    refine AO.op rfl (AOp.ilss rfl rfl (ltb rfl) rfl rfl ?_)
    refine AO.nil ?_
    change AC _ _ _ _
    refine AC.seq ?_
    refine AC.cond rfl (fun q7 => ?_) (fun q7 => ?_)
    · replace h1 := cT h1 q7
      refine AC.skip ?_
      change AC _ _ _ _
      refine AC.seq ?_
      refine AC.block ?_
      refine AC.seq ?_
      refine AC.region ?_
      obtain ⟨x8, q9, h1⟩ := idx_elim h1
      refine AO.op rfl (AOp.indexDs (cells := (List.map keS2 a0)) rfl rfl (ltb rfl) rfl rfl el39 (by decide) q9.1 (lt1 q9.2) ?_)
      refine AO.op rfl (AOp.loadEp rfl rfl (ltb rfl) rfl agg38 (at1 q9.2) ?_)
      refine AO.op rfl (AOp.assign rfl rfl (ltb rfl) rfl ?_)
      refine AO.nil ?_
      change AC _ _ _ _
      refine AC.seq ?_
      refine AC.seq ?_
      refine AC.region ?_
      refine AO.op rfl (AOp.move rfl rfl (ltb rfl) rfl ?_)
      refine AO.op rfl (AOp.lenDs (n := x8.length) (cells := (List.map keS1 x8)) rfl rfl (ltb rfl) rfl el38 (by decide) (len1 _ _) ?_)
      refine AO.op rfl (AOp.move rfl rfl (ltb rfl) rfl ?_)
      refine AO.op rfl (AOp.ineq rfl rfl (ltb rfl) rfl rfl ?_)
      refine AO.nil ?_
      change AC _ _ _ _
      refine AC.cond rfl (fun q10 => ?_) (fun q10 => ?_)
      · replace h1 := cT h1 q10
        refine AC.seq ?_
        refine AC.region ?_
        refine AO.op rfl (AOp.assign rfl rfl (ltb rfl) rfl ?_)
        refine AO.nil ?_
        change AC _ _ _ _
        refine AC.ret ?_
        change RetQ _ _ _ .ret _
        obtain rfl := Option.some.inj h1
        replace h0 := aftR h0
        obtain rfl := Option.some.inj h0
        refine retq rfl rfl
      replace h1 := cF h1 q10
      refine AC.skip ?_
      change AC _ _ _ _
      refine AC.seq ?_
      refine AC.region ?_
      refine AO.op rfl (AOp.move rfl rfl (ltb rfl) rfl ?_)
      refine AO.op rfl (AOp.lenDs (n := x8.length) (cells := (List.map keS1 x8)) rfl rfl (ltb rfl) rfl el38 (by decide) (len1 _ _) ?_)
      refine AO.op rfl (AOp.move rfl rfl (ltb rfl) rfl ?_)
      refine AO.nil ?_
      change AC _ _ _ _
      obtain ⟨o11, l12, h1⟩ := bind_elim h1
      refine AC.joinE (V := Unit) [1, 2, 11, 12, 13] [] 0 (fun g13 => []) (fun g13 => []) (fun g13 => (p_Grid_k3 g4 (iter (p_Grid_l2 a0 a1 a2 F) n6)) g13 = some o1) rfl ?_ ?_
      · refine AC.block ?_
        refine AC.loopP (V := Int) (p_Grid_l4 a2 x8) o11 [1, 2, 11, 12, 13, 21, 22] [23] 0 (fun g15 => [(23, .d (di .i64 g15))]) (fun g15 => []) F (0 : Int) l12 rfl rfl (LeL.refl _) rfl rfl ?_
        intro n17 g15 h2
        unfold p_Grid_l4 at h2
        refine AC.seq ?_
        refine AC.region ?_
        refine AO.op rfl (AOp.ilss rfl rfl (ltb rfl) rfl rfl ?_)
        refine AO.nil ?_
        change AC _ _ _ _
        refine AC.seq ?_
        refine AC.cond rfl (fun q18 => ?_) (fun q18 => ?_)
        · replace h2 := cT h2 q18
          refine AC.skip ?_
          change AC _ _ _ _
          refine AC.seq ?_
          refine AC.block ?_
          refine AC.seq ?_
          refine AC.region ?_
          obtain ⟨x19, q20, h2⟩ := idx_elim h2
          refine AO.op rfl (AOp.indexDs (cells := (List.map keS1 x8)) rfl rfl (ltb rfl) rfl rfl el38 (by decide) q20.1 (lt1 q20.2) ?_)
          refine AO.op rfl (AOp.loadEp rfl rfl (ltb rfl) rfl agg22 (at1 q20.2) ?_)
          refine AO.op rfl (AOp.assign rfl rfl (ltb rfl) rfl ?_)
          refine AO.nil ?_
          change AC _ _ _ _
          refine AC.seq ?_
          refine AC.region ?_
          refine AO.op rfl (AOp.move rfl rfl (ltb rfl) rfl ?_)
          refine AO.op rfl (AOp.move rfl rfl (ltb rfl) rfl ?_)
          refine AO.op rfl (AOp.fneg rfl rfl (ltb rfl) rfl ?_)
          refine AO.op rfl (AOp.fgeq rfl rfl (ltb rfl) rfl rfl ?_)
          refine AO.op rfl (AOp.move rfl rfl (ltb rfl) rfl ?_)
          refine AO.dec (fge x19 (fneg a2)) (fun q21 => ?_) (fun q21 => ?_)
          · replace h2 := cT h2 q21
            refine AO.guardY rfl rfl rfl q21 (AOp.move rfl rfl (ltb rfl) rfl ?_)
            refine AO.guardY rfl rfl rfl q21 (AOp.move rfl rfl (ltb rfl) rfl ?_)
            refine AO.guardY rfl rfl rfl q21 (AOp.fleq rfl rfl (ltb rfl) rfl rfl ?_)
            refine AO.op rfl (AOp.pick rfl rfl (ltb rfl) rfl q21 rfl ?_)
            refine AO.op rfl (AOp.bnot rfl rfl (ltb rfl) rfl ?_)
            refine AO.op rfl (AOp.move rfl rfl (ltb rfl) rfl ?_)
            refine AO.dec (!(fle x19 a2)) (fun q22 => ?_) (fun q22 => ?_)
            · replace h2 := cT h2 q22
              refine AO.guardN rfl rfl rfl (ltb rfl) rfl q22 ?_
              refine AO.guardN rfl rfl rfl (ltb rfl) rfl q22 ?_
              refine AO.guardN rfl rfl rfl (ltb rfl) rfl q22 ?_
              refine AO.guardN rfl rfl rfl (ltb rfl) rfl q22 ?_
              refine AO.op rfl (AOp.pick rfl rfl (ltb rfl) rfl q22 rfl ?_)
              refine AO.nil ?_
              change AC _ _ _ _
              refine AC.condT rfl rfl ?_
              refine AC.seq ?_
              refine AC.region ?_
              refine AO.op rfl (AOp.assign rfl rfl (ltb rfl) rfl ?_)
              refine AO.nil ?_
              change AC _ _ _ _
              refine AC.ret ?_
              change RetQ _ _ _ .ret _
              obtain rfl := Option.some.inj h2
              replace h1 := aftR h1
              obtain rfl := Option.some.inj h1
              replace h0 := aftR h0
              obtain rfl := Option.some.inj h0
              refine retq rfl rfl
            replace h2 := cF h2 q22
            refine AO.guardY rfl rfl rfl q22 (AOp.move rfl rfl (ltb rfl) rfl ?_)
            refine AO.guardY rfl rfl rfl q22 (AOp.move rfl rfl (ltb rfl) rfl ?_)
            refine AO.guardY rfl rfl rfl q22 (AOp.callD rfl rfl (ltb rfl) rfl rfl (truncA x19) ?_)
            rintro _ ⟨z23, rfl, hz24⟩
            refine AO.guardY rfl rfl rfl q22 (AOp.fneq rfl rfl (ltb rfl) rfl rfl ?_)
            rw [hz24.feq]
            refine AO.op rfl (AOp.pickN rfl rfl (ltb rfl) rfl q22 rfl ?_)
            refine AO.nil ?_
            change AC _ _ _ _
            refine AC.cond rfl (fun q25 => ?_) (fun q25 => ?_)
            · replace h2 := cT h2 q25
              refine AC.seq ?_
              refine AC.region ?_
              refine AO.op rfl (AOp.assign rfl rfl (ltb rfl) rfl ?_)
              refine AO.nil ?_
              change AC _ _ _ _
              refine AC.ret ?_
              change RetQ _ _ _ .ret _
              obtain rfl := Option.some.inj h2
              replace h1 := aftR h1
              obtain rfl := Option.some.inj h1
              replace h0 := aftR h0
              obtain rfl := Option.some.inj h0
              refine retq rfl rfl
            replace h2 := cF h2 q25
            refine AC.skip ?_
            change AC _ _ _ _
            refine AC.region ?_
            obtain ⟨q26, h2⟩ := need_elim h2
            refine AO.op rfl (AOp.iadd rfl rfl (ltb rfl) rfl rfl rfl q26.1 q26.2 ?_)
            refine AO.op rfl (AOp.move rfl rfl (ltb rfl) rfl ?_)
            refine AO.nil ?_
            exact ⟨(g15 + (1 : Int)), _, rfl, (LeL.refl _), rfl, rfl, h2⟩
          replace h2 := cF h2 q21
          refine AO.guardN rfl rfl rfl (ltb rfl) rfl q21 ?_
          refine AO.guardN rfl rfl rfl (ltb rfl) rfl q21 ?_
          refine AO.guardN rfl rfl rfl (ltb rfl) rfl q21 ?_
          refine AO.op rfl (AOp.pickN rfl rfl (ltb rfl) rfl q21 rfl ?_)
          refine AO.op rfl (AOp.bnot rfl rfl (ltb rfl) rfl ?_)
          refine AO.op rfl (AOp.move rfl rfl (ltb rfl) rfl ?_)
          refine AO.guardN rfl rfl rfl (ltb rfl) rfl rfl ?_
          refine AO.guardN rfl rfl rfl (ltb rfl) rfl rfl ?_
          refine AO.guardN rfl rfl rfl (ltb rfl) rfl rfl ?_
          refine AO.guardN rfl rfl rfl (ltb rfl) rfl rfl ?_
          refine AO.op rfl (AOp.pick rfl rfl (ltb rfl) rfl rfl rfl ?_)
          refine AO.nil ?_
          change AC _ _ _ _
          refine AC.condT rfl rfl ?_
          refine AC.seq ?_
          refine AC.region ?_
          refine AO.op rfl (AOp.assign rfl rfl (ltb rfl) rfl ?_)
          refine AO.nil ?_
          change AC _ _ _ _
          refine AC.ret ?_
          change RetQ _ _ _ .ret _
          obtain rfl := Option.some.inj h2
          replace h1 := aftR h1
          obtain rfl := Option.some.inj h1
          replace h0 := aftR h0
          obtain rfl := Option.some.inj h0
          refine retq rfl rfl
        replace h2 := cF h2 q18
        refine AC.exit ?_
        obtain rfl := Option.some.inj h2
        exact ⟨(), _, rfl, (LeL.refl _), rfl, rfl, aftL h1⟩
      intro g13 h1
      unfold p_Grid_k3 at h1
      change AC _ _ _ _
      refine AC.region ?_
      obtain ⟨q14, h1⟩ := need_elim h1
      refine AO.op rfl (AOp.iadd rfl rfl (ltb rfl) rfl rfl rfl q14.1 q14.2 ?_)
      refine AO.op rfl (AOp.move rfl rfl (ltb rfl) rfl ?_)
      refine AO.nil ?_
      exact ⟨(g4 + (1 : Int)), _, rfl, (LeL.refl _), rfl, rfl, h1⟩
    replace h1 := cF h1 q7
    refine AC.exit ?_
    obtain rfl := Option.some.inj h1
    exact ⟨(), _, rfl, (LeL.refl _), rfl, rfl, aftL h0⟩
  intro g3 h0
  unfold p_Grid_k1 at h0
  change AC _ _ _ _
  refine AC.seq ?_
  refine AC.region ?_
  refine AO.op rfl (AOp.move rfl rfl (ltb rfl) rfl ?_)
  refine AO.op rfl (AOp.igtr rfl rfl (ltb rfl) rfl rfl ?_)
  refine AO.op rfl (AOp.assign rfl rfl (ltb rfl) rfl ?_)
  refine AO.nil ?_
  change AC _ _ _ _
  refine AC.ret ?_
  change RetQ _ _ _ .ret _
  obtain rfl := Option.some.inj h0
  refine retq rfl rfl

set_option maxRecDepth 100000 in
set_option maxHeartbeats 4000000 in
/-- pub-orthodrome/laws.entries -/
theorem w_entries (F : Nat) (a0 : (List TImpl_Mat)) (r0 : Bool) (h0 : p_entries F a0 = some r0) : FnD Tryd.prog 5 [eS0 a0] (fun r => r = dbool r0) := by
  refine FnD.of (by kernel_rfl) Tryd.func5 rfl Tryd.ntmps5 rfl (leb rfl) fun W ok => ?_
  unfold p_entries at h0
  refine AC.seq ?_
  refine AC.region ?_
  refine AO.op rfl (AOp.assign rfl rfl (ltb rfl) rfl ?_)
  refine AO.nil ?_
  change AC _ _ _ _
  refine AC.seq ?_
  refine AC.seq ?_
  refine AC.region ?_
  refine AO.op rfl (AOp.move rfl rfl (ltb rfl) rfl ?_)
  refine AO.op rfl (AOp.lenDs (n := a0.length) (cells := (List.flatMap c_TImpl_Mat a0)) rfl rfl (ltb rfl) rfl el36 (by decide) (lenN _ 9 (fun _ => rfl) _) ?_)
  refine AO.op rfl (AOp.move rfl rfl (ltb rfl) rfl ?_)
  refine AO.nil ?_
  change AC _ _ _ _
  obtain ⟨o1, l2, h0⟩ := bind_elim h0
  refine AC.joinE (V := Unit) [] [] 0 (fun g3 => []) (fun g3 => []) (fun g3 => p_entries_k1 g3 = some r0) rfl ?_ ?_
  · refine AC.block ?_
    refine AC.loopP (V := Int) (p_entries_l2 a0 F) o1 [5, 6] [7] 0 (fun g4 => [(7, .d (di .i64 g4))]) (fun g4 => []) F (0 : Int) l2 rfl rfl (LeL.refl _) rfl rfl ?_
    intro n6 g4 h1
    unfold p_entries_l2 at h1
    refine AC.seq ?_
    refine AC.region ?_
    refine AO.op rfl (AOp.ilss rfl rfl (ltb rfl) rfl rfl ?_)
    refine AO.nil ?_
    change AC _ _ _ _
    refine AC.seq ?_
    refine AC.cond rfl (fun q7 => ?_) (fun q7 => ?_)
    · replace h1 := cT h1 q7
      refine AC.skip ?_
      change AC _ _ _ _
      refine AC.seq ?_
      refine AC.block ?_
      refine AC.seq ?_
      refine AC.region ?_
      obtain ⟨x8, q9, h1⟩ := idx_elim h1
      refine AO.op rfl (AOp.indexDs (cells := (List.flatMap c_TImpl_Mat a0)) rfl rfl (ltb rfl) rfl rfl el36 (by decide) q9.1 (ltN 9 (fun _ => rfl) (by decide) q9.2) ?_)
      refine AO.op rfl (AOp.loadEpN rfl rfl (ltb rfl) rfl agg24 size24 (leN 9 (fun _ => rfl) q9.2) (atN 9 (fun _ => rfl) q9.2) ?_)
      refine AO.op rfl (AOp.alloc rfl rfl (ltb rfl) zero24 rfl ?_)
      refine AO.op rfl (AOp.store rfl rfl rfl rfl size24 rfl rfl rfl (leb rfl) ?_)
      refine AO.nil ?_
      change AC _ _ _ _
      refine AC.seq ?_
      refine AC.region ?_
      refine AO.op rfl (AOp.sliceArr rfl rfl (ltb rfl) rfl ar24 ⟨_, _, rfl⟩ ?_)
      obtain ⟨q10, h1⟩ := need_elim h1
      refine AO.freezeF (ds := (List.map keS1 [x8.e0, x8.e1, x8.e2, x8.e3, x8.e4, x8.e5, x8.e6, x8.e7, x8.e8])) 11 0 rfl rfl rfl (by rw [List.map_map]; rfl) (lenq q10 (len1 _ _)) (Nat.le_refl _) ?_
      refine AO.op rfl (AOp.buildSliceD rfl rfl (ltb rfl) el39 zero38 rfl (leb rfl) rfl rfl rfl rfl ?_)
      obtain ⟨y11, q12, h1⟩ := bind_elim h1
      refine AO.op rfl (AOp.callD rfl rfl (ltb rfl) rfl rfl (w_Grid F [[x8.e0, x8.e1, x8.e2, x8.e3, x8.e4, x8.e5, x8.e6, x8.e7, x8.e8]] (9 : Int) (4652218415073722368 : Nat) y11 q12) ?_)
      rintro _ rfl
      refine AO.op rfl (AOp.bnot rfl rfl (ltb rfl) rfl ?_)
      refine AO.nil ?_
      change AC _ _ _ _
      refine AC.cond rfl (fun q13 => ?_) (fun q13 => ?_)
      · replace h1 := cT h1 q13
        refine AC.seq ?_
        refine AC.region ?_
        refine AO.op rfl (AOp.assign rfl rfl (ltb rfl) rfl ?_)
        refine AO.nil ?_
        change AC _ _ _ _
        refine AC.ret ?_
        change RetQ _ _ _ .ret _
        obtain rfl := Option.some.inj h1
        replace h0 := aftR h0
        obtain rfl := Option.some.inj h0
        refine retq rfl rfl
      replace h1 := cF h1 q13
      refine AC.skip ?_
      change AC _ _ _ _
      refine AC.region ?_
      obtain ⟨q14, h1⟩ := need_elim h1
      refine AO.op rfl (AOp.iadd rfl rfl (ltb rfl) rfl rfl rfl q14.1 q14.2 ?_)
      refine AO.op rfl (AOp.move rfl rfl (ltb rfl) rfl ?_)
      refine AO.nil ?_
      exact ⟨(g4 + (1 : Int)), _, rfl, (LeL.refl _), rfl, rfl, h1⟩
    replace h1 := cF h1 q7
    refine AC.exit ?_
    obtain rfl := Option.some.inj h1
    exact ⟨(), _, rfl, (LeL.refl _), rfl, rfl, aftL h0⟩
  intro g3 h0
  unfold p_entries_k1 at h0
  change AC _ _ _ _
  refine AC.seq ?_
  refine AC.region ?_
  refine AO.op rfl (AOp.assign rfl rfl (ltb rfl) rfl ?_)
  refine AO.nil ?_
  change AC _ _ _ _
  refine AC.ret ?_
  change RetQ _ _ _ .ret _
  obtain rfl := Option.some.inj h0
  refine retq rfl rfl

set_option maxRecDepth 100000 in
set_option maxHeartbeats 4000000 in
/-- pub-orthodrome/laws.off3 -/
theorem w_off3 (a0 : TImpl_P3) (r0 : (List Nat)) (h0 : p_off3 a0 = some r0) : FnD Tryd.prog 19 [e_TImpl_P3 a0] (fun r => r = eS1 r0) := by
  refine FnD.of (by kernel_rfl) Tryd.func19 rfl Tryd.ntmps19 rfl (leb rfl) fun W ok => ?_
  unfold p_off3 at h0
  refine AC.seq ?_
  refine AC.region ?_
  refine AO.op rfl (AOp.box rfl rfl (ltb rfl) rfl rfl ?_)
  refine AO.op rfl (AOp.assign rfl rfl (ltb rfl) rfl ?_)
  refine AO.nil ?_
  change AC _ _ _ _
  refine AC.seq ?_
  refine AC.region ?_
  refine AO.op rfl (AOp.fieldAddr rfl rfl (ltb rfl) rfl fo27_0 ?_)
  refine AO.op rfl (AOp.load1 rfl rfl (ltb rfl) rfl agg22 rfl rfl ?_)
  refine AO.op rfl (AOp.fieldAddr rfl rfl (ltb rfl) rfl fo27_1 ?_)
  refine AO.op rfl (AOp.load1 rfl rfl (ltb rfl) rfl agg22 rfl rfl ?_)
  refine AO.op rfl (AOp.fieldAddr rfl rfl (ltb rfl) rfl fo27_2 ?_)
  refine AO.op rfl (AOp.load1 rfl rfl (ltb rfl) rfl agg22 rfl rfl ?_)
  refine AO.op rfl (AOp.buildSliceD rfl rfl (ltb rfl) el38 zero22 rfl (leb rfl) rfl rfl rfl rfl ?_)
  refine AO.op rfl (AOp.assign rfl rfl (ltb rfl) rfl ?_)
  refine AO.nil ?_
  change AC _ _ _ _
  refine AC.ret ?_
  change RetQ _ _ _ .ret _
  obtain rfl := Option.some.inj h0
  refine retq rfl rfl

set_option maxRecDepth 100000 in
set_option maxHeartbeats 4000000 in
/-- pub-orthodrome/laws.small3 -/
theorem w_small3 (F : Nat) (a0 : (List TImpl_P3)) (r0 : Bool) (h0 : p_small3 F a0 = some r0) : FnD Tryd.prog 8 [eS3 a0] (fun r => r = dbool r0) := by
  refine FnD.of (by kernel_rfl) Tryd.func8 rfl Tryd.ntmps8 rfl (leb rfl) fun W ok => ?_
  unfold p_small3 at h0
  refine AC.seq ?_
  refine AC.region ?_
  refine AO.op rfl (AOp.assign rfl rfl (ltb rfl) rfl ?_)
  refine AO.nil ?_
  change AC _ _ _ _
  refine AC.seq ?_
  refine AC.seq ?_
  refine AC.region ?_
  refine AO.op rfl (AOp.move rfl rfl (ltb rfl) rfl ?_)
  refine AO.op rfl (AOp.lenDs (n := a0.length) (cells := (List.flatMap c_TImpl_P3 a0)) rfl rfl (ltb rfl) rfl el45 (by decide) (lenN _ 3 (fun _ => rfl) _) ?_)
  refine AO.op rfl (AOp.move rfl rfl (ltb rfl) rfl ?_)
  refine AO.nil ?_
  change AC _ _ _ _
  obtain ⟨o1, l2, h0⟩ := bind_elim h0
  refine AC.joinE (V := Unit) [] [] 0 (fun g3 => []) (fun g3 => []) (fun g3 => p_small3_k1 g3 = some r0) rfl ?_ ?_
  · refine AC.block ?_
    refine AC.loopP (V := Int) (p_small3_l2 a0 F) o1 [5, 6] [7] 0 (fun g4 => [(7, .d (di .i64 g4))]) (fun g4 => []) F (0 : Int) l2 rfl rfl (LeL.refl _) rfl rfl ?_
    intro n6 g4 h1
    unfold p_small3_l2 at h1
    refine AC.seq ?_
    refine AC.region ?_
    refine AO.op rfl (AOp.ilss rfl rfl (ltb rfl) rfl rfl ?_)
    refine AO.nil ?_
    change AC _ _ _ _
    refine AC.seq ?_
    refine AC.cond rfl (fun q7 => ?_) (fun q7 => ?_)
    · replace h1 := cT h1 q7
      refine AC.skip ?_
      change AC _ _ _ _
      refine AC.seq ?_
      refine AC.block ?_
      refine AC.seq ?_
      refine AC.region ?_
      obtain ⟨x8, q9, h1⟩ := idx_elim h1
      refine AO.op rfl (AOp.indexDs (cells := (List.flatMap c_TImpl_P3 a0)) rfl rfl (ltb rfl) rfl rfl el45 (by decide) q9.1 (ltN 3 (fun _ => rfl) (by decide) q9.2) ?_)
      refine AO.op rfl (AOp.loadEpN rfl rfl (ltb rfl) rfl agg27 size27 (leN 3 (fun _ => rfl) q9.2) (atN 3 (fun _ => rfl) q9.2) ?_)
      refine AO.op rfl (AOp.alloc rfl rfl (ltb rfl) zero27 rfl ?_)
      refine AO.op rfl (AOp.store rfl rfl rfl rfl size27 rfl rfl rfl (leb rfl) ?_)
      refine AO.nil ?_
      change AC _ _ _ _
      refine AC.seq ?_
      refine AC.region ?_
      refine AO.op rfl (AOp.loadN rfl rfl (ltb rfl) rfl agg27 size27 rfl (leb rfl) rfl ?_)
      obtain ⟨y10, q11, h1⟩ := bind_elim h1
      refine AO.op rfl (AOp.callD rfl rfl (ltb rfl) rfl rfl (w_off3 x8 y10 q11) ?_)
      rintro _ rfl
      refine AO.op rfl (AOp.buildSliceD rfl rfl (ltb rfl) el39 zero38 rfl (leb rfl) rfl rfl rfl rfl ?_)
      obtain ⟨y12, q13, h1⟩ := bind_elim h1
      refine AO.op rfl (AOp.callD rfl rfl (ltb rfl) rfl rfl (w_Grid F [y10] (3 : Int) (4652218415073722368 : Nat) y12 q13) ?_)
      rintro _ rfl
      refine AO.op rfl (AOp.bnot rfl rfl (ltb rfl) rfl ?_)
      refine AO.nil ?_
      change AC _ _ _ _
      refine AC.cond rfl (fun q14 => ?_) (fun q14 => ?_)
      · replace h1 := cT h1 q14
        refine AC.seq ?_
        refine AC.region ?_
        refine AO.op rfl (AOp.assign rfl rfl (ltb rfl) rfl ?_)
        refine AO.nil ?_
        change AC _ _ _ _
        refine AC.ret ?_
        change RetQ _ _ _ .ret _
        obtain rfl := Option.some.inj h1
        replace h0 := aftR h0
        obtain rfl := Option.some.inj h0
        refine retq rfl rfl
      replace h1 := cF h1 q14
      refine AC.skip ?_
      change AC _ _ _ _
      refine AC.region ?_
      obtain ⟨q15, h1⟩ := need_elim h1
      refine AO.op rfl (AOp.iadd rfl rfl (ltb rfl) rfl rfl rfl q15.1 q15.2 ?_)
      refine AO.op rfl (AOp.move rfl rfl (ltb rfl) rfl ?_)
      refine AO.nil ?_
      exact ⟨(g4 + (1 : Int)), _, rfl, (LeL.refl _), rfl, rfl, h1⟩
    replace h1 := cF h1 q7
    refine AC.exit ?_
    obtain rfl := Option.some.inj h1
    exact ⟨(), _, rfl, (LeL.refl _), rfl, rfl, aftL h0⟩
  intro g3 h0
  unfold p_small3_k1 at h0
  change AC _ _ _ _
  refine AC.seq ?_
  refine AC.region ?_
  refine AO.op rfl (AOp.assign rfl rfl (ltb rfl) rfl ?_)
  refine AO.nil ?_
  change AC _ _ _ _
  refine AC.ret ?_
  change RetQ _ _ _ .ret _
  obtain rfl := Option.some.inj h0
  refine retq rfl rfl

set_option maxRecDepth 100000 in
set_option maxHeartbeats 4000000 in
/-- pub-orthodrome/pub/gonum/spatial/r3.Eye -/
theorem w_Eye  (r0 : TR3_Mat) (h0 : p_Eye  = some r0) : FnD Tryd.prog 21 [] (fun r => r = .pt (c_TR3_Mat r0)) := by
  refine FnD.of (by kernel_rfl) Tryd.func21 rfl Tryd.ntmps21 rfl (leb rfl) fun W ok => ?_
  unfold p_Eye at h0
  refine AC.seq ?_
  refine AC.region ?_
  refine AO.op rfl (AOp.assign rfl rfl (ltb rfl) rfl ?_)
  refine AO.nil ?_
  change AC _ _ _ _
  refine AC.seq ?_
  refine AC.region ?_
  refine AO.op rfl (AOp.build (r := [.d (dfl (4607182418800017408 : Nat)), .d (dfl (0 : Nat)), .d (dfl (0 : Nat)), .d (dfl (0 : Nat)), .d (dfl (4607182418800017408 : Nat)), .d (dfl (0 : Nat)), .d (dfl (0 : Nat)), .d (dfl (0 : Nat)), .d (dfl (4607182418800017408 : Nat))]) rfl rfl (ltb rfl) zero61 rfl places61 rfl rfl ?_)
  refine AO.op rfl (AOp.box rfl rfl (ltb rfl) rfl rfl ?_)
  refine AO.freezeP (ds := c_TImpl_Mat (TImpl_Mat.mk (4607182418800017408 : Nat) (0 : Nat) (0 : Nat) (0 : Nat) (4607182418800017408 : Nat) (0 : Nat) (0 : Nat) (0 : Nat) (4607182418800017408 : Nat))) 2 0 rfl rfl rfl rfl (Nat.zero_le _) ?_
  refine AO.op rfl (AOp.build rfl rfl (ltb rfl) zero51 rfl places51 rfl rfl ?_)
  refine AO.op rfl (AOp.box rfl rfl (ltb rfl) rfl rfl ?_)
  refine AO.op rfl (AOp.assign rfl rfl (ltb rfl) rfl ?_)
  refine AO.nil ?_
  change AC _ _ _ _
  refine AC.ret ?_
  change RetQ _ _ _ .ret _
  obtain rfl := Option.some.inj h0
  refine retq rfl rfl

set_option maxRecDepth 100000 in
set_option maxHeartbeats 4000000 in
/-- pub-orthodrome/impl.MatEye -/
theorem w_MatEye  (r0 : TImpl_Mat) (h0 : p_MatEye  = some r0) : FnD Tryd.prog 9 [] (fun r => r = e_TImpl_Mat r0) := by
  refine FnD.of (by kernel_rfl) Tryd.func9 rfl Tryd.ntmps9 rfl (leb rfl) fun W ok => ?_
  unfold p_MatEye at h0
  refine AC.seq ?_
  refine AC.region ?_
  refine AO.op rfl (AOp.alloc rfl rfl (ltb rfl) zero24 rfl ?_)
  refine AO.nil ?_
  change AC _ _ _ _
  refine AC.seq ?_
  refine AC.region ?_
  obtain ⟨y1, q2, h0⟩ := bind_elim h0
  refine AO.op rfl (AOp.callD rfl rfl (ltb rfl) rfl rfl (w_Eye  y1 q2) ?_)
  rintro _ rfl
  refine AO.op rfl (AOp.inl [0] (by kernel_rfl) Tryd.func20 rfl Tryd.ntmps20 rfl rfl (ltb rfl) rfl (leb rfl) rfl ?_)
  intro fr3
  refine AC.seq ?_
  refine AC.region ?_
  refine AO.op rfl (AOp.alloc rfl rfl (ltb rfl) zero24 rfl ?_)
  refine AO.nil ?_
  change AC _ _ _ _
  refine AC.seq ?_
  refine AC.region ?_
  refine AO.op rfl (AOp.alloc rfl rfl (ltb rfl) zero24 rfl ?_)
  refine AO.nil ?_
  change AC _ _ _ _
  refine AC.seq ?_
  refine AC.seq ?_
  refine AC.region ?_
  refine AO.op rfl (AOp.move rfl rfl (ltb rfl) rfl ?_)
  refine AO.nil ?_
  change AC _ _ _ _
  refine AC.block ?_
  refine AC.loopU ?_
  refine ACL.round ?_
  refine AC.seq ?_
  refine AC.region ?_
  refine AO.op rfl (AOp.ilss rfl rfl (ltb rfl) rfl rfl ?_)
  refine AO.nil ?_
  change AC _ _ _ _
  refine AC.seq ?_
  refine AC.condT rfl rfl ?_
  refine AC.skip ?_
  change AC _ _ _ _
  refine AC.seq ?_
  refine AC.block ?_
  refine AC.seq ?_
  refine AC.region ?_
  refine AO.op rfl (AOp.move rfl rfl (ltb rfl) rfl ?_)
  refine AO.op rfl (AOp.assign rfl rfl (ltb rfl) rfl ?_)
  refine AO.nil ?_
  change AC _ _ _ _
  refine AC.region ?_
  refine AO.op rfl (AOp.move rfl rfl (ltb rfl) rfl ?_)
  refine AO.op rfl (AOp.move rfl rfl (ltb rfl) rfl ?_)
  refine AO.op rfl (AOp.move rfl rfl (ltb rfl) rfl ?_)
  refine AO.op rfl (AOp.iquo rfl rfl (ltb rfl) rfl rfl (by decide) (show Int.tdiv (0 : Int) (3 : Int) = (0 : Int) by decide) (by decide) (by decide) ?_)
  refine AO.op rfl (AOp.move rfl rfl (ltb rfl) rfl ?_)
  refine AO.op rfl (AOp.irem rfl rfl (ltb rfl) rfl rfl (by decide) (show Int.tmod (0 : Int) (3 : Int) = (0 : Int) by decide) ?_)
  refine AO.op rfl (AOp.inl [0, 2, 3, 5, 8] (by kernel_rfl) Tryd.func28 rfl Tryd.ntmps28 rfl rfl (ltb rfl) rfl (leb rfl) rfl ?_)
  intro fr4
  refine AC.seq ?_
  refine AC.region ?_
  refine AO.op rfl (AOp.assign rfl rfl (ltb rfl) rfl ?_)
  refine AO.nil ?_
  change AC _ _ _ _
  refine AC.seq ?_
  refine AC.seq ?_
  refine AC.region ?_
  refine AO.op rfl (AOp.move rfl rfl (ltb rfl) rfl ?_)
  refine AO.op rfl (AOp.i2i rfl rfl (ltb rfl) rfl Tryd.underlying3 Tryd.underlying67 (show IntKind.u64.wrap (0 : Int) = (0 : Int) by decide) ?_)
  refine AO.op rfl (AOp.igtr rfl rfl (ltb rfl) rfl rfl ?_)
  refine AO.nil ?_
  change AC _ _ _ _
  refine AC.condF rfl rfl ?_
  refine AC.skip ?_
  change AC _ _ _ _
  refine AC.seq ?_
  refine AC.seq ?_
  refine AC.region ?_
  refine AO.op rfl (AOp.move rfl rfl (ltb rfl) rfl ?_)
  refine AO.op rfl (AOp.i2i rfl rfl (ltb rfl) rfl Tryd.underlying3 Tryd.underlying67 (show IntKind.u64.wrap (0 : Int) = (0 : Int) by decide) ?_)
  refine AO.op rfl (AOp.igtr rfl rfl (ltb rfl) rfl rfl ?_)
  refine AO.nil ?_
  change AC _ _ _ _
  refine AC.condF rfl rfl ?_
  refine AC.skip ?_
  change AC _ _ _ _
  refine AC.seq ?_
  refine AC.seq ?_
  refine AC.region ?_
  refine AO.op rfl (AOp.move rfl rfl (ltb rfl) rfl ?_)
  refine AO.op rfl (AOp.nilCheck rfl rfl (ltb rfl) rfl rfl ?_)
  refine AO.op rfl (AOp.fieldAddrPt rfl rfl (ltb rfl) rfl fo51_0 ?_)
  refine AO.op rfl (AOp.loadEp rfl rfl (ltb rfl) rfl agg49 rfl ?_)
  refine AO.op rfl (AOp.ptrNilEql rfl rfl (ltb rfl) rfl rfl pmeth49 ?_)
  refine AO.nil ?_
  change AC _ _ _ _
  refine AC.condF rfl rfl ?_
  refine AC.skip ?_
  change AC _ _ _ _
  refine AC.seq ?_
  refine AC.region ?_
  refine AO.op rfl (AOp.move rfl rfl (ltb rfl) rfl ?_)
  refine AO.op rfl (AOp.nilCheck rfl rfl (ltb rfl) rfl rfl ?_)
  refine AO.op rfl (AOp.fieldAddrPt rfl rfl (ltb rfl) rfl fo51_0 ?_)
  refine AO.op rfl (AOp.loadEp rfl rfl (ltb rfl) rfl agg49 rfl ?_)
  refine AO.op rfl (AOp.move rfl rfl (ltb rfl) rfl ?_)
  refine AO.op rfl (AOp.imul rfl rfl (ltb rfl) rfl rfl (show (0 : Int) * (3 : Int) = (0 : Int) by decide) (by decide) (by decide) ?_)
  refine AO.op rfl (AOp.move rfl rfl (ltb rfl) rfl ?_)
  refine AO.op rfl (AOp.iadd rfl rfl (ltb rfl) rfl rfl (show (0 : Int) + (0 : Int) = (0 : Int) by decide) (by decide) (by decide) ?_)
  refine AO.op rfl (AOp.nilCheck rfl rfl (ltb rfl) rfl rfl ?_)
  refine AO.op rfl (AOp.indexArrD rfl rfl (ltb rfl) rfl rfl ar61 (by decide) (by decide) ?_)
  refine AO.op rfl (AOp.loadEp rfl rfl (ltb rfl) rfl agg22 rfl ?_)
  refine AO.op rfl (AOp.assign rfl rfl (ltb rfl) rfl ?_)
  refine AO.nil ?_
  change AC _ _ _ _
  refine AC.ret ?_
  refine inlret (ob' := [.fix 24 [.d (dfl (0 : Nat)), .d (dfl (0 : Nat)), .d (dfl (0 : Nat)), .d (dfl (0 : Nat)), .d (dfl (0 : Nat)), .d (dfl (0 : Nat)), .d (dfl (0 : Nat)), .d (dfl (0 : Nat)), .d (dfl (0 : Nat))], .frame fr3 [(0, .ptr 0 0)], .fix 24 [.d (dfl (0 : Nat)), .d (dfl (0 : Nat)), .d (dfl (0 : Nat)), .d (dfl (0 : Nat)), .d (dfl (0 : Nat)), .d (dfl (0 : Nat)), .d (dfl (0 : Nat)), .d (dfl (0 : Nat)), .d (dfl (0 : Nat))], .fix 24 [.d (dfl (0 : Nat)), .d (dfl (0 : Nat)), .d (dfl (0 : Nat)), .d (dfl (0 : Nat)), .d (dfl (0 : Nat)), .d (dfl (0 : Nat)), .d (dfl (0 : Nat)), .d (dfl (0 : Nat)), .d (dfl (0 : Nat))], .dead]) (e' := [(0, .d (.pt (c_TR3_Mat y1))), (2, .ptr 2 0), (3, .ptr 3 0), (5, .d (di .i64 (0 : Int))), (8, .d (di .i64 (0 : Int)))]) (r := .d (dfl y1.data.e0)) rfl rfl rfl ?_
  change AO _ _ _ _ _
  refine AO.op rfl (AOp.indexArrO rfl rfl (ltb rfl) rfl rfl ar24 (by decide) (by decide) (show _ = 0 by first | rfl | decide) ?_)
  refine AO.op rfl (AOp.store rfl rfl rfl rfl size22 rfl rfl rfl (leb rfl) ?_)
  refine AO.nil ?_
  change AC _ _ _ _
  refine AC.region ?_
  refine AO.op rfl (AOp.iadd rfl rfl (ltb rfl) rfl rfl (show (0 : Int) + (1 : Int) = (1 : Int) by decide) (by decide) (by decide) ?_)
  refine AO.op rfl (AOp.move rfl rfl (ltb rfl) rfl ?_)
  refine AO.nil ?_
  change ACL _ _ _ _
  refine ACL.round ?_
  refine AC.seq ?_
  refine AC.region ?_
  refine AO.op rfl (AOp.ilss rfl rfl (ltb rfl) rfl rfl ?_)
  refine AO.nil ?_
  change AC _ _ _ _
  refine AC.seq ?_
  refine AC.condT rfl rfl ?_
  refine AC.skip ?_
  change AC _ _ _ _
  refine AC.seq ?_
  refine AC.block ?_
  refine AC.seq ?_
  refine AC.region ?_
  refine AO.op rfl (AOp.move rfl rfl (ltb rfl) rfl ?_)
  refine AO.op rfl (AOp.assign rfl rfl (ltb rfl) rfl ?_)
  refine AO.nil ?_
  change AC _ _ _ _
  refine AC.region ?_
  refine AO.op rfl (AOp.move rfl rfl (ltb rfl) rfl ?_)
  refine AO.op rfl (AOp.move rfl rfl (ltb rfl) rfl ?_)
  refine AO.op rfl (AOp.move rfl rfl (ltb rfl) rfl ?_)
  refine AO.op rfl (AOp.iquo rfl rfl (ltb rfl) rfl rfl (by decide) (show Int.tdiv (1 : Int) (3 : Int) = (0 : Int) by decide) (by decide) (by decide) ?_)
  refine AO.op rfl (AOp.move rfl rfl (ltb rfl) rfl ?_)
  refine AO.op rfl (AOp.irem rfl rfl (ltb rfl) rfl rfl (by decide) (show Int.tmod (1 : Int) (3 : Int) = (1 : Int) by decide) ?_)
  refine AO.op rfl (AOp.inl [0, 2, 3, 5, 8, 14, 15] (by kernel_rfl) Tryd.func28 rfl Tryd.ntmps28 rfl rfl (ltb rfl) rfl (leb rfl) rfl ?_)
  intro fr5
  refine AC.seq ?_
  refine AC.region ?_
  refine AO.op rfl (AOp.assign rfl rfl (ltb rfl) rfl ?_)
  refine AO.objs (obs' := [.fix 24 [.d (dfl (0 : Nat)), .d (dfl (0 : Nat)), .d (dfl (0 : Nat)), .d (dfl (0 : Nat)), .d (dfl (0 : Nat)), .d (dfl (0 : Nat)), .d (dfl (0 : Nat)), .d (dfl (0 : Nat)), .d (dfl (0 : Nat))], .frame fr3 [(0, .ptr 0 0)], .fix 24 [.d (dfl (0 : Nat)), .d (dfl (0 : Nat)), .d (dfl (0 : Nat)), .d (dfl (0 : Nat)), .d (dfl (0 : Nat)), .d (dfl (0 : Nat)), .d (dfl (0 : Nat)), .d (dfl (0 : Nat)), .d (dfl (0 : Nat))], .fix 24 [.d (dfl y1.data.e0), .d (dfl (0 : Nat)), .d (dfl (0 : Nat)), .d (dfl (0 : Nat)), .d (dfl (0 : Nat)), .d (dfl (0 : Nat)), .d (dfl (0 : Nat)), .d (dfl (0 : Nat)), .d (dfl (0 : Nat))], .dead, .frame fr5 [(0, .d (.pt (c_TR3_Mat y1))), (2, .ptr 2 0), (3, .ptr 3 0), (5, .d (di .i64 (1 : Int))), (8, .d (di .i64 (1 : Int))), (14, .d (dfl y1.data.e0)), (15, .ptr 3 0)]]) rfl ?_
  refine AO.nil ?_
  change AC _ _ _ _
  refine AC.seq ?_
  refine AC.seq ?_
  refine AC.region ?_
  refine AO.op rfl (AOp.move rfl rfl (ltb rfl) rfl ?_)
  refine AO.op rfl (AOp.i2i rfl rfl (ltb rfl) rfl Tryd.underlying3 Tryd.underlying67 (show IntKind.u64.wrap (0 : Int) = (0 : Int) by decide) ?_)
  refine AO.op rfl (AOp.igtr rfl rfl (ltb rfl) rfl rfl ?_)
  refine AO.nil ?_
  change AC _ _ _ _
  refine AC.condF rfl rfl ?_
  refine AC.skip ?_
  change AC _ _ _ _
  refine AC.seq ?_
  refine AC.seq ?_
  refine AC.region ?_
  refine AO.op rfl (AOp.move rfl rfl (ltb rfl) rfl ?_)
  refine AO.op rfl (AOp.i2i rfl rfl (ltb rfl) rfl Tryd.underlying3 Tryd.underlying67 (show IntKind.u64.wrap (1 : Int) = (1 : Int) by decide) ?_)
  refine AO.op rfl (AOp.igtr rfl rfl (ltb rfl) rfl rfl ?_)
  refine AO.nil ?_
  change AC _ _ _ _
  refine AC.condF rfl rfl ?_
  refine AC.skip ?_
  change AC _ _ _ _
  refine AC.seq ?_
  refine AC.seq ?_
  refine AC.region ?_
  refine AO.op rfl (AOp.move rfl rfl (ltb rfl) rfl ?_)
  refine AO.op rfl (AOp.nilCheck rfl rfl (ltb rfl) rfl rfl ?_)
  refine AO.op rfl (AOp.fieldAddrPt rfl rfl (ltb rfl) rfl fo51_0 ?_)
  refine AO.op rfl (AOp.loadEp rfl rfl (ltb rfl) rfl agg49 rfl ?_)
  refine AO.op rfl (AOp.ptrNilEql rfl rfl (ltb rfl) rfl rfl pmeth49 ?_)
  refine AO.nil ?_
  change AC _ _ _ _
  refine AC.condF rfl rfl ?_
  refine AC.skip ?_
  change AC _ _ _ _
  refine AC.seq ?_
  refine AC.region ?_
  refine AO.op rfl (AOp.move rfl rfl (ltb rfl) rfl ?_)
  refine AO.op rfl (AOp.nilCheck rfl rfl (ltb rfl) rfl rfl ?_)
  refine AO.op rfl (AOp.fieldAddrPt rfl rfl (ltb rfl) rfl fo51_0 ?_)
  refine AO.op rfl (AOp.loadEp rfl rfl (ltb rfl) rfl agg49 rfl ?_)
  refine AO.op rfl (AOp.move rfl rfl (ltb rfl) rfl ?_)
  refine AO.op rfl (AOp.imul rfl rfl (ltb rfl) rfl rfl (show (0 : Int) * (3 : Int) = (0 : Int) by decide) (by decide) (by decide) ?_)
  refine AO.op rfl (AOp.move rfl rfl (ltb rfl) rfl ?_)
  refine AO.op rfl (AOp.iadd rfl rfl (ltb rfl) rfl rfl (show (0 : Int) + (1 : Int) = (1 : Int) by decide) (by decide) (by decide) ?_)
  refine AO.op rfl (AOp.nilCheck rfl rfl (ltb rfl) rfl rfl ?_)
  refine AO.op rfl (AOp.indexArrD rfl rfl (ltb rfl) rfl rfl ar61 (by decide) (by decide) ?_)
  refine AO.op rfl (AOp.loadEp rfl rfl (ltb rfl) rfl agg22 rfl ?_)
  refine AO.op rfl (AOp.assign rfl rfl (ltb rfl) rfl ?_)
  refine AO.nil ?_
  change AC _ _ _ _
  refine AC.ret ?_
  refine inlret (ob' := [.fix 24 [.d (dfl (0 : Nat)), .d (dfl (0 : Nat)), .d (dfl (0 : Nat)), .d (dfl (0 : Nat)), .d (dfl (0 : Nat)), .d (dfl (0 : Nat)), .d (dfl (0 : Nat)), .d (dfl (0 : Nat)), .d (dfl (0 : Nat))], .frame fr3 [(0, .ptr 0 0)], .fix 24 [.d (dfl (0 : Nat)), .d (dfl (0 : Nat)), .d (dfl (0 : Nat)), .d (dfl (0 : Nat)), .d (dfl (0 : Nat)), .d (dfl (0 : Nat)), .d (dfl (0 : Nat)), .d (dfl (0 : Nat)), .d (dfl (0 : Nat))], .fix 24 [.d (dfl y1.data.e0), .d (dfl (0 : Nat)), .d (dfl (0 : Nat)), .d (dfl (0 : Nat)), .d (dfl (0 : Nat)), .d (dfl (0 : Nat)), .d (dfl (0 : Nat)), .d (dfl (0 : Nat)), .d (dfl (0 : Nat))], .dead, .dead]) (e' := [(0, .d (.pt (c_TR3_Mat y1))), (2, .ptr 2 0), (3, .ptr 3 0), (5, .d (di .i64 (1 : Int))), (8, .d (di .i64 (1 : Int))), (14, .d (dfl y1.data.e0)), (15, .ptr 3 0)]) (r := .d (dfl y1.data.e1)) rfl rfl rfl ?_
  change AO _ _ _ _ _
  refine AO.op rfl (AOp.indexArrO rfl rfl (ltb rfl) rfl rfl ar24 (by decide) (by decide) (show _ = 1 by first | rfl | decide) ?_)
  refine AO.op rfl (AOp.store rfl rfl rfl rfl size22 rfl rfl rfl (leb rfl) ?_)
  refine AO.objs (obs' := [.fix 24 [.d (dfl (0 : Nat)), .d (dfl (0 : Nat)), .d (dfl (0 : Nat)), .d (dfl (0 : Nat)), .d (dfl (0 : Nat)), .d (dfl (0 : Nat)), .d (dfl (0 : Nat)), .d (dfl (0 : Nat)), .d (dfl (0 : Nat))], .frame fr3 [(0, .ptr 0 0)], .fix 24 [.d (dfl (0 : Nat)), .d (dfl (0 : Nat)), .d (dfl (0 : Nat)), .d (dfl (0 : Nat)), .d (dfl (0 : Nat)), .d (dfl (0 : Nat)), .d (dfl (0 : Nat)), .d (dfl (0 : Nat)), .d (dfl (0 : Nat))], .fix 24 [.d (dfl y1.data.e0), .d (dfl y1.data.e1), .d (dfl (0 : Nat)), .d (dfl (0 : Nat)), .d (dfl (0 : Nat)), .d (dfl (0 : Nat)), .d (dfl (0 : Nat)), .d (dfl (0 : Nat)), .d (dfl (0 : Nat))], .dead, .dead]) rfl ?_
  refine AO.nil ?_
  change AC _ _ _ _
  refine AC.region ?_
  refine AO.op rfl (AOp.iadd rfl rfl (ltb rfl) rfl rfl (show (1 : Int) + (1 : Int) = (2 : Int) by decide) (by decide) (by decide) ?_)
  refine AO.op rfl (AOp.move rfl rfl (ltb rfl) rfl ?_)
  refine AO.nil ?_
  change ACL _ _ _ _
  refine ACL.round ?_
  refine AC.seq ?_
  refine AC.region ?_
  refine AO.op rfl (AOp.ilss rfl rfl (ltb rfl) rfl rfl ?_)
  refine AO.nil ?_
  change AC _ _ _ _
  refine AC.seq ?_
  refine AC.condT rfl rfl ?_
  refine AC.skip ?_
  change AC _ _ _ _
  refine AC.seq ?_
  refine AC.block ?_
  refine AC.seq ?_
  refine AC.region ?_
  refine AO.op rfl (AOp.move rfl rfl (ltb rfl) rfl ?_)
  refine AO.op rfl (AOp.assign rfl rfl (ltb rfl) rfl ?_)
  refine AO.nil ?_
  change AC _ _ _ _
  refine AC.region ?_
  refine AO.op rfl (AOp.move rfl rfl (ltb rfl) rfl ?_)
  refine AO.op rfl (AOp.move rfl rfl (ltb rfl) rfl ?_)
  refine AO.op rfl (AOp.move rfl rfl (ltb rfl) rfl ?_)
  refine AO.op rfl (AOp.iquo rfl rfl (ltb rfl) rfl rfl (by decide) (show Int.tdiv (2 : Int) (3 : Int) = (0 : Int) by decide) (by decide) (by decide) ?_)
  refine AO.op rfl (AOp.move rfl rfl (ltb rfl) rfl ?_)
  refine AO.op rfl (AOp.irem rfl rfl (ltb rfl) rfl rfl (by decide) (show Int.tmod (2 : Int) (3 : Int) = (2 : Int) by decide) ?_)
  refine AO.op rfl (AOp.inl [0, 2, 3, 5, 8, 14, 15] (by kernel_rfl) Tryd.func28 rfl Tryd.ntmps28 rfl rfl (ltb rfl) rfl (leb rfl) rfl ?_)
  intro fr6
  refine AC.seq ?_
  refine AC.region ?_
  refine AO.op rfl (AOp.assign rfl rfl (ltb rfl) rfl ?_)
  refine AO.objs (obs' := [.fix 24 [.d (dfl (0 : Nat)), .d (dfl (0 : Nat)), .d (dfl (0 : Nat)), .d (dfl (0 : Nat)), .d (dfl (0 : Nat)), .d (dfl (0 : Nat)), .d (dfl (0 : Nat)), .d (dfl (0 : Nat)), .d (dfl (0 : Nat))], .frame fr3 [(0, .ptr 0 0)], .fix 24 [.d (dfl (0 : Nat)), .d (dfl (0 : Nat)), .d (dfl (0 : Nat)), .d (dfl (0 : Nat)), .d (dfl (0 : Nat)), .d (dfl (0 : Nat)), .d (dfl (0 : Nat)), .d (dfl (0 : Nat)), .d (dfl (0 : Nat))], .fix 24 [.d (dfl y1.data.e0), .d (dfl y1.data.e1), .d (dfl (0 : Nat)), .d (dfl (0 : Nat)), .d (dfl (0 : Nat)), .d (dfl (0 : Nat)), .d (dfl (0 : Nat)), .d (dfl (0 : Nat)), .d (dfl (0 : Nat))], .dead, .dead, .frame fr6 [(0, .d (.pt (c_TR3_Mat y1))), (2, .ptr 2 0), (3, .ptr 3 0), (5, .d (di .i64 (2 : Int))), (8, .d (di .i64 (2 : Int))), (14, .d (dfl y1.data.e1)), (15, .ptr 3 1)]]) rfl ?_
  refine AO.nil ?_
  change AC _ _ _ _
  refine AC.seq ?_
  refine AC.seq ?_
  refine AC.region ?_
  refine AO.op rfl (AOp.move rfl rfl (ltb rfl) rfl ?_)
  refine AO.op rfl (AOp.i2i rfl rfl (ltb rfl) rfl Tryd.underlying3 Tryd.underlying67 (show IntKind.u64.wrap (0 : Int) = (0 : Int) by decide) ?_)
  refine AO.op rfl (AOp.igtr rfl rfl (ltb rfl) rfl rfl ?_)
  refine AO.nil ?_
  change AC _ _ _ _
  refine AC.condF rfl rfl ?_
  refine AC.skip ?_
  change AC _ _ _ _
  refine AC.seq ?_
  refine AC.seq ?_
  refine AC.region ?_
  refine AO.op rfl (AOp.move rfl rfl (ltb rfl) rfl ?_)
  refine AO.op rfl (AOp.i2i rfl rfl (ltb rfl) rfl Tryd.underlying3 Tryd.underlying67 (show IntKind.u64.wrap (2 : Int) = (2 : Int) by decide) ?_)
  refine AO.op rfl (AOp.igtr rfl rfl (ltb rfl) rfl rfl ?_)
  refine AO.nil ?_
  change AC _ _ _ _
  refine AC.condF rfl rfl ?_
  refine AC.skip ?_
  change AC _ _ _ _
  refine AC.seq ?_
  refine AC.seq ?_
  refine AC.region ?_
  refine AO.op rfl (AOp.move rfl rfl (ltb rfl) rfl ?_)
  refine AO.op rfl (AOp.nilCheck rfl rfl (ltb rfl) rfl rfl ?_)
  refine AO.op rfl (AOp.fieldAddrPt rfl rfl (ltb rfl) rfl fo51_0 ?_)
  refine AO.op rfl (AOp.loadEp rfl rfl (ltb rfl) rfl agg49 rfl ?_)
  refine AO.op rfl (AOp.ptrNilEql rfl rfl (ltb rfl) rfl rfl pmeth49 ?_)
  refine AO.nil ?_
  change AC _ _ _ _
  refine AC.condF rfl rfl ?_
  refine AC.skip ?_
  change AC _ _ _ _
  refine AC.seq ?_
  refine AC.region ?_
  refine AO.op rfl (AOp.move rfl rfl (ltb rfl) rfl ?_)
  refine AO.op rfl (AOp.nilCheck rfl rfl (ltb rfl) rfl rfl ?_)
  refine AO.op rfl (AOp.fieldAddrPt rfl rfl (ltb rfl) rfl fo51_0 ?_)
  refine AO.op rfl (AOp.loadEp rfl rfl (ltb rfl) rfl agg49 rfl ?_)
  refine AO.op rfl (AOp.move rfl rfl (ltb rfl) rfl ?_)
  refine AO.op rfl (AOp.imul rfl rfl (ltb rfl) rfl rfl (show (0 : Int) * (3 : Int) = (0 : Int) by decide) (by decide) (by decide) ?_)
  refine AO.op rfl (AOp.move rfl rfl (ltb rfl) rfl ?_)
  refine AO.op rfl (AOp.iadd rfl rfl (ltb rfl) rfl rfl (show (0 : Int) + (2 : Int) = (2 : Int) by decide) (by decide) (by decide) ?_)
  refine AO.op rfl (AOp.nilCheck rfl rfl (ltb rfl) rfl rfl ?_)
  refine AO.op rfl (AOp.indexArrD rfl rfl (ltb rfl) rfl rfl ar61 (by decide) (by decide) ?_)
  refine AO.op rfl (AOp.loadEp rfl rfl (ltb rfl) rfl agg22 rfl ?_)
  refine AO.op rfl (AOp.assign rfl rfl (ltb rfl) rfl ?_)
  refine AO.nil ?_
  change AC _ _ _ _
  refine AC.ret ?_
  refine inlret (ob' := [.fix 24 [.d (dfl (0 : Nat)), .d (dfl (0 : Nat)), .d (dfl (0 : Nat)), .d (dfl (0 : Nat)), .d (dfl (0 : Nat)), .d (dfl (0 : Nat)), .d (dfl (0 : Nat)), .d (dfl (0 : Nat)), .d (dfl (0 : Nat))], .frame fr3 [(0, .ptr 0 0)], .fix 24 [.d (dfl (0 : Nat)), .d (dfl (0 : Nat)), .d (dfl (0 : Nat)), .d (dfl (0 : Nat)), .d (dfl (0 : Nat)), .d (dfl (0 : Nat)), .d (dfl (0 : Nat)), .d (dfl (0 : Nat)), .d (dfl (0 : Nat))], .fix 24 [.d (dfl y1.data.e0), .d (dfl y1.data.e1), .d (dfl (0 : Nat)), .d (dfl (0 : Nat)), .d (dfl (0 : Nat)), .d (dfl (0 : Nat)), .d (dfl (0 : Nat)), .d (dfl (0 : Nat)), .d (dfl (0 : Nat))], .dead, .dead, .dead]) (e' := [(0, .d (.pt (c_TR3_Mat y1))), (2, .ptr 2 0), (3, .ptr 3 0), (5, .d (di .i64 (2 : Int))), (8, .d (di .i64 (2 : Int))), (14, .d (dfl y1.data.e1)), (15, .ptr 3 1)]) (r := .d (dfl y1.data.e2)) rfl rfl rfl ?_
  change AO _ _ _ _ _
  refine AO.op rfl (AOp.indexArrO rfl rfl (ltb rfl) rfl rfl ar24 (by decide) (by decide) (show _ = 2 by first | rfl | decide) ?_)
  refine AO.op rfl (AOp.store rfl rfl rfl rfl size22 rfl rfl rfl (leb rfl) ?_)
  refine AO.objs (obs' := [.fix 24 [.d (dfl (0 : Nat)), .d (dfl (0 : Nat)), .d (dfl (0 : Nat)), .d (dfl (0 : Nat)), .d (dfl (0 : Nat)), .d (dfl (0 : Nat)), .d (dfl (0 : Nat)), .d (dfl (0 : Nat)), .d (dfl (0 : Nat))], .frame fr3 [(0, .ptr 0 0)], .fix 24 [.d (dfl (0 : Nat)), .d (dfl (0 : Nat)), .d (dfl (0 : Nat)), .d (dfl (0 : Nat)), .d (dfl (0 : Nat)), .d (dfl (0 : Nat)), .d (dfl (0 : Nat)), .d (dfl (0 : Nat)), .d (dfl (0 : Nat))], .fix 24 [.d (dfl y1.data.e0), .d (dfl y1.data.e1), .d (dfl y1.data.e2), .d (dfl (0 : Nat)), .d (dfl (0 : Nat)), .d (dfl (0 : Nat)), .d (dfl (0 : Nat)), .d (dfl (0 : Nat)), .d (dfl (0 : Nat))], .dead, .dead, .dead]) rfl ?_
  refine AO.nil ?_
  change AC _ _ _ _
  refine AC.region ?_
  refine AO.op rfl (AOp.iadd rfl rfl (ltb rfl) rfl rfl (show (2 : Int) + (1 : Int) = (3 : Int) by decide) (by decide) (by decide) ?_)
  refine AO.op rfl (AOp.move rfl rfl (ltb rfl) rfl ?_)
  refine AO.nil ?_
  change ACL _ _ _ _
  refine ACL.round ?_
  refine AC.seq ?_
  refine AC.region ?_
  refine AO.op rfl (AOp.ilss rfl rfl (ltb rfl) rfl rfl ?_)
  refine AO.nil ?_
  change AC _ _ _ _
  refine AC.seq ?_
  refine AC.condT rfl rfl ?_
  refine AC.skip ?_
  change AC _ _ _ _
  refine AC.seq ?_
  refine AC.block ?_
  refine AC.seq ?_
  refine AC.region ?_
  refine AO.op rfl (AOp.move rfl rfl (ltb rfl) rfl ?_)
  refine AO.op rfl (AOp.assign rfl rfl (ltb rfl) rfl ?_)
  refine AO.nil ?_
  change AC _ _ _ _
  refine AC.region ?_
  refine AO.op rfl (AOp.move rfl rfl (ltb rfl) rfl ?_)
  refine AO.op rfl (AOp.move rfl rfl (ltb rfl) rfl ?_)
  refine AO.op rfl (AOp.move rfl rfl (ltb rfl) rfl ?_)
  refine AO.op rfl (AOp.iquo rfl rfl (ltb rfl) rfl rfl (by decide) (show Int.tdiv (3 : Int) (3 : Int) = (1 : Int) by decide) (by decide) (by decide) ?_)
  refine AO.op rfl (AOp.move rfl rfl (ltb rfl) rfl ?_)
  refine AO.op rfl (AOp.irem rfl rfl (ltb rfl) rfl rfl (by decide) (show Int.tmod (3 : Int) (3 : Int) = (0 : Int) by decide) ?_)
  refine AO.op rfl (AOp.inl [0, 2, 3, 5, 8, 14, 15] (by kernel_rfl) Tryd.func28 rfl Tryd.ntmps28 rfl rfl (ltb rfl) rfl (leb rfl) rfl ?_)
  intro fr7
  refine AC.seq ?_
  refine AC.region ?_
  refine AO.op rfl (AOp.assign rfl rfl (ltb rfl) rfl ?_)
  refine AO.objs (obs' := [.fix 24 [.d (dfl (0 : Nat)), .d (dfl (0 : Nat)), .d (dfl (0 : Nat)), .d (dfl (0 : Nat)), .d (dfl (0 : Nat)), .d (dfl (0 : Nat)), .d (dfl (0 : Nat)), .d (dfl (0 : Nat)), .d (dfl (0 : Nat))], .frame fr3 [(0, .ptr 0 0)], .fix 24 [.d (dfl (0 : Nat)), .d (dfl (0 : Nat)), .d (dfl (0 : Nat)), .d (dfl (0 : Nat)), .d (dfl (0 : Nat)), .d (dfl (0 : Nat)), .d (dfl (0 : Nat)), .d (dfl (0 : Nat)), .d (dfl (0 : Nat))], .fix 24 [.d (dfl y1.data.e0), .d (dfl y1.data.e1), .d (dfl y1.data.e2), .d (dfl (0 : Nat)), .d (dfl (0 : Nat)), .d (dfl (0 : Nat)), .d (dfl (0 : Nat)), .d (dfl (0 : Nat)), .d (dfl (0 : Nat))], .dead, .dead, .dead, .frame fr7 [(0, .d (.pt (c_TR3_Mat y1))), (2, .ptr 2 0), (3, .ptr 3 0), (5, .d (di .i64 (3 : Int))), (8, .d (di .i64 (3 : Int))), (14, .d (dfl y1.data.e2)), (15, .ptr 3 2)]]) rfl ?_
  refine AO.nil ?_
  change AC _ _ _ _
  refine AC.seq ?_
  refine AC.seq ?_
  refine AC.region ?_
  refine AO.op rfl (AOp.move rfl rfl (ltb rfl) rfl ?_)
  refine AO.op rfl (AOp.i2i rfl rfl (ltb rfl) rfl Tryd.underlying3 Tryd.underlying67 (show IntKind.u64.wrap (1 : Int) = (1 : Int) by decide) ?_)
  refine AO.op rfl (AOp.igtr rfl rfl (ltb rfl) rfl rfl ?_)
  refine AO.nil ?_
  change AC _ _ _ _
  refine AC.condF rfl rfl ?_
  refine AC.skip ?_
  change AC _ _ _ _
  refine AC.seq ?_
  refine AC.seq ?_
  refine AC.region ?_
  refine AO.op rfl (AOp.move rfl rfl (ltb rfl) rfl ?_)
  refine AO.op rfl (AOp.i2i rfl rfl (ltb rfl) rfl Tryd.underlying3 Tryd.underlying67 (show IntKind.u64.wrap (0 : Int) = (0 : Int) by decide) ?_)
  refine AO.op rfl (AOp.igtr rfl rfl (ltb rfl) rfl rfl ?_)
  refine AO.nil ?_
  change AC _ _ _ _
  refine AC.condF rfl rfl ?_
  refine AC.skip ?_
  change AC _ _ _ _
  refine AC.seq ?_
  refine AC.seq ?_
  refine AC.region ?_
  refine AO.op rfl (AOp.move rfl rfl (ltb rfl) rfl ?_)
  refine AO.op rfl (AOp.nilCheck rfl rfl (ltb rfl) rfl rfl ?_)
  refine AO.op rfl (AOp.fieldAddrPt rfl rfl (ltb rfl) rfl fo51_0 ?_)
  refine AO.op rfl (AOp.loadEp rfl rfl (ltb rfl) rfl agg49 rfl ?_)
  refine AO.op rfl (AOp.ptrNilEql rfl rfl (ltb rfl) rfl rfl pmeth49 ?_)
  refine AO.nil ?_
  change AC _ _ _ _
  refine AC.condF rfl rfl ?_
  refine AC.skip ?_
  change AC _ _ _ _
  refine AC.seq ?_
  refine AC.region ?_
  refine AO.op rfl (AOp.move rfl rfl (ltb rfl) rfl ?_)
  refine AO.op rfl (AOp.nilCheck rfl rfl (ltb rfl) rfl rfl ?_)
  refine AO.op rfl (AOp.fieldAddrPt rfl rfl (ltb rfl) rfl fo51_0 ?_)
  refine AO.op rfl (AOp.loadEp rfl rfl (ltb rfl) rfl agg49 rfl ?_)
  refine AO.op rfl (AOp.move rfl rfl (ltb rfl) rfl ?_)
  refine AO.op rfl (AOp.imul rfl rfl (ltb rfl) rfl rfl (show (1 : Int) * (3 : Int) = (3 : Int) by decide) (by decide) (by decide) ?_)
  refine AO.op rfl (AOp.move rfl rfl (ltb rfl) rfl ?_)
  refine AO.op rfl (AOp.iadd rfl rfl (ltb rfl) rfl rfl (show (3 : Int) + (0 : Int) = (3 : Int) by decide) (by decide) (by decide) ?_)
  refine AO.op rfl (AOp.nilCheck rfl rfl (ltb rfl) rfl rfl ?_)
  refine AO.op rfl (AOp.indexArrD rfl rfl (ltb rfl) rfl rfl ar61 (by decide) (by decide) ?_)
  refine AO.op rfl (AOp.loadEp rfl rfl (ltb rfl) rfl agg22 rfl ?_)
  refine AO.op rfl (AOp.assign rfl rfl (ltb rfl) rfl ?_)
  refine AO.nil ?_
  change AC _ _ _ _
  refine AC.ret ?_
  refine inlret (ob' := [.fix 24 [.d (dfl (0 : Nat)), .d (dfl (0 : Nat)), .d (dfl (0 : Nat)), .d (dfl (0 : Nat)), .d (dfl (0 : Nat)), .d (dfl (0 : Nat)), .d (dfl (0 : Nat)), .d (dfl (0 : Nat)), .d (dfl (0 : Nat))], .frame fr3 [(0, .ptr 0 0)], .fix 24 [.d (dfl (0 : Nat)), .d (dfl (0 : Nat)), .d (dfl (0 : Nat)), .d (dfl (0 : Nat)), .d (dfl (0 : Nat)), .d (dfl (0 : Nat)), .d (dfl (0 : Nat)), .d (dfl (0 : Nat)), .d (dfl (0 : Nat))], .fix 24 [.d (dfl y1.data.e0), .d (dfl y1.data.e1), .d (dfl y1.data.e2), .d (dfl (0 : Nat)), .d (dfl (0 : Nat)), .d (dfl (0 : Nat)), .d (dfl (0 : Nat)), .d (dfl (0 : Nat)), .d (dfl (0 : Nat))], .dead, .dead, .dead, .dead]) (e' := [(0, .d (.pt (c_TR3_Mat y1))), (2, .ptr 2 0), (3, .ptr 3 0), (5, .d (di .i64 (3 : Int))), (8, .d (di .i64 (3 : Int))), (14, .d (dfl y1.data.e2)), (15, .ptr 3 2)]) (r := .d (dfl y1.data.e3)) rfl rfl rfl ?_
  change AO _ _ _ _ _
  refine AO.op rfl (AOp.indexArrO rfl rfl (ltb rfl) rfl rfl ar24 (by decide) (by decide) (show _ = 3 by first | rfl | decide) ?_)
  refine AO.op rfl (AOp.store rfl rfl rfl rfl size22 rfl rfl rfl (leb rfl) ?_)
  refine AO.objs (obs' := [.fix 24 [.d (dfl (0 : Nat)), .d (dfl (0 : Nat)), .d (dfl (0 : Nat)), .d (dfl (0 : Nat)), .d (dfl (0 : Nat)), .d (dfl (0 : Nat)), .d (dfl (0 : Nat)), .d (dfl (0 : Nat)), .d (dfl (0 : Nat))], .frame fr3 [(0, .ptr 0 0)], .fix 24 [.d (dfl (0 : Nat)), .d (dfl (0 : Nat)), .d (dfl (0 : Nat)), .d (dfl (0 : Nat)), .d (dfl (0 : Nat)), .d (dfl (0 : Nat)), .d (dfl (0 : Nat)), .d (dfl (0 : Nat)), .d (dfl (0 : Nat))], .fix 24 [.d (dfl y1.data.e0), .d (dfl y1.data.e1), .d (dfl y1.data.e2), .d (dfl y1.data.e3), .d (dfl (0 : Nat)), .d (dfl (0 : Nat)), .d (dfl (0 : Nat)), .d (dfl (0 : Nat)), .d (dfl (0 : Nat))], .dead, .dead, .dead, .dead]) rfl ?_
  refine AO.nil ?_
  change AC _ _ _ _
  refine AC.region ?_
  refine AO.op rfl (AOp.iadd rfl rfl (ltb rfl) rfl rfl (show (3 : Int) + (1 : Int) = (4 : Int) by decide) (by decide) (by decide) ?_)
  refine AO.op rfl (AOp.move rfl rfl (ltb rfl) rfl ?_)
  refine AO.nil ?_
  change ACL _ _ _ _
  refine ACL.round ?_
  refine AC.seq ?_
  refine AC.region ?_
  refine AO.op rfl (AOp.ilss rfl rfl (ltb rfl) rfl rfl ?_)
  refine AO.nil ?_
  change AC _ _ _ _
  refine AC.seq ?_
  refine AC.condT rfl rfl ?_
  refine AC.skip ?_
  change AC _ _ _ _
  refine AC.seq ?_
  refine AC.block ?_
  refine AC.seq ?_
  refine AC.region ?_
  refine AO.op rfl (AOp.move rfl rfl (ltb rfl) rfl ?_)
  refine AO.op rfl (AOp.assign rfl rfl (ltb rfl) rfl ?_)
  refine AO.nil ?_
  change AC _ _ _ _
  refine AC.region ?_
  refine AO.op rfl (AOp.move rfl rfl (ltb rfl) rfl ?_)
  refine AO.op rfl (AOp.move rfl rfl (ltb rfl) rfl ?_)
  refine AO.op rfl (AOp.move rfl rfl (ltb rfl) rfl ?_)
  refine AO.op rfl (AOp.iquo rfl rfl (ltb rfl) rfl rfl (by decide) (show Int.tdiv (4 : Int) (3 : Int) = (1 : Int) by decide) (by decide) (by decide) ?_)
  refine AO.op rfl (AOp.move rfl rfl (ltb rfl) rfl ?_)
  refine AO.op rfl (AOp.irem rfl rfl (ltb rfl) rfl rfl (by decide) (show Int.tmod (4 : Int) (3 : Int) = (1 : Int) by decide) ?_)
  refine AO.op rfl (AOp.inl [0, 2, 3, 5, 8, 14, 15] (by kernel_rfl) Tryd.func28 rfl Tryd.ntmps28 rfl rfl (ltb rfl) rfl (leb rfl) rfl ?_)
  intro fr8
  refine AC.seq ?_
  refine AC.region ?_
  refine AO.op rfl (AOp.assign rfl rfl (ltb rfl) rfl ?_)
  refine AO.objs (obs' := [.fix 24 [.d (dfl (0 : Nat)), .d (dfl (0 : Nat)), .d (dfl (0 : Nat)), .d (dfl (0 : Nat)), .d (dfl (0 : Nat)), .d (dfl (0 : Nat)), .d (dfl (0 : Nat)), .d (dfl (0 : Nat)), .d (dfl (0 : Nat))], .frame fr3 [(0, .ptr 0 0)], .fix 24 [.d (dfl (0 : Nat)), .d (dfl (0 : Nat)), .d (dfl (0 : Nat)), .d (dfl (0 : Nat)), .d (dfl (0 : Nat)), .d (dfl (0 : Nat)), .d (dfl (0 : Nat)), .d (dfl (0 : Nat)), .d (dfl (0 : Nat))], .fix 24 [.d (dfl y1.data.e0), .d (dfl y1.data.e1), .d (dfl y1.data.e2), .d (dfl y1.data.e3), .d (dfl (0 : Nat)), .d (dfl (0 : Nat)), .d (dfl (0 : Nat)), .d (dfl (0 : Nat)), .d (dfl (0 : Nat))], .dead, .dead, .dead, .dead, .frame fr8 [(0, .d (.pt (c_TR3_Mat y1))), (2, .ptr 2 0), (3, .ptr 3 0), (5, .d (di .i64 (4 : Int))), (8, .d (di .i64 (4 : Int))), (14, .d (dfl y1.data.e3)), (15, .ptr 3 3)]]) rfl ?_
  refine AO.nil ?_
  change AC _ _ _ _
  refine AC.seq ?_
  refine AC.seq ?_
  refine AC.region ?_
  refine AO.op rfl (AOp.move rfl rfl (ltb rfl) rfl ?_)
  refine AO.op rfl (AOp.i2i rfl rfl (ltb rfl) rfl Tryd.underlying3 Tryd.underlying67 (show IntKind.u64.wrap (1 : Int) = (1 : Int) by decide) ?_)
  refine AO.op rfl (AOp.igtr rfl rfl (ltb rfl) rfl rfl ?_)
  refine AO.nil ?_
  change AC _ _ _ _
  refine AC.condF rfl rfl ?_
  refine AC.skip ?_
  change AC _ _ _ _
  refine AC.seq ?_
  refine AC.seq ?_
  refine AC.region ?_
  refine AO.op rfl (AOp.move rfl rfl (ltb rfl) rfl ?_)
  refine AO.op rfl (AOp.i2i rfl rfl (ltb rfl) rfl Tryd.underlying3 Tryd.underlying67 (show IntKind.u64.wrap (1 : Int) = (1 : Int) by decide) ?_)
  refine AO.op rfl (AOp.igtr rfl rfl (ltb rfl) rfl rfl ?_)
  refine AO.nil ?_
  change AC _ _ _ _
  refine AC.condF rfl rfl ?_
  refine AC.skip ?_
  change AC _ _ _ _
  refine AC.seq ?_
  refine AC.seq ?_
  refine AC.region ?_
  refine AO.op rfl (AOp.move rfl rfl (ltb rfl) rfl ?_)
  refine AO.op rfl (AOp.nilCheck rfl rfl (ltb rfl) rfl rfl ?_)
  refine AO.op rfl (AOp.fieldAddrPt rfl rfl (ltb rfl) rfl fo51_0 ?_)
  refine AO.op rfl (AOp.loadEp rfl rfl (ltb rfl) rfl agg49 rfl ?_)
  refine AO.op rfl (AOp.ptrNilEql rfl rfl (ltb rfl) rfl rfl pmeth49 ?_)
  refine AO.nil ?_
  change AC _ _ _ _
  refine AC.condF rfl rfl ?_
  refine AC.skip ?_
  change AC _ _ _ _
  refine AC.seq ?_
  refine AC.region ?_
  refine AO.op rfl (AOp.move rfl rfl (ltb rfl) rfl ?_)
  refine AO.op rfl (AOp.nilCheck rfl rfl (ltb rfl) rfl rfl ?_)
  refine AO.op rfl (AOp.fieldAddrPt rfl rfl (ltb rfl) rfl fo51_0 ?_)
  refine AO.op rfl (AOp.loadEp rfl rfl (ltb rfl) rfl agg49 rfl ?_)
  refine AO.op rfl (AOp.move rfl rfl (ltb rfl) rfl ?_)
  refine AO.op rfl (AOp.imul rfl rfl (ltb rfl) rfl rfl (show (1 : Int) * (3 : Int) = (3 : Int) by decide) (by decide) (by decide) ?_)
  refine AO.op rfl (AOp.move rfl rfl (ltb rfl) rfl ?_)
  refine AO.op rfl (AOp.iadd rfl rfl (ltb rfl) rfl rfl (show (3 : Int) + (1 : Int) = (4 : Int) by decide) (by decide) (by decide) ?_)
  refine AO.op rfl (AOp.nilCheck rfl rfl (ltb rfl) rfl rfl ?_)
  refine AO.op rfl (AOp.indexArrD rfl rfl (ltb rfl) rfl rfl ar61 (by decide) (by decide) ?_)
  refine AO.op rfl (AOp.loadEp rfl rfl (ltb rfl) rfl agg22 rfl ?_)
  refine AO.op rfl (AOp.assign rfl rfl (ltb rfl) rfl ?_)
  refine AO.nil ?_
  change AC _ _ _ _
  refine AC.ret ?_
  refine inlret (ob' := [.fix 24 [.d (dfl (0 : Nat)), .d (dfl (0 : Nat)), .d (dfl (0 : Nat)), .d (dfl (0 : Nat)), .d (dfl (0 : Nat)), .d (dfl (0 : Nat)), .d (dfl (0 : Nat)), .d (dfl (0 : Nat)), .d (dfl (0 : Nat))], .frame fr3 [(0, .ptr 0 0)], .fix 24 [.d (dfl (0 : Nat)), .d (dfl (0 : Nat)), .d (dfl (0 : Nat)), .d (dfl (0 : Nat)), .d (dfl (0 : Nat)), .d (dfl (0 : Nat)), .d (dfl (0 : Nat)), .d (dfl (0 : Nat)), .d (dfl (0 : Nat))], .fix 24 [.d (dfl y1.data.e0), .d (dfl y1.data.e1), .d (dfl y1.data.e2), .d (dfl y1.data.e3), .d (dfl (0 : Nat)), .d (dfl (0 : Nat)), .d (dfl (0 : Nat)), .d (dfl (0 : Nat)), .d (dfl (0 : Nat))], .dead, .dead, .dead, .dead, .dead]) (e' := [(0, .d (.pt (c_TR3_Mat y1))), (2, .ptr 2 0), (3, .ptr 3 0), (5, .d (di .i64 (4 : Int))), (8, .d (di .i64 (4 : Int))), (14, .d (dfl y1.data.e3)), (15, .ptr 3 3)]) (r := .d (dfl y1.data.e4)) rfl rfl rfl ?_
  change AO _ _ _ _ _
  refine AO.op rfl (AOp.indexArrO rfl rfl (ltb rfl) rfl rfl ar24 (by decide) (by decide) (show _ = 4 by first | rfl | decide) ?_)
  refine AO.op rfl (AOp.store rfl rfl rfl rfl size22 rfl rfl rfl (leb rfl) ?_)
  refine AO.objs (obs' := [.fix 24 [.d (dfl (0 : Nat)), .d (dfl (0 : Nat)), .d (dfl (0 : Nat)), .d (dfl (0 : Nat)), .d (dfl (0 : Nat)), .d (dfl (0 : Nat)), .d (dfl (0 : Nat)), .d (dfl (0 : Nat)), .d (dfl (0 : Nat))], .frame fr3 [(0, .ptr 0 0)], .fix 24 [.d (dfl (0 : Nat)), .d (dfl (0 : Nat)), .d (dfl (0 : Nat)), .d (dfl (0 : Nat)), .d (dfl (0 : Nat)), .d (dfl (0 : Nat)), .d (dfl (0 : Nat)), .d (dfl (0 : Nat)), .d (dfl (0 : Nat))], .fix 24 [.d (dfl y1.data.e0), .d (dfl y1.data.e1), .d (dfl y1.data.e2), .d (dfl y1.data.e3), .d (dfl y1.data.e4), .d (dfl (0 : Nat)), .d (dfl (0 : Nat)), .d (dfl (0 : Nat)), .d (dfl (0 : Nat))], .dead, .dead, .dead, .dead, .dead]) rfl ?_
  refine AO.nil ?_
  change AC _ _ _ _
  refine AC.region ?_
  refine AO.op rfl (AOp.iadd rfl rfl (ltb rfl) rfl rfl (show (4 : Int) + (1 : Int) = (5 : Int) by decide) (by decide) (by decide) ?_)
  refine AO.op rfl (AOp.move rfl rfl (ltb rfl) rfl ?_)
  refine AO.nil ?_
  change ACL _ _ _ _
  refine ACL.round ?_
  refine AC.seq ?_
  refine AC.region ?_
  refine AO.op rfl (AOp.ilss rfl rfl (ltb rfl) rfl rfl ?_)
  refine AO.nil ?_
  change AC _ _ _ _
  refine AC.seq ?_
  refine AC.condT rfl rfl ?_
  refine AC.skip ?_
  change AC _ _ _ _
  refine AC.seq ?_
  refine AC.block ?_
  refine AC.seq ?_
  refine AC.region ?_
  refine AO.op rfl (AOp.move rfl rfl (ltb rfl) rfl ?_)
  refine AO.op rfl (AOp.assign rfl rfl (ltb rfl) rfl ?_)
  refine AO.nil ?_
  change AC _ _ _ _
  refine AC.region ?_
  refine AO.op rfl (AOp.move rfl rfl (ltb rfl) rfl ?_)
  refine AO.op rfl (AOp.move rfl rfl (ltb rfl) rfl ?_)
  refine AO.op rfl (AOp.move rfl rfl (ltb rfl) rfl ?_)
  refine AO.op rfl (AOp.iquo rfl rfl (ltb rfl) rfl rfl (by decide) (show Int.tdiv (5 : Int) (3 : Int) = (1 : Int) by decide) (by decide) (by decide) ?_)
  refine AO.op rfl (AOp.move rfl rfl (ltb rfl) rfl ?_)
  refine AO.op rfl (AOp.irem rfl rfl (ltb rfl) rfl rfl (by decide) (show Int.tmod (5 : Int) (3 : Int) = (2 : Int) by decide) ?_)
  refine AO.op rfl (AOp.inl [0, 2, 3, 5, 8, 14, 15] (by kernel_rfl) Tryd.func28 rfl Tryd.ntmps28 rfl rfl (ltb rfl) rfl (leb rfl) rfl ?_)
  intro fr9
  refine AC.seq ?_
  refine AC.region ?_
  refine AO.op rfl (AOp.assign rfl rfl (ltb rfl) rfl ?_)
  refine AO.objs (obs' := [.fix 24 [.d (dfl (0 : Nat)), .d (dfl (0 : Nat)), .d (dfl (0 : Nat)), .d (dfl (0 : Nat)), .d (dfl (0 : Nat)), .d (dfl (0 : Nat)), .d (dfl (0 : Nat)), .d (dfl (0 : Nat)), .d (dfl (0 : Nat))], .frame fr3 [(0, .ptr 0 0)], .fix 24 [.d (dfl (0 : Nat)), .d (dfl (0 : Nat)), .d (dfl (0 : Nat)), .d (dfl (0 : Nat)), .d (dfl (0 : Nat)), .d (dfl (0 : Nat)), .d (dfl (0 : Nat)), .d (dfl (0 : Nat)), .d (dfl (0 : Nat))], .fix 24 [.d (dfl y1.data.e0), .d (dfl y1.data.e1), .d (dfl y1.data.e2), .d (dfl y1.data.e3), .d (dfl y1.data.e4), .d (dfl (0 : Nat)), .d (dfl (0 : Nat)), .d (dfl (0 : Nat)), .d (dfl (0 : Nat))], .dead, .dead, .dead, .dead, .dead, .frame fr9 [(0, .d (.pt (c_TR3_Mat y1))), (2, .ptr 2 0), (3, .ptr 3 0), (5, .d (di .i64 (5 : Int))), (8, .d (di .i64 (5 : Int))), (14, .d (dfl y1.data.e4)), (15, .ptr 3 4)]]) rfl ?_
  refine AO.nil ?_
  change AC _ _ _ _
  refine AC.seq ?_
  refine AC.seq ?_
  refine AC.region ?_
  refine AO.op rfl (AOp.move rfl rfl (ltb rfl) rfl ?_)
  refine AO.op rfl (AOp.i2i rfl rfl (ltb rfl) rfl Tryd.underlying3 Tryd.underlying67 (show IntKind.u64.wrap (1 : Int) = (1 : Int) by decide) ?_)
  refine AO.op rfl (AOp.igtr rfl rfl (ltb rfl) rfl rfl ?_)
  refine AO.nil ?_
  change AC _ _ _ _
  refine AC.condF rfl rfl ?_
  refine AC.skip ?_
  change AC _ _ _ _
  refine AC.seq ?_
  refine AC.seq ?_
  refine AC.region ?_
  refine AO.op rfl (AOp.move rfl rfl (ltb rfl) rfl ?_)
  refine AO.op rfl (AOp.i2i rfl rfl (ltb rfl) rfl Tryd.underlying3 Tryd.underlying67 (show IntKind.u64.wrap (2 : Int) = (2 : Int) by decide) ?_)
  refine AO.op rfl (AOp.igtr rfl rfl (ltb rfl) rfl rfl ?_)
  refine AO.nil ?_
  change AC _ _ _ _
  refine AC.condF rfl rfl ?_
  refine AC.skip ?_
  change AC _ _ _ _
  refine AC.seq ?_
  refine AC.seq ?_
  refine AC.region ?_
  refine AO.op rfl (AOp.move rfl rfl (ltb rfl) rfl ?_)
  refine AO.op rfl (AOp.nilCheck rfl rfl (ltb rfl) rfl rfl ?_)
  refine AO.op rfl (AOp.fieldAddrPt rfl rfl (ltb rfl) rfl fo51_0 ?_)
  refine AO.op rfl (AOp.loadEp rfl rfl (ltb rfl) rfl agg49 rfl ?_)
  refine AO.op rfl (AOp.ptrNilEql rfl rfl (ltb rfl) rfl rfl pmeth49 ?_)
  refine AO.nil ?_
  change AC _ _ _ _
  refine AC.condF rfl rfl ?_
  refine AC.skip ?_
  change AC _ _ _ _
  refine AC.seq ?_
  refine AC.region ?_
  refine AO.op rfl (AOp.move rfl rfl (ltb rfl) rfl ?_)
  refine AO.op rfl (AOp.nilCheck rfl rfl (ltb rfl) rfl rfl ?_)
  refine AO.op rfl (AOp.fieldAddrPt rfl rfl (ltb rfl) rfl fo51_0 ?_)
  refine AO.op rfl (AOp.loadEp rfl rfl (ltb rfl) rfl agg49 rfl ?_)
  refine AO.op rfl (AOp.move rfl rfl (ltb rfl) rfl ?_)
  refine AO.op rfl (AOp.imul rfl rfl (ltb rfl) rfl rfl (show (1 : Int) * (3 : Int) = (3 : Int) by decide) (by decide) (by decide) ?_)
  refine AO.op rfl (AOp.move rfl rfl (ltb rfl) rfl ?_)
  refine AO.op rfl (AOp.iadd rfl rfl (ltb rfl) rfl rfl (show (3 : Int) + (2 : Int) = (5 : Int) by decide) (by decide) (by decide) ?_)
  refine AO.op rfl (AOp.nilCheck rfl rfl (ltb rfl) rfl rfl ?_)
  refine AO.op rfl (AOp.indexArrD rfl rfl (ltb rfl) rfl rfl ar61 (by decide) (by decide) ?_)
  refine AO.op rfl (AOp.loadEp rfl rfl (ltb rfl) rfl agg22 rfl ?_)
  refine AO.op rfl (AOp.assign rfl rfl (ltb rfl) rfl ?_)
  refine AO.nil ?_
  change AC _ _ _ _
  refine AC.ret ?_
  refine inlret (ob' := [.fix 24 [.d (dfl (0 : Nat)), .d (dfl (0 : Nat)), .d (dfl (0 : Nat)), .d (dfl (0 : Nat)), .d (dfl (0 : Nat)), .d (dfl (0 : Nat)), .d (dfl (0 : Nat)), .d (dfl (0 : Nat)), .d (dfl (0 : Nat))], .frame fr3 [(0, .ptr 0 0)], .fix 24 [.d (dfl (0 : Nat)), .d (dfl (0 : Nat)), .d (dfl (0 : Nat)), .d (dfl (0 : Nat)), .d (dfl (0 : Nat)), .d (dfl (0 : Nat)), .d (dfl (0 : Nat)), .d (dfl (0 : Nat)), .d (dfl (0 : Nat))], .fix 24 [.d (dfl y1.data.e0), .d (dfl y1.data.e1), .d (dfl y1.data.e2), .d (dfl y1.data.e3), .d (dfl y1.data.e4), .d (dfl (0 : Nat)), .d (dfl (0 : Nat)), .d (dfl (0 : Nat)), .d (dfl (0 : Nat))], .dead, .dead, .dead, .dead, .dead, .dead]) (e' := [(0, .d (.pt (c_TR3_Mat y1))), (2, .ptr 2 0), (3, .ptr 3 0), (5, .d (di .i64 (5 : Int))), (8, .d (di .i64 (5 : Int))), (14, .d (dfl y1.data.e4)), (15, .ptr 3 4)]) (r := .d (dfl y1.data.e5)) rfl rfl rfl ?_
  change AO _ _ _ _ _
  refine AO.op rfl (AOp.indexArrO rfl rfl (ltb rfl) rfl rfl ar24 (by decide) (by decide) (show _ = 5 by first | rfl | decide) ?_)
  refine AO.op rfl (AOp.store rfl rfl rfl rfl size22 rfl rfl rfl (leb rfl) ?_)
  refine AO.objs (obs' := [.fix 24 [.d (dfl (0 : Nat)), .d (dfl (0 : Nat)), .d (dfl (0 : Nat)), .d (dfl (0 : Nat)), .d (dfl (0 : Nat)), .d (dfl (0 : Nat)), .d (dfl (0 : Nat)), .d (dfl (0 : Nat)), .d (dfl (0 : Nat))], .frame fr3 [(0, .ptr 0 0)], .fix 24 [.d (dfl (0 : Nat)), .d (dfl (0 : Nat)), .d (dfl (0 : Nat)), .d (dfl (0 : Nat)), .d (dfl (0 : Nat)), .d (dfl (0 : Nat)), .d (dfl (0 : Nat)), .d (dfl (0 : Nat)), .d (dfl (0 : Nat))], .fix 24 [.d (dfl y1.data.e0), .d (dfl y1.data.e1), .d (dfl y1.data.e2), .d (dfl y1.data.e3), .d (dfl y1.data.e4), .d (dfl y1.data.e5), .d (dfl (0 : Nat)), .d (dfl (0 : Nat)), .d (dfl (0 : Nat))], .dead, .dead, .dead, .dead, .dead, .dead]) rfl ?_
  refine AO.nil ?_
  change AC _ _ _ _
  refine AC.region ?_
  refine AO.op rfl (AOp.iadd rfl rfl (ltb rfl) rfl rfl (show (5 : Int) + (1 : Int) = (6 : Int) by decide) (by decide) (by decide) ?_)
  refine AO.op rfl (AOp.move rfl rfl (ltb rfl) rfl ?_)
  refine AO.nil ?_
  change ACL _ _ _ _
  refine ACL.round ?_
  refine AC.seq ?_
  refine AC.region ?_
  refine AO.op rfl (AOp.ilss rfl rfl (ltb rfl) rfl rfl ?_)
  refine AO.nil ?_
  change AC _ _ _ _
  refine AC.seq ?_
  refine AC.condT rfl rfl ?_
  refine AC.skip ?_
  change AC _ _ _ _
  refine AC.seq ?_
  refine AC.block ?_
  refine AC.seq ?_
  refine AC.region ?_
  refine AO.op rfl (AOp.move rfl rfl (ltb rfl) rfl ?_)
  refine AO.op rfl (AOp.assign rfl rfl (ltb rfl) rfl ?_)
  refine AO.nil ?_
  change AC _ _ _ _
  refine AC.region ?_
  refine AO.op rfl (AOp.move rfl rfl (ltb rfl) rfl ?_)
  refine AO.op rfl (AOp.move rfl rfl (ltb rfl) rfl ?_)
  refine AO.op rfl (AOp.move rfl rfl (ltb rfl) rfl ?_)
  refine AO.op rfl (AOp.iquo rfl rfl (ltb rfl) rfl rfl (by decide) (show Int.tdiv (6 : Int) (3 : Int) = (2 : Int) by decide) (by decide) (by decide) ?_)
  refine AO.op rfl (AOp.move rfl rfl (ltb rfl) rfl ?_)
  refine AO.op rfl (AOp.irem rfl rfl (ltb rfl) rfl rfl (by decide) (show Int.tmod (6 : Int) (3 : Int) = (0 : Int) by decide) ?_)
  refine AO.op rfl (AOp.inl [0, 2, 3, 5, 8, 14, 15] (by kernel_rfl) Tryd.func28 rfl Tryd.ntmps28 rfl rfl (ltb rfl) rfl (leb rfl) rfl ?_)
  intro fr10
  refine AC.seq ?_
  refine AC.region ?_
  refine AO.op rfl (AOp.assign rfl rfl (ltb rfl) rfl ?_)
  refine AO.objs (obs' := [.fix 24 [.d (dfl (0 : Nat)), .d (dfl (0 : Nat)), .d (dfl (0 : Nat)), .d (dfl (0 : Nat)), .d (dfl (0 : Nat)), .d (dfl (0 : Nat)), .d (dfl (0 : Nat)), .d (dfl (0 : Nat)), .d (dfl (0 : Nat))], .frame fr3 [(0, .ptr 0 0)], .fix 24 [.d (dfl (0 : Nat)), .d (dfl (0 : Nat)), .d (dfl (0 : Nat)), .d (dfl (0 : Nat)), .d (dfl (0 : Nat)), .d (dfl (0 : Nat)), .d (dfl (0 : Nat)), .d (dfl (0 : Nat)), .d (dfl (0 : Nat))], .fix 24 [.d (dfl y1.data.e0), .d (dfl y1.data.e1), .d (dfl y1.data.e2), .d (dfl y1.data.e3), .d (dfl y1.data.e4), .d (dfl y1.data.e5), .d (dfl (0 : Nat)), .d (dfl (0 : Nat)), .d (dfl (0 : Nat))], .dead, .dead, .dead, .dead, .dead, .dead, .frame fr10 [(0, .d (.pt (c_TR3_Mat y1))), (2, .ptr 2 0), (3, .ptr 3 0), (5, .d (di .i64 (6 : Int))), (8, .d (di .i64 (6 : Int))), (14, .d (dfl y1.data.e5)), (15, .ptr 3 5)]]) rfl ?_
  refine AO.nil ?_
  change AC _ _ _ _
  refine AC.seq ?_
  refine AC.seq ?_
  refine AC.region ?_
  refine AO.op rfl (AOp.move rfl rfl (ltb rfl) rfl ?_)
  refine AO.op rfl (AOp.i2i rfl rfl (ltb rfl) rfl Tryd.underlying3 Tryd.underlying67 (show IntKind.u64.wrap (2 : Int) = (2 : Int) by decide) ?_)
  refine AO.op rfl (AOp.igtr rfl rfl (ltb rfl) rfl rfl ?_)
  refine AO.nil ?_
  change AC _ _ _ _
  refine AC.condF rfl rfl ?_
  refine AC.skip ?_
  change AC _ _ _ _
  refine AC.seq ?_
  refine AC.seq ?_
  refine AC.region ?_
  refine AO.op rfl (AOp.move rfl rfl (ltb rfl) rfl ?_)
  refine AO.op rfl (AOp.i2i rfl rfl (ltb rfl) rfl Tryd.underlying3 Tryd.underlying67 (show IntKind.u64.wrap (0 : Int) = (0 : Int) by decide) ?_)
  refine AO.op rfl (AOp.igtr rfl rfl (ltb rfl) rfl rfl ?_)
  refine AO.nil ?_
  change AC _ _ _ _
  refine AC.condF rfl rfl ?_
  refine AC.skip ?_
  change AC _ _ _ _
  refine AC.seq ?_
  refine AC.seq ?_
  refine AC.region ?_
  refine AO.op rfl (AOp.move rfl rfl (ltb rfl) rfl ?_)
  refine AO.op rfl (AOp.nilCheck rfl rfl (ltb rfl) rfl rfl ?_)
  refine AO.op rfl (AOp.fieldAddrPt rfl rfl (ltb rfl) rfl fo51_0 ?_)
  refine AO.op rfl (AOp.loadEp rfl rfl (ltb rfl) rfl agg49 rfl ?_)
  refine AO.op rfl (AOp.ptrNilEql rfl rfl (ltb rfl) rfl rfl pmeth49 ?_)
  refine AO.nil ?_
  change AC _ _ _ _
  refine AC.condF rfl rfl ?_
  refine AC.skip ?_
  change AC _ _ _ _
  refine AC.seq ?_
  refine AC.region ?_
  refine AO.op rfl (AOp.move rfl rfl (ltb rfl) rfl ?_)
  refine AO.op rfl (AOp.nilCheck rfl rfl (ltb rfl) rfl rfl ?_)
  refine AO.op rfl (AOp.fieldAddrPt rfl rfl (ltb rfl) rfl fo51_0 ?_)
  refine AO.op rfl (AOp.loadEp rfl rfl (ltb rfl) rfl agg49 rfl ?_)
  refine AO.op rfl (AOp.move rfl rfl (ltb rfl) rfl ?_)
  refine AO.op rfl (AOp.imul rfl rfl (ltb rfl) rfl rfl (show (2 : Int) * (3 : Int) = (6 : Int) by decide) (by decide) (by decide) ?_)
  refine AO.op rfl (AOp.move rfl rfl (ltb rfl) rfl ?_)
  refine AO.op rfl (AOp.iadd rfl rfl (ltb rfl) rfl rfl (show (6 : Int) + (0 : Int) = (6 : Int) by decide) (by decide) (by decide) ?_)
  refine AO.op rfl (AOp.nilCheck rfl rfl (ltb rfl) rfl rfl ?_)
  refine AO.op rfl (AOp.indexArrD rfl rfl (ltb rfl) rfl rfl ar61 (by decide) (by decide) ?_)
  refine AO.op rfl (AOp.loadEp rfl rfl (ltb rfl) rfl agg22 rfl ?_)
  refine AO.op rfl (AOp.assign rfl rfl (ltb rfl) rfl ?_)
  refine AO.nil ?_
  change AC _ _ _ _
  refine AC.ret ?_
  refine inlret (ob' := [.fix 24 [.d (dfl (0 : Nat)), .d (dfl (0 : Nat)), .d (dfl (0 : Nat)), .d (dfl (0 : Nat)), .d (dfl (0 : Nat)), .d (dfl (0 : Nat)), .d (dfl (0 : Nat)), .d (dfl (0 : Nat)), .d (dfl (0 : Nat))], .frame fr3 [(0, .ptr 0 0)], .fix 24 [.d (dfl (0 : Nat)), .d (dfl (0 : Nat)), .d (dfl (0 : Nat)), .d (dfl (0 : Nat)), .d (dfl (0 : Nat)), .d (dfl (0 : Nat)), .d (dfl (0 : Nat)), .d (dfl (0 : Nat)), .d (dfl (0 : Nat))], .fix 24 [.d (dfl y1.data.e0), .d (dfl y1.data.e1), .d (dfl y1.data.e2), .d (dfl y1.data.e3), .d (dfl y1.data.e4), .d (dfl y1.data.e5), .d (dfl (0 : Nat)), .d (dfl (0 : Nat)), .d (dfl (0 : Nat))], .dead, .dead, .dead, .dead, .dead, .dead, .dead]) (e' := [(0, .d (.pt (c_TR3_Mat y1))), (2, .ptr 2 0), (3, .ptr 3 0), (5, .d (di .i64 (6 : Int))), (8, .d (di .i64 (6 : Int))), (14, .d (dfl y1.data.e5)), (15, .ptr 3 5)]) (r := .d (dfl y1.data.e6)) rfl rfl rfl ?_
  change AO _ _ _ _ _
  refine AO.op rfl (AOp.indexArrO rfl rfl (ltb rfl) rfl rfl ar24 (by decide) (by decide) (show _ = 6 by first | rfl | decide) ?_)
  refine AO.op rfl (AOp.store rfl rfl rfl rfl size22 rfl rfl rfl (leb rfl) ?_)
  refine AO.objs (obs' := [.fix 24 [.d (dfl (0 : Nat)), .d (dfl (0 : Nat)), .d (dfl (0 : Nat)), .d (dfl (0 : Nat)), .d (dfl (0 : Nat)), .d (dfl (0 : Nat)), .d (dfl (0 : Nat)), .d (dfl (0 : Nat)), .d (dfl (0 : Nat))], .frame fr3 [(0, .ptr 0 0)], .fix 24 [.d (dfl (0 : Nat)), .d (dfl (0 : Nat)), .d (dfl (0 : Nat)), .d (dfl (0 : Nat)), .d (dfl (0 : Nat)), .d (dfl (0 : Nat)), .d (dfl (0 : Nat)), .d (dfl (0 : Nat)), .d (dfl (0 : Nat))], .fix 24 [.d (dfl y1.data.e0), .d (dfl y1.data.e1), .d (dfl y1.data.e2), .d (dfl y1.data.e3), .d (dfl y1.data.e4), .d (dfl y1.data.e5), .d (dfl y1.data.e6), .d (dfl (0 : Nat)), .d (dfl (0 : Nat))], .dead, .dead, .dead, .dead, .dead, .dead, .dead]) rfl ?_
  refine AO.nil ?_
  change AC _ _ _ _
  refine AC.region ?_
  refine AO.op rfl (AOp.iadd rfl rfl (ltb rfl) rfl rfl (show (6 : Int) + (1 : Int) = (7 : Int) by decide) (by decide) (by decide) ?_)
  refine AO.op rfl (AOp.move rfl rfl (ltb rfl) rfl ?_)
  refine AO.nil ?_
  change ACL _ _ _ _
  refine ACL.round ?_
  refine AC.seq ?_
  refine AC.region ?_
  refine AO.op rfl (AOp.ilss rfl rfl (ltb rfl) rfl rfl ?_)
  refine AO.nil ?_
  change AC _ _ _ _
  refine AC.seq ?_
  refine AC.condT rfl rfl ?_
  refine AC.skip ?_
  change AC _ _ _ _
  refine AC.seq ?_
  refine AC.block ?_
  refine AC.seq ?_
  refine AC.region ?_
  refine AO.op rfl (AOp.move rfl rfl (ltb rfl) rfl ?_)
  refine AO.op rfl (AOp.assign rfl rfl (ltb rfl) rfl ?_)
  refine AO.nil ?_
  change AC _ _ _ _
  refine AC.region ?_
  refine AO.op rfl (AOp.move rfl rfl (ltb rfl) rfl ?_)
  refine AO.op rfl (AOp.move rfl rfl (ltb rfl) rfl ?_)
  refine AO.op rfl (AOp.move rfl rfl (ltb rfl) rfl ?_)
  refine AO.op rfl (AOp.iquo rfl rfl (ltb rfl) rfl rfl (by decide) (show Int.tdiv (7 : Int) (3 : Int) = (2 : Int) by decide) (by decide) (by decide) ?_)
  refine AO.op rfl (AOp.move rfl rfl (ltb rfl) rfl ?_)
  refine AO.op rfl (AOp.irem rfl rfl (ltb rfl) rfl rfl (by decide) (show Int.tmod (7 : Int) (3 : Int) = (1 : Int) by decide) ?_)
  refine AO.op rfl (AOp.inl [0, 2, 3, 5, 8, 14, 15] (by kernel_rfl) Tryd.func28 rfl Tryd.ntmps28 rfl rfl (ltb rfl) rfl (leb rfl) rfl ?_)
  intro fr11
  refine AC.seq ?_
  refine AC.region ?_
  refine AO.op rfl (AOp.assign rfl rfl (ltb rfl) rfl ?_)
  refine AO.objs (obs' := [.fix 24 [.d (dfl (0 : Nat)), .d (dfl (0 : Nat)), .d (dfl (0 : Nat)), .d (dfl (0 : Nat)), .d (dfl (0 : Nat)), .d (dfl (0 : Nat)), .d (dfl (0 : Nat)), .d (dfl (0 : Nat)), .d (dfl (0 : Nat))], .frame fr3 [(0, .ptr 0 0)], .fix 24 [.d (dfl (0 : Nat)), .d (dfl (0 : Nat)), .d (dfl (0 : Nat)), .d (dfl (0 : Nat)), .d (dfl (0 : Nat)), .d (dfl (0 : Nat)), .d (dfl (0 : Nat)), .d (dfl (0 : Nat)), .d (dfl (0 : Nat))], .fix 24 [.d (dfl y1.data.e0), .d (dfl y1.data.e1), .d (dfl y1.data.e2), .d (dfl y1.data.e3), .d (dfl y1.data.e4), .d (dfl y1.data.e5), .d (dfl y1.data.e6), .d (dfl (0 : Nat)), .d (dfl (0 : Nat))], .dead, .dead, .dead, .dead, .dead, .dead, .dead, .frame fr11 [(0, .d (.pt (c_TR3_Mat y1))), (2, .ptr 2 0), (3, .ptr 3 0), (5, .d (di .i64 (7 : Int))), (8, .d (di .i64 (7 : Int))), (14, .d (dfl y1.data.e6)), (15, .ptr 3 6)]]) rfl ?_
  refine AO.nil ?_
  change AC _ _ _ _
  refine AC.seq ?_
  refine AC.seq ?_
  refine AC.region ?_
  refine AO.op rfl (AOp.move rfl rfl (ltb rfl) rfl ?_)
  refine AO.op rfl (AOp.i2i rfl rfl (ltb rfl) rfl Tryd.underlying3 Tryd.underlying67 (show IntKind.u64.wrap (2 : Int) = (2 : Int) by decide) ?_)
  refine AO.op rfl (AOp.igtr rfl rfl (ltb rfl) rfl rfl ?_)
  refine AO.nil ?_
  change AC _ _ _ _
  refine AC.condF rfl rfl ?_
  refine AC.skip ?_
  change AC _ _ _ _
  refine AC.seq ?_
  refine AC.seq ?_
  refine AC.region ?_
  refine AO.op rfl (AOp.move rfl rfl (ltb rfl) rfl ?_)
  refine AO.op rfl (AOp.i2i rfl rfl (ltb rfl) rfl Tryd.underlying3 Tryd.underlying67 (show IntKind.u64.wrap (1 : Int) = (1 : Int) by decide) ?_)
  refine AO.op rfl (AOp.igtr rfl rfl (ltb rfl) rfl rfl ?_)
  refine AO.nil ?_
  change AC _ _ _ _
  refine AC.condF rfl rfl ?_
  refine AC.skip ?_
  change AC _ _ _ _
  refine AC.seq ?_
  refine AC.seq ?_
  refine AC.region ?_
  refine AO.op rfl (AOp.move rfl rfl (ltb rfl) rfl ?_)
  refine AO.op rfl (AOp.nilCheck rfl rfl (ltb rfl) rfl rfl ?_)
  refine AO.op rfl (AOp.fieldAddrPt rfl rfl (ltb rfl) rfl fo51_0 ?_)
  refine AO.op rfl (AOp.loadEp rfl rfl (ltb rfl) rfl agg49 rfl ?_)
  refine AO.op rfl (AOp.ptrNilEql rfl rfl (ltb rfl) rfl rfl pmeth49 ?_)
  refine AO.nil ?_
  change AC _ _ _ _
  refine AC.condF rfl rfl ?_
  refine AC.skip ?_
  change AC _ _ _ _
  refine AC.seq ?_
  refine AC.region ?_
  refine AO.op rfl (AOp.move rfl rfl (ltb rfl) rfl ?_)
  refine AO.op rfl (AOp.nilCheck rfl rfl (ltb rfl) rfl rfl ?_)
  refine AO.op rfl (AOp.fieldAddrPt rfl rfl (ltb rfl) rfl fo51_0 ?_)
  refine AO.op rfl (AOp.loadEp rfl rfl (ltb rfl) rfl agg49 rfl ?_)
  refine AO.op rfl (AOp.move rfl rfl (ltb rfl) rfl ?_)
  refine AO.op rfl (AOp.imul rfl rfl (ltb rfl) rfl rfl (show (2 : Int) * (3 : Int) = (6 : Int) by decide) (by decide) (by decide) ?_)
  refine AO.op rfl (AOp.move rfl rfl (ltb rfl) rfl ?_)
  refine AO.op rfl (AOp.iadd rfl rfl (ltb rfl) rfl rfl (show (6 : Int) + (1 : Int) = (7 : Int) by decide) (by decide) (by decide) ?_)
  refine AO.op rfl (AOp.nilCheck rfl rfl (ltb rfl) rfl rfl ?_)
  refine AO.op rfl (AOp.indexArrD rfl rfl (ltb rfl) rfl rfl ar61 (by decide) (by decide) ?_)
  refine AO.op rfl (AOp.loadEp rfl rfl (ltb rfl) rfl agg22 rfl ?_)
  refine AO.op rfl (AOp.assign rfl rfl (ltb rfl) rfl ?_)
  refine AO.nil ?_
  change AC _ _ _ _
  refine AC.ret ?_
  refine inlret (ob' := [.fix 24 [.d (dfl (0 : Nat)), .d (dfl (0 : Nat)), .d (dfl (0 : Nat)), .d (dfl (0 : Nat)), .d (dfl (0 : Nat)), .d (dfl (0 : Nat)), .d (dfl (0 : Nat)), .d (dfl (0 : Nat)), .d (dfl (0 : Nat))], .frame fr3 [(0, .ptr 0 0)], .fix 24 [.d (dfl (0 : Nat)), .d (dfl (0 : Nat)), .d (dfl (0 : Nat)), .d (dfl (0 : Nat)), .d (dfl (0 : Nat)), .d (dfl (0 : Nat)), .d (dfl (0 : Nat)), .d (dfl (0 : Nat)), .d (dfl (0 : Nat))], .fix 24 [.d (dfl y1.data.e0), .d (dfl y1.data.e1), .d (dfl y1.data.e2), .d (dfl y1.data.e3), .d (dfl y1.data.e4), .d (dfl y1.data.e5), .d (dfl y1.data.e6), .d (dfl (0 : Nat)), .d (dfl (0 : Nat))], .dead, .dead, .dead, .dead, .dead, .dead, .dead, .dead]) (e' := [(0, .d (.pt (c_TR3_Mat y1))), (2, .ptr 2 0), (3, .ptr 3 0), (5, .d (di .i64 (7 : Int))), (8, .d (di .i64 (7 : Int))), (14, .d (dfl y1.data.e6)), (15, .ptr 3 6)]) (r := .d (dfl y1.data.e7)) rfl rfl rfl ?_
  change AO _ _ _ _ _
  refine AO.op rfl (AOp.indexArrO rfl rfl (ltb rfl) rfl rfl ar24 (by decide) (by decide) (show _ = 7 by first | rfl | decide) ?_)
  refine AO.op rfl (AOp.store rfl rfl rfl rfl size22 rfl rfl rfl (leb rfl) ?_)
  refine AO.objs (obs' := [.fix 24 [.d (dfl (0 : Nat)), .d (dfl (0 : Nat)), .d (dfl (0 : Nat)), .d (dfl (0 : Nat)), .d (dfl (0 : Nat)), .d (dfl (0 : Nat)), .d (dfl (0 : Nat)), .d (dfl (0 : Nat)), .d (dfl (0 : Nat))], .frame fr3 [(0, .ptr 0 0)], .fix 24 [.d (dfl (0 : Nat)), .d (dfl (0 : Nat)), .d (dfl (0 : Nat)), .d (dfl (0 : Nat)), .d (dfl (0 : Nat)), .d (dfl (0 : Nat)), .d (dfl (0 : Nat)), .d (dfl (0 : Nat)), .d (dfl (0 : Nat))], .fix 24 [.d (dfl y1.data.e0), .d (dfl y1.data.e1), .d (dfl y1.data.e2), .d (dfl y1.data.e3), .d (dfl y1.data.e4), .d (dfl y1.data.e5), .d (dfl y1.data.e6), .d (dfl y1.data.e7), .d (dfl (0 : Nat))], .dead, .dead, .dead, .dead, .dead, .dead, .dead, .dead]) rfl ?_
  refine AO.nil ?_
  change AC _ _ _ _
  refine AC.region ?_
  refine AO.op rfl (AOp.iadd rfl rfl (ltb rfl) rfl rfl (show (7 : Int) + (1 : Int) = (8 : Int) by decide) (by decide) (by decide) ?_)
  refine AO.op rfl (AOp.move rfl rfl (ltb rfl) rfl ?_)
  refine AO.nil ?_
  change ACL _ _ _ _
  refine ACL.round ?_
  refine AC.seq ?_
  refine AC.region ?_
  refine AO.op rfl (AOp.ilss rfl rfl (ltb rfl) rfl rfl ?_)
  refine AO.nil ?_
  change AC _ _ _ _
  refine AC.seq ?_
  refine AC.condT rfl rfl ?_
  refine AC.skip ?_
  change AC _ _ _ _
  refine AC.seq ?_
  refine AC.block ?_
  refine AC.seq ?_
  refine AC.region ?_
  refine AO.op rfl (AOp.move rfl rfl (ltb rfl) rfl ?_)
  refine AO.op rfl (AOp.assign rfl rfl (ltb rfl) rfl ?_)
  refine AO.nil ?_
  change AC _ _ _ _
  refine AC.region ?_
  refine AO.op rfl (AOp.move rfl rfl (ltb rfl) rfl ?_)
  refine AO.op rfl (AOp.move rfl rfl (ltb rfl) rfl ?_)
  refine AO.op rfl (AOp.move rfl rfl (ltb rfl) rfl ?_)
  refine AO.op rfl (AOp.iquo rfl rfl (ltb rfl) rfl rfl (by decide) (show Int.tdiv (8 : Int) (3 : Int) = (2 : Int) by decide) (by decide) (by decide) ?_)
  refine AO.op rfl (AOp.move rfl rfl (ltb rfl) rfl ?_)
  refine AO.op rfl (AOp.irem rfl rfl (ltb rfl) rfl rfl (by decide) (show Int.tmod (8 : Int) (3 : Int) = (2 : Int) by decide) ?_)
  refine AO.op rfl (AOp.inl [0, 2, 3, 5, 8, 14, 15] (by kernel_rfl) Tryd.func28 rfl Tryd.ntmps28 rfl rfl (ltb rfl) rfl (leb rfl) rfl ?_)
  intro fr12
  refine AC.seq ?_
  refine AC.region ?_
  refine AO.op rfl (AOp.assign rfl rfl (ltb rfl) rfl ?_)
  refine AO.objs (obs' := [.fix 24 [.d (dfl (0 : Nat)), .d (dfl (0 : Nat)), .d (dfl (0 : Nat)), .d (dfl (0 : Nat)), .d (dfl (0 : Nat)), .d (dfl (0 : Nat)), .d (dfl (0 : Nat)), .d (dfl (0 : Nat)), .d (dfl (0 : Nat))], .frame fr3 [(0, .ptr 0 0)], .fix 24 [.d (dfl (0 : Nat)), .d (dfl (0 : Nat)), .d (dfl (0 : Nat)), .d (dfl (0 : Nat)), .d (dfl (0 : Nat)), .d (dfl (0 : Nat)), .d (dfl (0 : Nat)), .d (dfl (0 : Nat)), .d (dfl (0 : Nat))], .fix 24 [.d (dfl y1.data.e0), .d (dfl y1.data.e1), .d (dfl y1.data.e2), .d (dfl y1.data.e3), .d (dfl y1.data.e4), .d (dfl y1.data.e5), .d (dfl y1.data.e6), .d (dfl y1.data.e7), .d (dfl (0 : Nat))], .dead, .dead, .dead, .dead, .dead, .dead, .dead, .dead, .frame fr12 [(0, .d (.pt (c_TR3_Mat y1))), (2, .ptr 2 0), (3, .ptr 3 0), (5, .d (di .i64 (8 : Int))), (8, .d (di .i64 (8 : Int))), (14, .d (dfl y1.data.e7)), (15, .ptr 3 7)]]) rfl ?_
  refine AO.nil ?_
  change AC _ _ _ _
  refine AC.seq ?_
  refine AC.seq ?_
  refine AC.region ?_
  refine AO.op rfl (AOp.move rfl rfl (ltb rfl) rfl ?_)
  refine AO.op rfl (AOp.i2i rfl rfl (ltb rfl) rfl Tryd.underlying3 Tryd.underlying67 (show IntKind.u64.wrap (2 : Int) = (2 : Int) by decide) ?_)
  refine AO.op rfl (AOp.igtr rfl rfl (ltb rfl) rfl rfl ?_)
  refine AO.nil ?_
  change AC _ _ _ _
  refine AC.condF rfl rfl ?_
  refine AC.skip ?_
  change AC _ _ _ _
  refine AC.seq ?_
  refine AC.seq ?_
  refine AC.region ?_
  refine AO.op rfl (AOp.move rfl rfl (ltb rfl) rfl ?_)
  refine AO.op rfl (AOp.i2i rfl rfl (ltb rfl) rfl Tryd.underlying3 Tryd.underlying67 (show IntKind.u64.wrap (2 : Int) = (2 : Int) by decide) ?_)
  refine AO.op rfl (AOp.igtr rfl rfl (ltb rfl) rfl rfl ?_)
  refine AO.nil ?_
  change AC _ _ _ _
  refine AC.condF rfl rfl ?_
  refine AC.skip ?_
  change AC _ _ _ _
  refine AC.seq ?_
  refine AC.seq ?_
  refine AC.region ?_
  refine AO.op rfl (AOp.move rfl rfl (ltb rfl) rfl ?_)
  refine AO.op rfl (AOp.nilCheck rfl rfl (ltb rfl) rfl rfl ?_)
  refine AO.op rfl (AOp.fieldAddrPt rfl rfl (ltb rfl) rfl fo51_0 ?_)
  refine AO.op rfl (AOp.loadEp rfl rfl (ltb rfl) rfl agg49 rfl ?_)
  refine AO.op rfl (AOp.ptrNilEql rfl rfl (ltb rfl) rfl rfl pmeth49 ?_)
  refine AO.nil ?_
  change AC _ _ _ _
  refine AC.condF rfl rfl ?_
  refine AC.skip ?_
  change AC _ _ _ _
  refine AC.seq ?_
  refine AC.region ?_
  refine AO.op rfl (AOp.move rfl rfl (ltb rfl) rfl ?_)
  refine AO.op rfl (AOp.nilCheck rfl rfl (ltb rfl) rfl rfl ?_)
  refine AO.op rfl (AOp.fieldAddrPt rfl rfl (ltb rfl) rfl fo51_0 ?_)
  refine AO.op rfl (AOp.loadEp rfl rfl (ltb rfl) rfl agg49 rfl ?_)
  refine AO.op rfl (AOp.move rfl rfl (ltb rfl) rfl ?_)
  refine AO.op rfl (AOp.imul rfl rfl (ltb rfl) rfl rfl (show (2 : Int) * (3 : Int) = (6 : Int) by decide) (by decide) (by decide) ?_)
  refine AO.op rfl (AOp.move rfl rfl (ltb rfl) rfl ?_)
  refine AO.op rfl (AOp.iadd rfl rfl (ltb rfl) rfl rfl (show (6 : Int) + (2 : Int) = (8 : Int) by decide) (by decide) (by decide) ?_)
  refine AO.op rfl (AOp.nilCheck rfl rfl (ltb rfl) rfl rfl ?_)
  refine AO.op rfl (AOp.indexArrD rfl rfl (ltb rfl) rfl rfl ar61 (by decide) (by decide) ?_)
  refine AO.op rfl (AOp.loadEp rfl rfl (ltb rfl) rfl agg22 rfl ?_)
  refine AO.op rfl (AOp.assign rfl rfl (ltb rfl) rfl ?_)
  refine AO.nil ?_
  change AC _ _ _ _
  refine AC.ret ?_
  refine inlret (ob' := [.fix 24 [.d (dfl (0 : Nat)), .d (dfl (0 : Nat)), .d (dfl (0 : Nat)), .d (dfl (0 : Nat)), .d (dfl (0 : Nat)), .d (dfl (0 : Nat)), .d (dfl (0 : Nat)), .d (dfl (0 : Nat)), .d (dfl (0 : Nat))], .frame fr3 [(0, .ptr 0 0)], .fix 24 [.d (dfl (0 : Nat)), .d (dfl (0 : Nat)), .d (dfl (0 : Nat)), .d (dfl (0 : Nat)), .d (dfl (0 : Nat)), .d (dfl (0 : Nat)), .d (dfl (0 : Nat)), .d (dfl (0 : Nat)), .d (dfl (0 : Nat))], .fix 24 [.d (dfl y1.data.e0), .d (dfl y1.data.e1), .d (dfl y1.data.e2), .d (dfl y1.data.e3), .d (dfl y1.data.e4), .d (dfl y1.data.e5), .d (dfl y1.data.e6), .d (dfl y1.data.e7), .d (dfl (0 : Nat))], .dead, .dead, .dead, .dead, .dead, .dead, .dead, .dead, .dead]) (e' := [(0, .d (.pt (c_TR3_Mat y1))), (2, .ptr 2 0), (3, .ptr 3 0), (5, .d (di .i64 (8 : Int))), (8, .d (di .i64 (8 : Int))), (14, .d (dfl y1.data.e7)), (15, .ptr 3 7)]) (r := .d (dfl y1.data.e8)) rfl rfl rfl ?_
  change AO _ _ _ _ _
  refine AO.op rfl (AOp.indexArrO rfl rfl (ltb rfl) rfl rfl ar24 (by decide) (by decide) (show _ = 8 by first | rfl | decide) ?_)
  refine AO.op rfl (AOp.store rfl rfl rfl rfl size22 rfl rfl rfl (leb rfl) ?_)
  refine AO.objs (obs' := [.fix 24 [.d (dfl (0 : Nat)), .d (dfl (0 : Nat)), .d (dfl (0 : Nat)), .d (dfl (0 : Nat)), .d (dfl (0 : Nat)), .d (dfl (0 : Nat)), .d (dfl (0 : Nat)), .d (dfl (0 : Nat)), .d (dfl (0 : Nat))], .frame fr3 [(0, .ptr 0 0)], .fix 24 [.d (dfl (0 : Nat)), .d (dfl (0 : Nat)), .d (dfl (0 : Nat)), .d (dfl (0 : Nat)), .d (dfl (0 : Nat)), .d (dfl (0 : Nat)), .d (dfl (0 : Nat)), .d (dfl (0 : Nat)), .d (dfl (0 : Nat))], .fix 24 [.d (dfl y1.data.e0), .d (dfl y1.data.e1), .d (dfl y1.data.e2), .d (dfl y1.data.e3), .d (dfl y1.data.e4), .d (dfl y1.data.e5), .d (dfl y1.data.e6), .d (dfl y1.data.e7), .d (dfl y1.data.e8)], .dead, .dead, .dead, .dead, .dead, .dead, .dead, .dead, .dead]) rfl ?_
  refine AO.nil ?_
  change AC _ _ _ _
  refine AC.region ?_
  refine AO.op rfl (AOp.iadd rfl rfl (ltb rfl) rfl rfl (show (8 : Int) + (1 : Int) = (9 : Int) by decide) (by decide) (by decide) ?_)
  refine AO.op rfl (AOp.move rfl rfl (ltb rfl) rfl ?_)
  refine AO.nil ?_
  change ACL _ _ _ _
  refine ACL.round ?_
  refine AC.seq ?_
  refine AC.region ?_
  refine AO.op rfl (AOp.ilss rfl rfl (ltb rfl) rfl rfl ?_)
  refine AO.nil ?_
  change AC _ _ _ _
  refine AC.seq ?_
  refine AC.condF rfl rfl ?_
  refine AC.exit ?_
  change AC _ _ _ _
  refine AC.seq ?_
  refine AC.region ?_
  refine AO.op rfl (AOp.loadN rfl rfl (ltb rfl) rfl agg24 size24 rfl (leb rfl) rfl ?_)
  refine AO.op rfl (AOp.store rfl rfl rfl rfl size24 rfl rfl rfl (leb rfl) ?_)
  refine AO.nil ?_
  change AC _ _ _ _
  refine AC.ret ?_
  refine inlret (ob' := [.fix 24 [.d (dfl (0 : Nat)), .d (dfl (0 : Nat)), .d (dfl (0 : Nat)), .d (dfl (0 : Nat)), .d (dfl (0 : Nat)), .d (dfl (0 : Nat)), .d (dfl (0 : Nat)), .d (dfl (0 : Nat)), .d (dfl (0 : Nat))], .dead, .fix 24 [.d (dfl y1.data.e0), .d (dfl y1.data.e1), .d (dfl y1.data.e2), .d (dfl y1.data.e3), .d (dfl y1.data.e4), .d (dfl y1.data.e5), .d (dfl y1.data.e6), .d (dfl y1.data.e7), .d (dfl y1.data.e8)], .fix 24 [.d (dfl y1.data.e0), .d (dfl y1.data.e1), .d (dfl y1.data.e2), .d (dfl y1.data.e3), .d (dfl y1.data.e4), .d (dfl y1.data.e5), .d (dfl y1.data.e6), .d (dfl y1.data.e7), .d (dfl y1.data.e8)], .dead, .dead, .dead, .dead, .dead, .dead, .dead, .dead, .dead]) (e' := [(0, .ptr 0 0)]) (r := .ag [.d (dfl y1.data.e0), .d (dfl y1.data.e1), .d (dfl y1.data.e2), .d (dfl y1.data.e3), .d (dfl y1.data.e4), .d (dfl y1.data.e5), .d (dfl y1.data.e6), .d (dfl y1.data.e7), .d (dfl y1.data.e8)]) rfl rfl rfl ?_
  change AO _ _ _ _ _
  refine AO.op rfl (AOp.store rfl rfl rfl rfl size24 rfl rfl rfl (leb rfl) ?_)
  refine AO.objs (obs' := [.fix 24 [.d (dfl y1.data.e0), .d (dfl y1.data.e1), .d (dfl y1.data.e2), .d (dfl y1.data.e3), .d (dfl y1.data.e4), .d (dfl y1.data.e5), .d (dfl y1.data.e6), .d (dfl y1.data.e7), .d (dfl y1.data.e8)], .dead, .fix 24 [.d (dfl y1.data.e0), .d (dfl y1.data.e1), .d (dfl y1.data.e2), .d (dfl y1.data.e3), .d (dfl y1.data.e4), .d (dfl y1.data.e5), .d (dfl y1.data.e6), .d (dfl y1.data.e7), .d (dfl y1.data.e8)], .fix 24 [.d (dfl y1.data.e0), .d (dfl y1.data.e1), .d (dfl y1.data.e2), .d (dfl y1.data.e3), .d (dfl y1.data.e4), .d (dfl y1.data.e5), .d (dfl y1.data.e6), .d (dfl y1.data.e7), .d (dfl y1.data.e8)], .dead, .dead, .dead, .dead, .dead, .dead, .dead, .dead, .dead]) rfl ?_
  refine AO.nil ?_
  change AC _ _ _ _
  refine AC.ret ?_
  change RetQ _ _ _ .ret _
  obtain rfl := Option.some.inj h0
  refine retq rfl rfl

set_option maxRecDepth 100000 in
set_option maxHeartbeats 4000000 in
/-- pub-orthodrome/impl.mat -/
theorem w_mat (a0 : TImpl_Mat) (r0 : TR3_Mat) (h0 : p_mat a0 = some r0) : FnD Tryd.prog 15 [e_TImpl_Mat a0] (fun r => r = .pt (c_TR3_Mat r0)) := by
  refine FnD.of (by kernel_rfl) Tryd.func15 rfl Tryd.ntmps15 rfl (leb rfl) fun W ok => ?_
  unfold p_mat at h0
  refine AC.seq ?_
  refine AC.region ?_
  refine AO.op rfl (AOp.box rfl rfl (ltb rfl) rfl rfl ?_)
  refine AO.op rfl (AOp.assign rfl rfl (ltb rfl) rfl ?_)
  refine AO.nil ?_
  change AC _ _ _ _
  refine AC.seq ?_
  refine AC.region ?_
  refine AO.op rfl (AOp.sliceArr rfl rfl (ltb rfl) rfl ar24 ⟨_, _, rfl⟩ ?_)
  refine AO.op rfl (AOp.inl [2] (by kernel_rfl) Tryd.func27 rfl Tryd.ntmps27 rfl rfl (ltb rfl) rfl (leb rfl) rfl ?_)
  intro fr1
  refine AC.seq ?_
  refine AC.region ?_
  refine AO.op rfl (AOp.assign rfl rfl (ltb rfl) rfl ?_)
  refine AO.nil ?_
  change AC _ _ _ _
  refine AC.seq ?_
  refine AC.region ?_
  refine AO.op rfl (AOp.move rfl rfl (ltb rfl) rfl ?_)
  obtain ⟨q2, h0⟩ := need_elim h0
  refine AO.freezeF (ds := (List.map keS1 [a0.e0, a0.e1, a0.e2, a0.e3, a0.e4, a0.e5, a0.e6, a0.e7, a0.e8])) 3 0 rfl rfl rfl (by rw [List.map_map]; rfl) (lenq q2 (len1 _ _)) (Nat.le_refl _) ?_
  obtain ⟨q3, h0⟩ := need_elim h0
  refine AO.op rfl (AOp.appendNew (m := [a0.e0, a0.e1, a0.e2, a0.e3, a0.e4, a0.e5, a0.e6, a0.e7, a0.e8].length) (news := (List.map keS1 [a0.e0, a0.e1, a0.e2, a0.e3, a0.e4, a0.e5, a0.e6, a0.e7, a0.e8])) rfl rfl (ltb rfl) rfl rfl el38 info22 rfl (by decide) (len1 _ _) (one1 _ (fun _ => rfl) _) (small63 q3) (small q3 (by decide)) ?_)
  refine AO.op rfl (AOp.assign rfl rfl (ltb rfl) rfl ?_)
  refine AO.nil ?_
  change AC _ _ _ _
  refine AC.ret ?_
  refine inlret (ob' := [.dead, .dead, .grow 22 1 (List.map keS1 [a0.e0, a0.e1, a0.e2, a0.e3, a0.e4, a0.e5, a0.e6, a0.e7, a0.e8])]) (e' := [(2, .d (.v (.pointer none)))]) (r := .own 2) rfl rfl rfl ?_
  change AO _ _ _ _ _
  refine AO.op rfl (AOp.inl [2] (by kernel_rfl) Tryd.func26 rfl Tryd.ntmps26 rfl rfl (ltb rfl) rfl (leb rfl) rfl ?_)
  intro fr4
  refine AC.seq ?_
  refine AC.region ?_
  refine AO.op rfl (AOp.assign rfl rfl (ltb rfl) rfl ?_)
  refine AO.nil ?_
  change AC _ _ _ _
  refine AC.seq ?_
  refine AC.seq ?_
  refine AC.region ?_
  refine AO.op rfl (AOp.move rfl rfl (ltb rfl) rfl ?_)
  refine AO.op rfl (AOp.lenOwn (cells := (List.map keS1 [a0.e0, a0.e1, a0.e2, a0.e3, a0.e4, a0.e5, a0.e6, a0.e7, a0.e8])) (n := 9) rfl rfl (ltb rfl) rfl el38 rfl (by decide) rfl ?_)
  refine AO.op rfl (AOp.ieql rfl rfl (ltb rfl) rfl rfl ?_)
  refine AO.nil ?_
  change AC _ _ _ _
  refine AC.condT rfl rfl ?_
  refine AC.seq ?_
  refine AC.region ?_
  refine AO.op rfl (AOp.move rfl rfl (ltb rfl) rfl ?_)
  refine AO.op rfl (AOp.inl [2] (by kernel_rfl) Tryd.func31 rfl Tryd.ntmps31 rfl rfl (ltb rfl) rfl (leb rfl) rfl ?_)
  intro fr5
  refine AC.seq ?_
  refine AC.region ?_
  refine AO.op rfl (AOp.assign rfl rfl (ltb rfl) rfl ?_)
  refine AO.nil ?_
  change AC _ _ _ _
  refine AC.seq ?_
  refine AC.region ?_
  refine AO.op rfl (AOp.move rfl rfl (ltb rfl) rfl ?_)
  refine AO.freezeG 2 rfl rfl rfl ?_
  refine AO.op rfl (AOp.arrPtr (cells := (List.map keS1 [a0.e0, a0.e1, a0.e2, a0.e3, a0.e4, a0.e5, a0.e6, a0.e7, a0.e8])) rfl rfl (ltb rfl) rfl ar61 rfl (by decide) (by decide) ?_)
  refine AO.op rfl (AOp.assign rfl rfl (ltb rfl) rfl ?_)
  refine AO.nil ?_
  change AC _ _ _ _
  refine AC.ret ?_
  refine inlret (ob' := [.dead, .dead, .dead, .frame fr4 [(2, .d (.v (.pointer none)))], .dead]) (e' := [(2, .d (.v (.pointer none)))]) (r := .d (.pt (c_TImpl_Mat a0))) rfl rfl rfl ?_
  change AO _ _ _ _ _
  refine AO.op rfl (AOp.build rfl rfl (ltb rfl) zero51 rfl places51 rfl rfl ?_)
  refine AO.op rfl (AOp.box rfl rfl (ltb rfl) rfl rfl ?_)
  refine AO.op rfl (AOp.assign rfl rfl (ltb rfl) rfl ?_)
  refine AO.objs (obs' := [.dead, .dead, .dead, .frame fr4 [(2, .d (.v (.pointer none)))], .dead, .fix 51 [.d (.pt (c_TImpl_Mat a0))]]) rfl ?_
  refine AO.nil ?_
  change AC _ _ _ _
  refine AC.ret ?_
  refine inlret (ob' := [.dead, .dead, .dead, .dead, .dead, .fix 51 [.d (.pt (c_TImpl_Mat a0))]]) (e' := [(2, .d (.v (.pointer none)))]) (r := .ptr 5 0) rfl rfl rfl ?_
  change AO _ _ _ _ _
  refine AO.op rfl (AOp.assign rfl rfl (ltb rfl) rfl ?_)
  refine AO.objs (obs' := [.dead, .dead, .dead, .dead, .dead, .fix 51 [.d (.pt (c_TImpl_Mat a0))]]) rfl ?_
  refine AO.nil ?_
  change AC _ _ _ _
  refine AC.ret ?_
  change RetQ _ _ _ .ret _
  obtain rfl := Option.some.inj h0
  refine retq rfl rfl

set_option maxRecDepth 100000 in
set_option maxHeartbeats 4000000 in
/-- (*pub-orthodrome/pub/gonum/spatial/r3.Mat).At -/
theorem w_Mat_At (a0 : TR3_Mat) (a1 : Int) (a2 : Int) (r0 : Nat) (h0 : p_Mat_At a0 a1 a2 = some r0) : FnD Tryd.prog 28 [.pt (c_TR3_Mat a0), di .i64 a1, di .i64 a2] (fun r => r = dfl r0) := by
  refine FnD.of (by kernel_rfl) Tryd.func28 rfl Tryd.ntmps28 rfl (leb rfl) fun W ok => ?_
  unfold p_Mat_At at h0
  refine AC.seq ?_
  refine AC.region ?_
  refine AO.op rfl (AOp.assign rfl rfl (ltb rfl) rfl ?_)
  refine AO.nil ?_
  change AC _ _ _ _
  refine AC.seq ?_
  refine AC.seq ?_
  refine AC.region ?_
  refine AO.op rfl (AOp.move rfl rfl (ltb rfl) rfl ?_)
  refine AO.op rfl (AOp.i2i rfl rfl (ltb rfl) rfl Tryd.underlying3 Tryd.underlying67 rfl ?_)
  refine AO.op rfl (AOp.igtr rfl rfl (ltb rfl) rfl rfl ?_)
  refine AO.nil ?_
  change AC _ _ _ _
  refine AC.cond rfl (fun q1 => ?_) (fun q1 => ?_)
  · replace h0 := cT h0 q1
    refine AC.region ?_
    cases h0
  replace h0 := cF h0 q1
  refine AC.skip ?_
  change AC _ _ _ _
  refine AC.seq ?_
  refine AC.seq ?_
  refine AC.region ?_
  refine AO.op rfl (AOp.move rfl rfl (ltb rfl) rfl ?_)
  refine AO.op rfl (AOp.i2i rfl rfl (ltb rfl) rfl Tryd.underlying3 Tryd.underlying67 rfl ?_)
  refine AO.op rfl (AOp.igtr rfl rfl (ltb rfl) rfl rfl ?_)
  refine AO.nil ?_
  change AC _ _ _ _
  refine AC.cond rfl (fun q2 => ?_) (fun q2 => ?_)
  · replace h0 := cT h0 q2
    refine AC.region ?_
    cases h0
  replace h0 := cF h0 q2
  refine AC.skip ?_
  change AC _ _ _ _
  refine AC.seq ?_
  refine AC.seq ?_
  refine AC.region ?_
  refine AO.op rfl (AOp.move rfl rfl (ltb rfl) rfl ?_)
  refine AO.op rfl (AOp.nilCheck rfl rfl (ltb rfl) rfl rfl ?_)
  refine AO.op rfl (AOp.fieldAddrPt rfl rfl (ltb rfl) rfl fo51_0 ?_)
  refine AO.op rfl (AOp.loadEp rfl rfl (ltb rfl) rfl agg49 rfl ?_)
  refine AO.op rfl (AOp.ptrNilEql rfl rfl (ltb rfl) rfl rfl pmeth49 ?_)
  refine AO.nil ?_
  change AC _ _ _ _
  refine AC.condF rfl rfl ?_
  refine AC.skip ?_
  change AC _ _ _ _
  refine AC.seq ?_
  refine AC.region ?_
  refine AO.op rfl (AOp.move rfl rfl (ltb rfl) rfl ?_)
  refine AO.op rfl (AOp.nilCheck rfl rfl (ltb rfl) rfl rfl ?_)
  refine AO.op rfl (AOp.fieldAddrPt rfl rfl (ltb rfl) rfl fo51_0 ?_)
  refine AO.op rfl (AOp.loadEp rfl rfl (ltb rfl) rfl agg49 rfl ?_)
  refine AO.op rfl (AOp.move rfl rfl (ltb rfl) rfl ?_)
  obtain ⟨q3, h0⟩ := need_elim h0
  refine AO.op rfl (AOp.imul rfl rfl (ltb rfl) rfl rfl rfl q3.1 q3.2 ?_)
  refine AO.op rfl (AOp.move rfl rfl (ltb rfl) rfl ?_)
  obtain ⟨q4, h0⟩ := need_elim h0
  refine AO.op rfl (AOp.iadd rfl rfl (ltb rfl) rfl rfl rfl q4.1 q4.2 ?_)
  refine AO.op rfl (AOp.nilCheck rfl rfl (ltb rfl) rfl rfl ?_)
  obtain ⟨x5, q6, h0⟩ := idx_elim h0
  refine AO.op rfl (AOp.indexArrD (cells := (List.map keS1 [a0.data.e0, a0.data.e1, a0.data.e2, a0.data.e3, a0.data.e4, a0.data.e5, a0.data.e6, a0.data.e7, a0.data.e8])) rfl rfl (ltb rfl) rfl rfl ar61 q6.1 (arr_lt q6.1 q6.2 rfl) ?_)
  refine AO.op rfl (AOp.loadEp rfl rfl (ltb rfl) rfl agg22 (at1 q6.2) ?_)
  refine AO.op rfl (AOp.assign rfl rfl (ltb rfl) rfl ?_)
  refine AO.nil ?_
  change AC _ _ _ _
  refine AC.ret ?_
  change RetQ _ _ _ .ret _
  obtain rfl := Option.some.inj h0
  refine retq rfl rfl

set_option maxRecDepth 100000 in
set_option maxHeartbeats 4000000 in
/-- pub-orthodrome/impl.MatMul -/
theorem w_MatMul (a0 : TImpl_Mat) (a1 : TImpl_Mat) (r0 : TImpl_Mat) (h0 : p_MatMul a0 a1 = some r0) : FnD Tryd.prog 10 [e_TImpl_Mat a0, e_TImpl_Mat a1] (fun r => r = e_TImpl_Mat r0) := by
  refine FnD.of (by kernel_rfl) Tryd.func10 rfl Tryd.ntmps10 rfl (leb rfl) fun W ok => ?_
  unfold p_MatMul at h0
  refine AC.seq ?_
  refine AC.region ?_
  refine AO.op rfl (AOp.box rfl rfl (ltb rfl) rfl rfl ?_)
  refine AO.op rfl (AOp.box rfl rfl (ltb rfl) rfl rfl ?_)
  refine AO.op rfl (AOp.alloc rfl rfl (ltb rfl) zero24 rfl ?_)
  refine AO.nil ?_
  change AC _ _ _ _
  refine AC.seq ?_
  refine AC.region ?_
  refine AO.op rfl (AOp.alloc rfl rfl (ltb rfl) zero51 rfl ?_)
  refine AO.nil ?_
  change AC _ _ _ _
  refine AC.seq ?_
  refine AC.draw 6 mixed (by kernel_rfl) ?_
  refine AD.op [2] rfl (by kernel_rfl) rfl rfl (fun _ _ h => AOp.loadN rfl rfl (ltb rfl) rfl agg24 size24 rfl (leb rfl) rfl h) ?_
  obtain ⟨y1, q2, h0⟩ := bind_elim h0
  refine AD.op [6] rfl (by kernel_rfl) rfl rfl (fun _ _ h => AOp.callD rfl rfl (ltb rfl) rfl rfl (w_mat a0 y1 q2) (by rintro _ rfl; exact h)) ?_
  refine AD.op [7] rfl (by kernel_rfl) rfl rfl (fun _ _ h => AOp.makeIfc rfl rfl (ltb rfl) rfl conc42 h) ?_
  refine AD.op [3] rfl (by kernel_rfl) rfl rfl (fun _ _ h => AOp.loadN rfl rfl (ltb rfl) rfl agg24 size24 rfl (leb rfl) rfl h) ?_
  obtain ⟨y3, q4, h0⟩ := bind_elim h0
  refine AD.op [9] rfl (by kernel_rfl) rfl rfl (fun _ _ h => AOp.callD rfl rfl (ltb rfl) rfl rfl (w_mat a1 y3 q4) (by rintro _ rfl; exact h)) ?_
  refine AD.op [10] rfl (by kernel_rfl) rfl rfl (fun _ _ h => AOp.makeIfc rfl rfl (ltb rfl) rfl conc42 h) ?_
  refine AD.done ?_
  refine AO.op rfl (AOp.inl [4, 5] (by kernel_rfl) Tryd.func22 rfl Tryd.ntmps22 rfl rfl (ltb rfl) rfl (leb rfl) rfl ?_)
  intro fr5
  refine AC.seq ?_
  refine AC.region ?_
  refine AO.op rfl (AOp.move rfl rfl (ltb rfl) rfl ?_)
  refine AO.op rfl (AOp.inlE [0, 1, 2] (EntersS.meth (by kernel_rfl) rfl rfl rfl meth42_Dims rfl rfl) Tryd.func52 rfl Tryd.ntmps52 rfl (ltb rfl) (leb rfl) rfl ?_)
  intro fr6
  refine AC.seq ?_
  refine AC.region ?_
  refine AO.op rfl (AOp.assign rfl rfl (ltb rfl) rfl ?_)
  refine AO.op rfl (AOp.assign rfl rfl (ltb rfl) rfl ?_)
  refine AO.objs (obs' := [.fix 24 [.d (dfl a0.e0), .d (dfl a0.e1), .d (dfl a0.e2), .d (dfl a0.e3), .d (dfl a0.e4), .d (dfl a0.e5), .d (dfl a0.e6), .d (dfl a0.e7), .d (dfl a0.e8)], .fix 24 [.d (dfl a1.e0), .d (dfl a1.e1), .d (dfl a1.e2), .d (dfl a1.e3), .d (dfl a1.e4), .d (dfl a1.e5), .d (dfl a1.e6), .d (dfl a1.e7), .d (dfl a1.e8)], .fix 24 [.d (dfl (0 : Nat)), .d (dfl (0 : Nat)), .d (dfl (0 : Nat)), .d (dfl (0 : Nat)), .d (dfl (0 : Nat)), .d (dfl (0 : Nat)), .d (dfl (0 : Nat)), .d (dfl (0 : Nat)), .d (dfl (0 : Nat))], .fix 51 [.d (.v (.pointer none))], .frame fr5 [(4, .ptr 2 0), (5, .ptr 3 0)], .frame fr6 [(0, .ptr 3 0), (1, .ifc 42 (.d (.pt (c_TR3_Mat y1)))), (2, .ifc 42 (.d (.pt (c_TR3_Mat y3))))]]) rfl ?_
  refine AO.nil ?_
  change AC _ _ _ _
  refine AC.seq ?_
  refine AC.region ?_
  refine AO.op rfl (AOp.assign rfl rfl (ltb rfl) rfl ?_)
  refine AO.op rfl (AOp.assign rfl rfl (ltb rfl) rfl ?_)
  refine AO.nil ?_
  change AC _ _ _ _
  refine AC.ret ?_
  refine inlret (ob' := [.fix 24 [.d (dfl a0.e0), .d (dfl a0.e1), .d (dfl a0.e2), .d (dfl a0.e3), .d (dfl a0.e4), .d (dfl a0.e5), .d (dfl a0.e6), .d (dfl a0.e7), .d (dfl a0.e8)], .fix 24 [.d (dfl a1.e0), .d (dfl a1.e1), .d (dfl a1.e2), .d (dfl a1.e3), .d (dfl a1.e4), .d (dfl a1.e5), .d (dfl a1.e6), .d (dfl a1.e7), .d (dfl a1.e8)], .fix 24 [.d (dfl (0 : Nat)), .d (dfl (0 : Nat)), .d (dfl (0 : Nat)), .d (dfl (0 : Nat)), .d (dfl (0 : Nat)), .d (dfl (0 : Nat)), .d (dfl (0 : Nat)), .d (dfl (0 : Nat)), .d (dfl (0 : Nat))], .fix 51 [.d (.v (.pointer none))], .frame fr5 [(4, .ptr 2 0), (5, .ptr 3 0)], .dead]) (e' := [(0, .ptr 3 0), (1, .ifc 42 (.d (.pt (c_TR3_Mat y1)))), (2, .ifc 42 (.d (.pt (c_TR3_Mat y3))))]) (r := .tu [.d (di .i64 (3 : Int)), .d (di .i64 (3 : Int))]) rfl rfl rfl ?_
  change AO _ _ _ _ _
  refine AO.op rfl (AOp.move rfl rfl (ltb rfl) rfl ?_)
  first | refine AO.op rfl (AOp.extractD rfl rfl (ltb rfl) rfl rfl ?_) | refine AO.op rfl (AOp.extract rfl rfl (ltb rfl) rfl rfl ?_)
  first | refine AO.op rfl (AOp.extractD rfl rfl (ltb rfl) rfl rfl ?_) | refine AO.op rfl (AOp.extract rfl rfl (ltb rfl) rfl rfl ?_)
  refine AO.op rfl (AOp.assign rfl rfl (ltb rfl) rfl ?_)
  refine AO.op rfl (AOp.assign rfl rfl (ltb rfl) rfl ?_)
  refine AO.objs (obs' := [.fix 24 [.d (dfl a0.e0), .d (dfl a0.e1), .d (dfl a0.e2), .d (dfl a0.e3), .d (dfl a0.e4), .d (dfl a0.e5), .d (dfl a0.e6), .d (dfl a0.e7), .d (dfl a0.e8)], .fix 24 [.d (dfl a1.e0), .d (dfl a1.e1), .d (dfl a1.e2), .d (dfl a1.e3), .d (dfl a1.e4), .d (dfl a1.e5), .d (dfl a1.e6), .d (dfl a1.e7), .d (dfl a1.e8)], .fix 24 [.d (dfl (0 : Nat)), .d (dfl (0 : Nat)), .d (dfl (0 : Nat)), .d (dfl (0 : Nat)), .d (dfl (0 : Nat)), .d (dfl (0 : Nat)), .d (dfl (0 : Nat)), .d (dfl (0 : Nat)), .d (dfl (0 : Nat))], .fix 51 [.d (.v (.pointer none))], .frame fr5 [(4, .ptr 2 0), (5, .ptr 3 0)], .dead]) rfl ?_
  refine AO.nil ?_
  change AC _ _ _ _
  refine AC.seq ?_
  refine AC.region ?_
  refine AO.op rfl (AOp.move rfl rfl (ltb rfl) rfl ?_)
  refine AO.op rfl (AOp.inlE [0, 1, 2, 6, 7] (EntersS.meth (by kernel_rfl) rfl rfl rfl meth42_Dims rfl rfl) Tryd.func52 rfl Tryd.ntmps52 rfl (ltb rfl) (leb rfl) rfl ?_)
  intro fr7
  refine AC.seq ?_
  refine AC.region ?_
  refine AO.op rfl (AOp.assign rfl rfl (ltb rfl) rfl ?_)
  refine AO.op rfl (AOp.assign rfl rfl (ltb rfl) rfl ?_)
  refine AO.objs (obs' := [.fix 24 [.d (dfl a0.e0), .d (dfl a0.e1), .d (dfl a0.e2), .d (dfl a0.e3), .d (dfl a0.e4), .d (dfl a0.e5), .d (dfl a0.e6), .d (dfl a0.e7), .d (dfl a0.e8)], .fix 24 [.d (dfl a1.e0), .d (dfl a1.e1), .d (dfl a1.e2), .d (dfl a1.e3), .d (dfl a1.e4), .d (dfl a1.e5), .d (dfl a1.e6), .d (dfl a1.e7), .d (dfl a1.e8)], .fix 24 [.d (dfl (0 : Nat)), .d (dfl (0 : Nat)), .d (dfl (0 : Nat)), .d (dfl (0 : Nat)), .d (dfl (0 : Nat)), .d (dfl (0 : Nat)), .d (dfl (0 : Nat)), .d (dfl (0 : Nat)), .d (dfl (0 : Nat))], .fix 51 [.d (.v (.pointer none))], .frame fr5 [(4, .ptr 2 0), (5, .ptr 3 0)], .dead, .frame fr7 [(0, .ptr 3 0), (1, .ifc 42 (.d (.pt (c_TR3_Mat y1)))), (2, .ifc 42 (.d (.pt (c_TR3_Mat y3)))), (6, .d (di .i64 (3 : Int))), (7, .d (di .i64 (3 : Int)))]]) rfl ?_
  refine AO.nil ?_
  change AC _ _ _ _
  refine AC.seq ?_
  refine AC.region ?_
  refine AO.op rfl (AOp.assign rfl rfl (ltb rfl) rfl ?_)
  refine AO.op rfl (AOp.assign rfl rfl (ltb rfl) rfl ?_)
  refine AO.nil ?_
  change AC _ _ _ _
  refine AC.ret ?_
  refine inlret (ob' := [.fix 24 [.d (dfl a0.e0), .d (dfl a0.e1), .d (dfl a0.e2), .d (dfl a0.e3), .d (dfl a0.e4), .d (dfl a0.e5), .d (dfl a0.e6), .d (dfl a0.e7), .d (dfl a0.e8)], .fix 24 [.d (dfl a1.e0), .d (dfl a1.e1), .d (dfl a1.e2), .d (dfl a1.e3), .d (dfl a1.e4), .d (dfl a1.e5), .d (dfl a1.e6), .d (dfl a1.e7), .d (dfl a1.e8)], .fix 24 [.d (dfl (0 : Nat)), .d (dfl (0 : Nat)), .d (dfl (0 : Nat)), .d (dfl (0 : Nat)), .d (dfl (0 : Nat)), .d (dfl (0 : Nat)), .d (dfl (0 : Nat)), .d (dfl (0 : Nat)), .d (dfl (0 : Nat))], .fix 51 [.d (.v (.pointer none))], .frame fr5 [(4, .ptr 2 0), (5, .ptr 3 0)], .dead, .dead]) (e' := [(0, .ptr 3 0), (1, .ifc 42 (.d (.pt (c_TR3_Mat y1)))), (2, .ifc 42 (.d (.pt (c_TR3_Mat y3)))), (6, .d (di .i64 (3 : Int))), (7, .d (di .i64 (3 : Int)))]) (r := .tu [.d (di .i64 (3 : Int)), .d (di .i64 (3 : Int))]) rfl rfl rfl ?_
  change AO _ _ _ _ _
  refine AO.op rfl (AOp.move rfl rfl (ltb rfl) rfl ?_)
  first | refine AO.op rfl (AOp.extractD rfl rfl (ltb rfl) rfl rfl ?_) | refine AO.op rfl (AOp.extract rfl rfl (ltb rfl) rfl rfl ?_)
  first | refine AO.op rfl (AOp.extractD rfl rfl (ltb rfl) rfl rfl ?_) | refine AO.op rfl (AOp.extract rfl rfl (ltb rfl) rfl rfl ?_)
  refine AO.op rfl (AOp.assign rfl rfl (ltb rfl) rfl ?_)
  refine AO.op rfl (AOp.assign rfl rfl (ltb rfl) rfl ?_)
  refine AO.objs (obs' := [.fix 24 [.d (dfl a0.e0), .d (dfl a0.e1), .d (dfl a0.e2), .d (dfl a0.e3), .d (dfl a0.e4), .d (dfl a0.e5), .d (dfl a0.e6), .d (dfl a0.e7), .d (dfl a0.e8)], .fix 24 [.d (dfl a1.e0), .d (dfl a1.e1), .d (dfl a1.e2), .d (dfl a1.e3), .d (dfl a1.e4), .d (dfl a1.e5), .d (dfl a1.e6), .d (dfl a1.e7), .d (dfl a1.e8)], .fix 24 [.d (dfl (0 : Nat)), .d (dfl (0 : Nat)), .d (dfl (0 : Nat)), .d (dfl (0 : Nat)), .d (dfl (0 : Nat)), .d (dfl (0 : Nat)), .d (dfl (0 : Nat)), .d (dfl (0 : Nat)), .d (dfl (0 : Nat))], .fix 51 [.d (.v (.pointer none))], .frame fr5 [(4, .ptr 2 0), (5, .ptr 3 0)], .dead, .dead]) rfl ?_
  refine AO.nil ?_
  change AC _ _ _ _
  refine AC.seq ?_
  refine AC.block ?_
  refine AC.seq ?_
  refine AC.region ?_
  refine AO.op rfl (AOp.move rfl rfl (ltb rfl) rfl ?_)
  refine AO.op rfl (AOp.ineq rfl rfl (ltb rfl) rfl rfl ?_)
  refine AO.op rfl (AOp.assign rfl rfl (ltb rfl) rfl ?_)
  refine AO.nil ?_
  change AC _ _ _ _
  refine AC.condF rfl rfl ?_
  refine AC.seq ?_
  refine AC.region ?_
  refine AO.op rfl (AOp.move rfl rfl (ltb rfl) rfl ?_)
  refine AO.op rfl (AOp.ineq rfl rfl (ltb rfl) rfl rfl ?_)
  refine AO.op rfl (AOp.assign rfl rfl (ltb rfl) rfl ?_)
  refine AO.nil ?_
  change AC _ _ _ _
  refine AC.condF rfl rfl ?_
  refine AC.seq ?_
  refine AC.region ?_
  refine AO.op rfl (AOp.move rfl rfl (ltb rfl) rfl ?_)
  refine AO.op rfl (AOp.move rfl rfl (ltb rfl) rfl ?_)
  refine AO.op rfl (AOp.ineq rfl rfl (ltb rfl) rfl rfl ?_)
  refine AO.op rfl (AOp.assign rfl rfl (ltb rfl) rfl ?_)
  refine AO.nil ?_
  change AC _ _ _ _
  refine AC.condF rfl rfl ?_
  refine AC.skip ?_
  change AC _ _ _ _
  refine AC.seq ?_
  refine AC.seq ?_
  refine AC.region ?_
  refine AO.op rfl (AOp.move rfl rfl (ltb rfl) rfl ?_)
  refine AO.op rfl (AOp.nilCheck rfl rfl (ltb rfl) rfl rfl ?_)
  refine AO.op rfl (AOp.fieldAddr rfl rfl (ltb rfl) rfl fo51_0 ?_)
  refine AO.op rfl (AOp.load1 rfl rfl (ltb rfl) rfl agg49 rfl rfl ?_)
  refine AO.op rfl (AOp.ptrNilEql rfl rfl (ltb rfl) rfl rfl pmeth49 ?_)
  refine AO.nil ?_
  change AC _ _ _ _
  refine AC.condT rfl rfl ?_
  refine AC.region ?_
  refine AO.op rfl (AOp.move rfl rfl (ltb rfl) rfl ?_)
  refine AO.op rfl (AOp.alloc rfl rfl (ltb rfl) zero61 rfl ?_)
  refine AO.op rfl (AOp.nilCheck rfl rfl (ltb rfl) rfl rfl ?_)
  refine AO.op rfl (AOp.fieldAddr rfl rfl (ltb rfl) rfl fo51_0 ?_)
  refine AO.op rfl (AOp.store rfl rfl rfl rfl size49 rfl rfl rfl (leb rfl) ?_)
  refine AO.nil ?_
  change AC _ _ _ _
  refine AC.seq ?_
  refine AC.seq ?_
  refine AC.region ?_
  refine AO.op rfl (AOp.move rfl rfl (ltb rfl) rfl ?_)
  refine AO.op rfl (AOp.ineq rfl rfl (ltb rfl) rfl rfl ?_)
  refine AO.nil ?_
  change AC _ _ _ _
  refine AC.condF rfl rfl ?_
  refine AC.skip ?_
  change AC _ _ _ _
  refine AC.seq ?_
  refine AC.region ?_
  refine AO.op rfl (AOp.move rfl rfl (ltb rfl) rfl ?_)
  obtain ⟨y8, q9, h0⟩ := bind_elim h0
  refine AO.op rfl (AOp.callE (EntersS.meth (by kernel_rfl) rfl rfl rfl meth42_At rfl rfl) rfl (ltb rfl) rfl rfl (w_Mat_At y1 (0 : Int) (0 : Int) y8 q9) ?_)
  rintro _ rfl
  refine AO.op rfl (AOp.assign rfl rfl (ltb rfl) rfl ?_)
  refine AO.nil ?_
  change AC _ _ _ _
  refine AC.seq ?_
  refine AC.region ?_
  refine AO.op rfl (AOp.move rfl rfl (ltb rfl) rfl ?_)
  obtain ⟨y10, q11, h0⟩ := bind_elim h0
  refine AO.op rfl (AOp.callE (EntersS.meth (by kernel_rfl) rfl rfl rfl meth42_At rfl rfl) rfl (ltb rfl) rfl rfl (w_Mat_At y3 (0 : Int) (0 : Int) y10 q11) ?_)
  rintro _ rfl
  refine AO.op rfl (AOp.assign rfl rfl (ltb rfl) rfl ?_)
  refine AO.nil ?_
  change AC _ _ _ _
  refine AC.seq ?_
  refine AC.region ?_
  refine AO.op rfl (AOp.move rfl rfl (ltb rfl) rfl ?_)
  obtain ⟨y12, q13, h0⟩ := bind_elim h0
  refine AO.op rfl (AOp.callE (EntersS.meth (by kernel_rfl) rfl rfl rfl meth42_At rfl rfl) rfl (ltb rfl) rfl rfl (w_Mat_At y1 (0 : Int) (1 : Int) y12 q13) ?_)
  rintro _ rfl
  refine AO.op rfl (AOp.assign rfl rfl (ltb rfl) rfl ?_)
  refine AO.nil ?_
  change AC _ _ _ _
  refine AC.seq ?_
  refine AC.region ?_
  refine AO.op rfl (AOp.move rfl rfl (ltb rfl) rfl ?_)
  obtain ⟨y14, q15, h0⟩ := bind_elim h0
  refine AO.op rfl (AOp.callE (EntersS.meth (by kernel_rfl) rfl rfl rfl meth42_At rfl rfl) rfl (ltb rfl) rfl rfl (w_Mat_At y3 (0 : Int) (1 : Int) y14 q15) ?_)
  rintro _ rfl
  refine AO.op rfl (AOp.assign rfl rfl (ltb rfl) rfl ?_)
  refine AO.objs (obs' := [.fix 24 [.d (dfl a0.e0), .d (dfl a0.e1), .d (dfl a0.e2), .d (dfl a0.e3), .d (dfl a0.e4), .d (dfl a0.e5), .d (dfl a0.e6), .d (dfl a0.e7), .d (dfl a0.e8)], .fix 24 [.d (dfl a1.e0), .d (dfl a1.e1), .d (dfl a1.e2), .d (dfl a1.e3), .d (dfl a1.e4), .d (dfl a1.e5), .d (dfl a1.e6), .d (dfl a1.e7), .d (dfl a1.e8)], .fix 24 [.d (dfl (0 : Nat)), .d (dfl (0 : Nat)), .d (dfl (0 : Nat)), .d (dfl (0 : Nat)), .d (dfl (0 : Nat)), .d (dfl (0 : Nat)), .d (dfl (0 : Nat)), .d (dfl (0 : Nat)), .d (dfl (0 : Nat))], .fix 51 [.ptr 7 0], .frame fr5 [(4, .ptr 2 0), (5, .ptr 3 0)], .dead, .dead, .fix 61 [.d (dfl (0 : Nat)), .d (dfl (0 : Nat)), .d (dfl (0 : Nat)), .d (dfl (0 : Nat)), .d (dfl (0 : Nat)), .d (dfl (0 : Nat)), .d (dfl (0 : Nat)), .d (dfl (0 : Nat)), .d (dfl (0 : Nat))]]) rfl ?_
  refine AO.nil ?_
  change AC _ _ _ _
  refine AC.seq ?_
  refine AC.region ?_
  refine AO.op rfl (AOp.move rfl rfl (ltb rfl) rfl ?_)
  obtain ⟨y16, q17, h0⟩ := bind_elim h0
  refine AO.op rfl (AOp.callE (EntersS.meth (by kernel_rfl) rfl rfl rfl meth42_At rfl rfl) rfl (ltb rfl) rfl rfl (w_Mat_At y1 (0 : Int) (2 : Int) y16 q17) ?_)
  rintro _ rfl
  refine AO.op rfl (AOp.assign rfl rfl (ltb rfl) rfl ?_)
  refine AO.nil ?_
  change AC _ _ _ _
  refine AC.seq ?_
  refine AC.region ?_
  refine AO.op rfl (AOp.move rfl rfl (ltb rfl) rfl ?_)
  obtain ⟨y18, q19, h0⟩ := bind_elim h0
  refine AO.op rfl (AOp.callE (EntersS.meth (by kernel_rfl) rfl rfl rfl meth42_At rfl rfl) rfl (ltb rfl) rfl rfl (w_Mat_At y3 (0 : Int) (2 : Int) y18 q19) ?_)
  rintro _ rfl
  refine AO.op rfl (AOp.assign rfl rfl (ltb rfl) rfl ?_)
  refine AO.nil ?_
  change AC _ _ _ _
  refine AC.seq ?_
  refine AC.region ?_
  refine AO.op rfl (AOp.move rfl rfl (ltb rfl) rfl ?_)
  obtain ⟨y20, q21, h0⟩ := bind_elim h0
  refine AO.op rfl (AOp.callE (EntersS.meth (by kernel_rfl) rfl rfl rfl meth42_At rfl rfl) rfl (ltb rfl) rfl rfl (w_Mat_At y1 (1 : Int) (0 : Int) y20 q21) ?_)
  rintro _ rfl
  refine AO.op rfl (AOp.assign rfl rfl (ltb rfl) rfl ?_)
  refine AO.nil ?_
  change AC _ _ _ _
  refine AC.seq ?_
  refine AC.region ?_
  refine AO.op rfl (AOp.move rfl rfl (ltb rfl) rfl ?_)
  obtain ⟨y22, q23, h0⟩ := bind_elim h0
  refine AO.op rfl (AOp.callE (EntersS.meth (by kernel_rfl) rfl rfl rfl meth42_At rfl rfl) rfl (ltb rfl) rfl rfl (w_Mat_At y3 (1 : Int) (0 : Int) y22 q23) ?_)
  rintro _ rfl
  refine AO.op rfl (AOp.assign rfl rfl (ltb rfl) rfl ?_)
  refine AO.nil ?_
  change AC _ _ _ _
  refine AC.seq ?_
  refine AC.region ?_
  refine AO.op rfl (AOp.move rfl rfl (ltb rfl) rfl ?_)
  obtain ⟨y24, q25, h0⟩ := bind_elim h0
  refine AO.op rfl (AOp.callE (EntersS.meth (by kernel_rfl) rfl rfl rfl meth42_At rfl rfl) rfl (ltb rfl) rfl rfl (w_Mat_At y1 (1 : Int) (1 : Int) y24 q25) ?_)
  rintro _ rfl
  refine AO.op rfl (AOp.assign rfl rfl (ltb rfl) rfl ?_)
  refine AO.nil ?_
  change AC _ _ _ _
  refine AC.seq ?_
  refine AC.region ?_
  refine AO.op rfl (AOp.move rfl rfl (ltb rfl) rfl ?_)
  obtain ⟨y26, q27, h0⟩ := bind_elim h0
  refine AO.op rfl (AOp.callE (EntersS.meth (by kernel_rfl) rfl rfl rfl meth42_At rfl rfl) rfl (ltb rfl) rfl rfl (w_Mat_At y3 (1 : Int) (1 : Int) y26 q27) ?_)
  rintro _ rfl
  refine AO.op rfl (AOp.assign rfl rfl (ltb rfl) rfl ?_)
  refine AO.nil ?_
  change AC _ _ _ _
  refine AC.seq ?_
  refine AC.region ?_
  refine AO.op rfl (AOp.move rfl rfl (ltb rfl) rfl ?_)
  obtain ⟨y28, q29, h0⟩ := bind_elim h0
  refine AO.op rfl (AOp.callE (EntersS.meth (by kernel_rfl) rfl rfl rfl meth42_At rfl rfl) rfl (ltb rfl) rfl rfl (w_Mat_At y1 (1 : Int) (2 : Int) y28 q29) ?_)
  rintro _ rfl
  refine AO.op rfl (AOp.assign rfl rfl (ltb rfl) rfl ?_)
  refine AO.nil ?_
  change AC _ _ _ _
  refine AC.seq ?_
  refine AC.region ?_
  refine AO.op rfl (AOp.move rfl rfl (ltb rfl) rfl ?_)
  obtain ⟨y30, q31, h0⟩ := bind_elim h0
  refine AO.op rfl (AOp.callE (EntersS.meth (by kernel_rfl) rfl rfl rfl meth42_At rfl rfl) rfl (ltb rfl) rfl rfl (w_Mat_At y3 (1 : Int) (2 : Int) y30 q31) ?_)
  rintro _ rfl
  refine AO.op rfl (AOp.assign rfl rfl (ltb rfl) rfl ?_)
  refine AO.nil ?_
  change AC _ _ _ _
  refine AC.seq ?_
  refine AC.region ?_
  refine AO.op rfl (AOp.move rfl rfl (ltb rfl) rfl ?_)
  obtain ⟨y32, q33, h0⟩ := bind_elim h0
  refine AO.op rfl (AOp.callE (EntersS.meth (by kernel_rfl) rfl rfl rfl meth42_At rfl rfl) rfl (ltb rfl) rfl rfl (w_Mat_At y1 (2 : Int) (0 : Int) y32 q33) ?_)
  rintro _ rfl
  refine AO.op rfl (AOp.assign rfl rfl (ltb rfl) rfl ?_)
  refine AO.nil ?_
  change AC _ _ _ _
  refine AC.seq ?_
  refine AC.region ?_
  refine AO.op rfl (AOp.move rfl rfl (ltb rfl) rfl ?_)
  obtain ⟨y34, q35, h0⟩ := bind_elim h0
  refine AO.op rfl (AOp.callE (EntersS.meth (by kernel_rfl) rfl rfl rfl meth42_At rfl rfl) rfl (ltb rfl) rfl rfl (w_Mat_At y3 (2 : Int) (0 : Int) y34 q35) ?_)
  rintro _ rfl
  refine AO.op rfl (AOp.assign rfl rfl (ltb rfl) rfl ?_)
  refine AO.nil ?_
  change AC _ _ _ _
  refine AC.seq ?_
  refine AC.region ?_
  refine AO.op rfl (AOp.move rfl rfl (ltb rfl) rfl ?_)
  obtain ⟨y36, q37, h0⟩ := bind_elim h0
  refine AO.op rfl (AOp.callE (EntersS.meth (by kernel_rfl) rfl rfl rfl meth42_At rfl rfl) rfl (ltb rfl) rfl rfl (w_Mat_At y1 (2 : Int) (1 : Int) y36 q37) ?_)
  rintro _ rfl
  refine AO.op rfl (AOp.assign rfl rfl (ltb rfl) rfl ?_)
  refine AO.nil ?_
  change AC _ _ _ _
  refine AC.seq ?_
  refine AC.region ?_
  refine AO.op rfl (AOp.move rfl rfl (ltb rfl) rfl ?_)
  obtain ⟨y38, q39, h0⟩ := bind_elim h0
  refine AO.op rfl (AOp.callE (EntersS.meth (by kernel_rfl) rfl rfl rfl meth42_At rfl rfl) rfl (ltb rfl) rfl rfl (w_Mat_At y3 (2 : Int) (1 : Int) y38 q39) ?_)
  rintro _ rfl
  refine AO.op rfl (AOp.assign rfl rfl (ltb rfl) rfl ?_)
  refine AO.nil ?_
  change AC _ _ _ _
  refine AC.seq ?_
  refine AC.region ?_
  refine AO.op rfl (AOp.move rfl rfl (ltb rfl) rfl ?_)
  obtain ⟨y40, q41, h0⟩ := bind_elim h0
  refine AO.op rfl (AOp.callE (EntersS.meth (by kernel_rfl) rfl rfl rfl meth42_At rfl rfl) rfl (ltb rfl) rfl rfl (w_Mat_At y1 (2 : Int) (2 : Int) y40 q41) ?_)
  rintro _ rfl
  refine AO.op rfl (AOp.assign rfl rfl (ltb rfl) rfl ?_)
  refine AO.nil ?_
  change AC _ _ _ _
  refine AC.seq ?_
  refine AC.region ?_
  refine AO.op rfl (AOp.move rfl rfl (ltb rfl) rfl ?_)
  obtain ⟨y42, q43, h0⟩ := bind_elim h0
  refine AO.op rfl (AOp.callE (EntersS.meth (by kernel_rfl) rfl rfl rfl meth42_At rfl rfl) rfl (ltb rfl) rfl rfl (w_Mat_At y3 (2 : Int) (2 : Int) y42 q43) ?_)
  rintro _ rfl
  refine AO.op rfl (AOp.assign rfl rfl (ltb rfl) rfl ?_)
  refine AO.nil ?_
  change AC _ _ _ _
  refine AC.region ?_
  refine AO.op rfl (AOp.move rfl rfl (ltb rfl) rfl ?_)
  refine AO.op rfl (AOp.nilCheck rfl rfl (ltb rfl) rfl rfl ?_)
  refine AO.op rfl (AOp.fieldAddr rfl rfl (ltb rfl) rfl fo51_0 ?_)
  refine AO.op rfl (AOp.load1 rfl rfl (ltb rfl) rfl agg49 rfl rfl ?_)
  refine AO.op rfl (AOp.move rfl rfl (ltb rfl) rfl ?_)
  refine AO.op rfl (AOp.move rfl rfl (ltb rfl) rfl ?_)
  obtain ⟨z44, q45, h0⟩ := bind_elim h0
  refine AO.op rfl (AOp.farith rfl rfl (ltb rfl) rfl rfl q45 ?_)
  refine AO.op rfl (AOp.move rfl rfl (ltb rfl) rfl ?_)
  refine AO.op rfl (AOp.move rfl rfl (ltb rfl) rfl ?_)
  obtain ⟨z46, q47, h0⟩ := bind_elim h0
  refine AO.op rfl (AOp.farith rfl rfl (ltb rfl) rfl rfl q47 ?_)
  obtain ⟨z48, q49, h0⟩ := bind_elim h0
  refine AO.op rfl (AOp.farith rfl rfl (ltb rfl) rfl rfl q49 ?_)
  refine AO.op rfl (AOp.move rfl rfl (ltb rfl) rfl ?_)
  refine AO.op rfl (AOp.move rfl rfl (ltb rfl) rfl ?_)
  obtain ⟨z50, q51, h0⟩ := bind_elim h0
  refine AO.op rfl (AOp.farith rfl rfl (ltb rfl) rfl rfl q51 ?_)
  obtain ⟨z52, q53, h0⟩ := bind_elim h0
  refine AO.op rfl (AOp.farith rfl rfl (ltb rfl) rfl rfl q53 ?_)
  refine AO.op rfl (AOp.move rfl rfl (ltb rfl) rfl ?_)
  refine AO.op rfl (AOp.move rfl rfl (ltb rfl) rfl ?_)
  obtain ⟨z54, q55, h0⟩ := bind_elim h0
  refine AO.op rfl (AOp.farith rfl rfl (ltb rfl) rfl rfl q55 ?_)
  refine AO.op rfl (AOp.move rfl rfl (ltb rfl) rfl ?_)
  refine AO.op rfl (AOp.move rfl rfl (ltb rfl) rfl ?_)
  obtain ⟨z56, q57, h0⟩ := bind_elim h0
  refine AO.op rfl (AOp.farith rfl rfl (ltb rfl) rfl rfl q57 ?_)
  obtain ⟨z58, q59, h0⟩ := bind_elim h0
  refine AO.op rfl (AOp.farith rfl rfl (ltb rfl) rfl rfl q59 ?_)
  refine AO.op rfl (AOp.move rfl rfl (ltb rfl) rfl ?_)
  refine AO.op rfl (AOp.move rfl rfl (ltb rfl) rfl ?_)
  obtain ⟨z60, q61, h0⟩ := bind_elim h0
  refine AO.op rfl (AOp.farith rfl rfl (ltb rfl) rfl rfl q61 ?_)
  obtain ⟨z62, q63, h0⟩ := bind_elim h0
  refine AO.op rfl (AOp.farith rfl rfl (ltb rfl) rfl rfl q63 ?_)
  refine AO.op rfl (AOp.move rfl rfl (ltb rfl) rfl ?_)
  refine AO.op rfl (AOp.move rfl rfl (ltb rfl) rfl ?_)
  obtain ⟨z64, q65, h0⟩ := bind_elim h0
  refine AO.op rfl (AOp.farith rfl rfl (ltb rfl) rfl rfl q65 ?_)
  refine AO.op rfl (AOp.move rfl rfl (ltb rfl) rfl ?_)
  refine AO.op rfl (AOp.move rfl rfl (ltb rfl) rfl ?_)
  obtain ⟨z66, q67, h0⟩ := bind_elim h0
  refine AO.op rfl (AOp.farith rfl rfl (ltb rfl) rfl rfl q67 ?_)
  obtain ⟨z68, q69, h0⟩ := bind_elim h0
  refine AO.op rfl (AOp.farith rfl rfl (ltb rfl) rfl rfl q69 ?_)
  refine AO.op rfl (AOp.move rfl rfl (ltb rfl) rfl ?_)
  refine AO.op rfl (AOp.move rfl rfl (ltb rfl) rfl ?_)
  obtain ⟨z70, q71, h0⟩ := bind_elim h0
  refine AO.op rfl (AOp.farith rfl rfl (ltb rfl) rfl rfl q71 ?_)
  obtain ⟨z72, q73, h0⟩ := bind_elim h0
  refine AO.op rfl (AOp.farith rfl rfl (ltb rfl) rfl rfl q73 ?_)
  refine AO.op rfl (AOp.move rfl rfl (ltb rfl) rfl ?_)
  refine AO.op rfl (AOp.move rfl rfl (ltb rfl) rfl ?_)
  obtain ⟨z74, q75, h0⟩ := bind_elim h0
  refine AO.op rfl (AOp.farith rfl rfl (ltb rfl) rfl rfl q75 ?_)
  refine AO.op rfl (AOp.move rfl rfl (ltb rfl) rfl ?_)
  refine AO.op rfl (AOp.move rfl rfl (ltb rfl) rfl ?_)
  obtain ⟨z76, q77, h0⟩ := bind_elim h0
  refine AO.op rfl (AOp.farith rfl rfl (ltb rfl) rfl rfl q77 ?_)
  obtain ⟨z78, q79, h0⟩ := bind_elim h0
  refine AO.op rfl (AOp.farith rfl rfl (ltb rfl) rfl rfl q79 ?_)
  refine AO.op rfl (AOp.move rfl rfl (ltb rfl) rfl ?_)
  refine AO.op rfl (AOp.move rfl rfl (ltb rfl) rfl ?_)
  obtain ⟨z80, q81, h0⟩ := bind_elim h0
  refine AO.op rfl (AOp.farith rfl rfl (ltb rfl) rfl rfl q81 ?_)
  obtain ⟨z82, q83, h0⟩ := bind_elim h0
  refine AO.op rfl (AOp.farith rfl rfl (ltb rfl) rfl rfl q83 ?_)
  refine AO.op rfl (AOp.move rfl rfl (ltb rfl) rfl ?_)
  refine AO.op rfl (AOp.move rfl rfl (ltb rfl) rfl ?_)
  obtain ⟨z84, q85, h0⟩ := bind_elim h0
  refine AO.op rfl (AOp.farith rfl rfl (ltb rfl) rfl rfl q85 ?_)
  refine AO.op rfl (AOp.move rfl rfl (ltb rfl) rfl ?_)
  refine AO.op rfl (AOp.move rfl rfl (ltb rfl) rfl ?_)
  obtain ⟨z86, q87, h0⟩ := bind_elim h0
  refine AO.op rfl (AOp.farith rfl rfl (ltb rfl) rfl rfl q87 ?_)
  obtain ⟨z88, q89, h0⟩ := bind_elim h0
  refine AO.op rfl (AOp.farith rfl rfl (ltb rfl) rfl rfl q89 ?_)
  refine AO.op rfl (AOp.move rfl rfl (ltb rfl) rfl ?_)
  refine AO.op rfl (AOp.move rfl rfl (ltb rfl) rfl ?_)
  obtain ⟨z90, q91, h0⟩ := bind_elim h0
  refine AO.op rfl (AOp.farith rfl rfl (ltb rfl) rfl rfl q91 ?_)
  obtain ⟨z92, q93, h0⟩ := bind_elim h0
  refine AO.op rfl (AOp.farith rfl rfl (ltb rfl) rfl rfl q93 ?_)
  refine AO.op rfl (AOp.move rfl rfl (ltb rfl) rfl ?_)
  refine AO.op rfl (AOp.move rfl rfl (ltb rfl) rfl ?_)
  obtain ⟨z94, q95, h0⟩ := bind_elim h0
  refine AO.op rfl (AOp.farith rfl rfl (ltb rfl) rfl rfl q95 ?_)
  refine AO.op rfl (AOp.move rfl rfl (ltb rfl) rfl ?_)
  refine AO.op rfl (AOp.move rfl rfl (ltb rfl) rfl ?_)
  obtain ⟨z96, q97, h0⟩ := bind_elim h0
  refine AO.op rfl (AOp.farith rfl rfl (ltb rfl) rfl rfl q97 ?_)
  obtain ⟨z98, q99, h0⟩ := bind_elim h0
  refine AO.op rfl (AOp.farith rfl rfl (ltb rfl) rfl rfl q99 ?_)
  refine AO.op rfl (AOp.move rfl rfl (ltb rfl) rfl ?_)
  refine AO.op rfl (AOp.move rfl rfl (ltb rfl) rfl ?_)
  obtain ⟨z100, q101, h0⟩ := bind_elim h0
  refine AO.op rfl (AOp.farith rfl rfl (ltb rfl) rfl rfl q101 ?_)
  obtain ⟨z102, q103, h0⟩ := bind_elim h0
  refine AO.op rfl (AOp.farith rfl rfl (ltb rfl) rfl rfl q103 ?_)
  refine AO.op rfl (AOp.move rfl rfl (ltb rfl) rfl ?_)
  refine AO.op rfl (AOp.move rfl rfl (ltb rfl) rfl ?_)
  obtain ⟨z104, q105, h0⟩ := bind_elim h0
  refine AO.op rfl (AOp.farith rfl rfl (ltb rfl) rfl rfl q105 ?_)
  refine AO.op rfl (AOp.move rfl rfl (ltb rfl) rfl ?_)
  refine AO.op rfl (AOp.move rfl rfl (ltb rfl) rfl ?_)
  obtain ⟨z106, q107, h0⟩ := bind_elim h0
  refine AO.op rfl (AOp.farith rfl rfl (ltb rfl) rfl rfl q107 ?_)
  obtain ⟨z108, q109, h0⟩ := bind_elim h0
  refine AO.op rfl (AOp.farith rfl rfl (ltb rfl) rfl rfl q109 ?_)
  refine AO.op rfl (AOp.move rfl rfl (ltb rfl) rfl ?_)
  refine AO.op rfl (AOp.move rfl rfl (ltb rfl) rfl ?_)
  obtain ⟨z110, q111, h0⟩ := bind_elim h0
  refine AO.op rfl (AOp.farith rfl rfl (ltb rfl) rfl rfl q111 ?_)
  obtain ⟨z112, q113, h0⟩ := bind_elim h0
  refine AO.op rfl (AOp.farith rfl rfl (ltb rfl) rfl rfl q113 ?_)
  refine AO.op rfl (AOp.move rfl rfl (ltb rfl) rfl ?_)
  refine AO.op rfl (AOp.move rfl rfl (ltb rfl) rfl ?_)
  obtain ⟨z114, q115, h0⟩ := bind_elim h0
  refine AO.op rfl (AOp.farith rfl rfl (ltb rfl) rfl rfl q115 ?_)
  refine AO.op rfl (AOp.move rfl rfl (ltb rfl) rfl ?_)
  refine AO.op rfl (AOp.move rfl rfl (ltb rfl) rfl ?_)
  obtain ⟨z116, q117, h0⟩ := bind_elim h0
  refine AO.op rfl (AOp.farith rfl rfl (ltb rfl) rfl rfl q117 ?_)
  obtain ⟨z118, q119, h0⟩ := bind_elim h0
  refine AO.op rfl (AOp.farith rfl rfl (ltb rfl) rfl rfl q119 ?_)
  refine AO.op rfl (AOp.move rfl rfl (ltb rfl) rfl ?_)
  refine AO.op rfl (AOp.move rfl rfl (ltb rfl) rfl ?_)
  obtain ⟨z120, q121, h0⟩ := bind_elim h0
  refine AO.op rfl (AOp.farith rfl rfl (ltb rfl) rfl rfl q121 ?_)
  obtain ⟨z122, q123, h0⟩ := bind_elim h0
  refine AO.op rfl (AOp.farith rfl rfl (ltb rfl) rfl rfl q123 ?_)
  refine AO.op rfl (AOp.move rfl rfl (ltb rfl) rfl ?_)
  refine AO.op rfl (AOp.move rfl rfl (ltb rfl) rfl ?_)
  obtain ⟨z124, q125, h0⟩ := bind_elim h0
  refine AO.op rfl (AOp.farith rfl rfl (ltb rfl) rfl rfl q125 ?_)
  refine AO.op rfl (AOp.move rfl rfl (ltb rfl) rfl ?_)
  refine AO.op rfl (AOp.move rfl rfl (ltb rfl) rfl ?_)
  obtain ⟨z126, q127, h0⟩ := bind_elim h0
  refine AO.op rfl (AOp.farith rfl rfl (ltb rfl) rfl rfl q127 ?_)
  obtain ⟨z128, q129, h0⟩ := bind_elim h0
  refine AO.op rfl (AOp.farith rfl rfl (ltb rfl) rfl rfl q129 ?_)
  refine AO.op rfl (AOp.move rfl rfl (ltb rfl) rfl ?_)
  refine AO.op rfl (AOp.move rfl rfl (ltb rfl) rfl ?_)
  obtain ⟨z130, q131, h0⟩ := bind_elim h0
  refine AO.op rfl (AOp.farith rfl rfl (ltb rfl) rfl rfl q131 ?_)
  obtain ⟨z132, q133, h0⟩ := bind_elim h0
  refine AO.op rfl (AOp.farith rfl rfl (ltb rfl) rfl rfl q133 ?_)
  refine AO.op rfl (AOp.build (r := [.d (dfl z52), .d (dfl z62), .d (dfl z72), .d (dfl z82), .d (dfl z92), .d (dfl z102), .d (dfl z112), .d (dfl z122), .d (dfl z132)]) rfl rfl (ltb rfl) zero61 rfl places61 rfl rfl ?_)
  refine AO.op rfl (AOp.nilCheck rfl rfl (ltb rfl) rfl rfl ?_)
  refine AO.op rfl (AOp.store rfl rfl rfl rfl size61 rfl rfl rfl (leb rfl) ?_)
  refine AO.nil ?_
  refine inlend (ob' := [.fix 24 [.d (dfl a0.e0), .d (dfl a0.e1), .d (dfl a0.e2), .d (dfl a0.e3), .d (dfl a0.e4), .d (dfl a0.e5), .d (dfl a0.e6), .d (dfl a0.e7), .d (dfl a0.e8)], .fix 24 [.d (dfl a1.e0), .d (dfl a1.e1), .d (dfl a1.e2), .d (dfl a1.e3), .d (dfl a1.e4), .d (dfl a1.e5), .d (dfl a1.e6), .d (dfl a1.e7), .d (dfl a1.e8)], .fix 24 [.d (dfl (0 : Nat)), .d (dfl (0 : Nat)), .d (dfl (0 : Nat)), .d (dfl (0 : Nat)), .d (dfl (0 : Nat)), .d (dfl (0 : Nat)), .d (dfl (0 : Nat)), .d (dfl (0 : Nat)), .d (dfl (0 : Nat))], .fix 51 [.ptr 7 0], .dead, .dead, .dead, .fix 61 [.d (dfl z52), .d (dfl z62), .d (dfl z72), .d (dfl z82), .d (dfl z92), .d (dfl z102), .d (dfl z112), .d (dfl z122), .d (dfl z132)]]) (e' := [(4, .ptr 2 0), (5, .ptr 3 0)]) (r := .tu []) rfl rfl rfl ?_
  change AO _ _ _ _ _
  refine AO.objs (obs' := [.fix 24 [.d (dfl a0.e0), .d (dfl a0.e1), .d (dfl a0.e2), .d (dfl a0.e3), .d (dfl a0.e4), .d (dfl a0.e5), .d (dfl a0.e6), .d (dfl a0.e7), .d (dfl a0.e8)], .fix 24 [.d (dfl a1.e0), .d (dfl a1.e1), .d (dfl a1.e2), .d (dfl a1.e3), .d (dfl a1.e4), .d (dfl a1.e5), .d (dfl a1.e6), .d (dfl a1.e7), .d (dfl a1.e8)], .fix 24 [.d (dfl (0 : Nat)), .d (dfl (0 : Nat)), .d (dfl (0 : Nat)), .d (dfl (0 : Nat)), .d (dfl (0 : Nat)), .d (dfl (0 : Nat)), .d (dfl (0 : Nat)), .d (dfl (0 : Nat)), .d (dfl (0 : Nat))], .fix 51 [.ptr 7 0], .dead, .dead, .dead, .fix 61 [.d (dfl z52), .d (dfl z62), .d (dfl z72), .d (dfl z82), .d (dfl z92), .d (dfl z102), .d (dfl z112), .d (dfl z122), .d (dfl z132)]]) rfl ?_
  refine AO.nil ?_
  change AC _ _ _ _
  refine AC.seq ?_
  refine AC.region ?_
  refine AO.op rfl (AOp.inl [4] (by kernel_rfl) Tryd.func20 rfl Tryd.ntmps20 rfl rfl (ltb rfl) rfl (leb rfl) rfl ?_)
  intro fr134
  refine AC.seq ?_
  refine AC.region ?_
  refine AO.op rfl (AOp.alloc rfl rfl (ltb rfl) zero24 rfl ?_)
  refine AO.objs (obs' := [.fix 24 [.d (dfl a0.e0), .d (dfl a0.e1), .d (dfl a0.e2), .d (dfl a0.e3), .d (dfl a0.e4), .d (dfl a0.e5), .d (dfl a0.e6), .d (dfl a0.e7), .d (dfl a0.e8)], .fix 24 [.d (dfl a1.e0), .d (dfl a1.e1), .d (dfl a1.e2), .d (dfl a1.e3), .d (dfl a1.e4), .d (dfl a1.e5), .d (dfl a1.e6), .d (dfl a1.e7), .d (dfl a1.e8)], .fix 24 [.d (dfl (0 : Nat)), .d (dfl (0 : Nat)), .d (dfl (0 : Nat)), .d (dfl (0 : Nat)), .d (dfl (0 : Nat)), .d (dfl (0 : Nat)), .d (dfl (0 : Nat)), .d (dfl (0 : Nat)), .d (dfl (0 : Nat))], .fix 51 [.ptr 7 0], .dead, .dead, .dead, .fix 61 [.d (dfl z52), .d (dfl z62), .d (dfl z72), .d (dfl z82), .d (dfl z92), .d (dfl z102), .d (dfl z112), .d (dfl z122), .d (dfl z132)], .frame fr134 [(4, .ptr 2 0)], .fix 24 [.d (dfl (0 : Nat)), .d (dfl (0 : Nat)), .d (dfl (0 : Nat)), .d (dfl (0 : Nat)), .d (dfl (0 : Nat)), .d (dfl (0 : Nat)), .d (dfl (0 : Nat)), .d (dfl (0 : Nat)), .d (dfl (0 : Nat))]]) rfl ?_
  refine AO.nil ?_
  change AC _ _ _ _
  refine AC.seq ?_
  refine AC.region ?_
  refine AO.op rfl (AOp.alloc rfl rfl (ltb rfl) zero24 rfl ?_)
  refine AO.nil ?_
  change AC _ _ _ _
  refine AC.seq ?_
  refine AC.seq ?_
  refine AC.region ?_
  refine AO.op rfl (AOp.move rfl rfl (ltb rfl) rfl ?_)
  refine AO.nil ?_
  change AC _ _ _ _
  refine AC.block ?_
  refine AC.loopU ?_
  refine ACL.round ?_
  refine AC.seq ?_
  refine AC.region ?_
  refine AO.op rfl (AOp.ilss rfl rfl (ltb rfl) rfl rfl ?_)
  refine AO.nil ?_
  change AC _ _ _ _
  refine AC.seq ?_
  refine AC.condT rfl rfl ?_
  refine AC.skip ?_
  change AC _ _ _ _
  refine AC.seq ?_
  refine AC.block ?_
  refine AC.seq ?_
  refine AC.region ?_
  refine AO.op rfl (AOp.move rfl rfl (ltb rfl) rfl ?_)
  refine AO.op rfl (AOp.assign rfl rfl (ltb rfl) rfl ?_)
  refine AO.nil ?_
  change AC _ _ _ _
  refine AC.region ?_
  refine AO.op rfl (AOp.move rfl rfl (ltb rfl) rfl ?_)
  refine AO.op rfl (AOp.move rfl rfl (ltb rfl) rfl ?_)
  refine AO.op rfl (AOp.move rfl rfl (ltb rfl) rfl ?_)
  refine AO.op rfl (AOp.iquo rfl rfl (ltb rfl) rfl rfl (by decide) (show Int.tdiv (0 : Int) (3 : Int) = (0 : Int) by decide) (by decide) (by decide) ?_)
  refine AO.op rfl (AOp.move rfl rfl (ltb rfl) rfl ?_)
  refine AO.op rfl (AOp.irem rfl rfl (ltb rfl) rfl rfl (by decide) (show Int.tmod (0 : Int) (3 : Int) = (0 : Int) by decide) ?_)
  refine AO.op rfl (AOp.inl [0, 2, 3, 5, 8] (by kernel_rfl) Tryd.func28 rfl Tryd.ntmps28 rfl rfl (ltb rfl) rfl (leb rfl) rfl ?_)
  intro fr135
  refine AC.seq ?_
  refine AC.region ?_
  refine AO.op rfl (AOp.assign rfl rfl (ltb rfl) rfl ?_)
  refine AO.objs (obs' := [.fix 24 [.d (dfl a0.e0), .d (dfl a0.e1), .d (dfl a0.e2), .d (dfl a0.e3), .d (dfl a0.e4), .d (dfl a0.e5), .d (dfl a0.e6), .d (dfl a0.e7), .d (dfl a0.e8)], .fix 24 [.d (dfl a1.e0), .d (dfl a1.e1), .d (dfl a1.e2), .d (dfl a1.e3), .d (dfl a1.e4), .d (dfl a1.e5), .d (dfl a1.e6), .d (dfl a1.e7), .d (dfl a1.e8)], .fix 24 [.d (dfl (0 : Nat)), .d (dfl (0 : Nat)), .d (dfl (0 : Nat)), .d (dfl (0 : Nat)), .d (dfl (0 : Nat)), .d (dfl (0 : Nat)), .d (dfl (0 : Nat)), .d (dfl (0 : Nat)), .d (dfl (0 : Nat))], .fix 51 [.ptr 7 0], .dead, .dead, .dead, .fix 61 [.d (dfl z52), .d (dfl z62), .d (dfl z72), .d (dfl z82), .d (dfl z92), .d (dfl z102), .d (dfl z112), .d (dfl z122), .d (dfl z132)], .frame fr134 [(4, .ptr 2 0)], .fix 24 [.d (dfl (0 : Nat)), .d (dfl (0 : Nat)), .d (dfl (0 : Nat)), .d (dfl (0 : Nat)), .d (dfl (0 : Nat)), .d (dfl (0 : Nat)), .d (dfl (0 : Nat)), .d (dfl (0 : Nat)), .d (dfl (0 : Nat))], .fix 24 [.d (dfl (0 : Nat)), .d (dfl (0 : Nat)), .d (dfl (0 : Nat)), .d (dfl (0 : Nat)), .d (dfl (0 : Nat)), .d (dfl (0 : Nat)), .d (dfl (0 : Nat)), .d (dfl (0 : Nat)), .d (dfl (0 : Nat))], .frame fr135 [(0, .ptr 3 0), (2, .ptr 9 0), (3, .ptr 10 0), (5, .d (di .i64 (0 : Int))), (8, .d (di .i64 (0 : Int)))]]) rfl ?_
  refine AO.nil ?_
  change AC _ _ _ _
  refine AC.seq ?_
  refine AC.seq ?_
  refine AC.region ?_
  refine AO.op rfl (AOp.move rfl rfl (ltb rfl) rfl ?_)
  refine AO.op rfl (AOp.i2i rfl rfl (ltb rfl) rfl Tryd.underlying3 Tryd.underlying67 (show IntKind.u64.wrap (0 : Int) = (0 : Int) by decide) ?_)
  refine AO.op rfl (AOp.igtr rfl rfl (ltb rfl) rfl rfl ?_)
  refine AO.nil ?_
  change AC _ _ _ _
  refine AC.condF rfl rfl ?_
  refine AC.skip ?_
  change AC _ _ _ _
  refine AC.seq ?_
  refine AC.seq ?_
  refine AC.region ?_
  refine AO.op rfl (AOp.move rfl rfl (ltb rfl) rfl ?_)
  refine AO.op rfl (AOp.i2i rfl rfl (ltb rfl) rfl Tryd.underlying3 Tryd.underlying67 (show IntKind.u64.wrap (0 : Int) = (0 : Int) by decide) ?_)
  refine AO.op rfl (AOp.igtr rfl rfl (ltb rfl) rfl rfl ?_)
  refine AO.nil ?_
  change AC _ _ _ _
  refine AC.condF rfl rfl ?_
  refine AC.skip ?_
  change AC _ _ _ _
  refine AC.seq ?_
  refine AC.seq ?_
  refine AC.region ?_
  refine AO.op rfl (AOp.move rfl rfl (ltb rfl) rfl ?_)
  refine AO.op rfl (AOp.nilCheck rfl rfl (ltb rfl) rfl rfl ?_)
  refine AO.op rfl (AOp.fieldAddr rfl rfl (ltb rfl) rfl fo51_0 ?_)
  refine AO.op rfl (AOp.load1 rfl rfl (ltb rfl) rfl agg49 rfl rfl ?_)
  refine AO.op rfl (AOp.ptrNilEql rfl rfl (ltb rfl) rfl rfl pmeth49 ?_)
  refine AO.nil ?_
  change AC _ _ _ _
  refine AC.condF rfl rfl ?_
  refine AC.skip ?_
  change AC _ _ _ _
  refine AC.seq ?_
  refine AC.region ?_
  refine AO.op rfl (AOp.move rfl rfl (ltb rfl) rfl ?_)
  refine AO.op rfl (AOp.nilCheck rfl rfl (ltb rfl) rfl rfl ?_)
  refine AO.op rfl (AOp.fieldAddr rfl rfl (ltb rfl) rfl fo51_0 ?_)
  refine AO.op rfl (AOp.load1 rfl rfl (ltb rfl) rfl agg49 rfl rfl ?_)
  refine AO.op rfl (AOp.move rfl rfl (ltb rfl) rfl ?_)
  refine AO.op rfl (AOp.imul rfl rfl (ltb rfl) rfl rfl (show (0 : Int) * (3 : Int) = (0 : Int) by decide) (by decide) (by decide) ?_)
  refine AO.op rfl (AOp.move rfl rfl (ltb rfl) rfl ?_)
  refine AO.op rfl (AOp.iadd rfl rfl (ltb rfl) rfl rfl (show (0 : Int) + (0 : Int) = (0 : Int) by decide) (by decide) (by decide) ?_)
  refine AO.op rfl (AOp.nilCheck rfl rfl (ltb rfl) rfl rfl ?_)
  refine AO.op rfl (AOp.indexArrO rfl rfl (ltb rfl) rfl rfl ar61 (by decide) (by decide) (show _ = 0 by first | rfl | decide) ?_)
  refine AO.op rfl (AOp.load1 rfl rfl (ltb rfl) rfl agg22 rfl rfl ?_)
  refine AO.op rfl (AOp.assign rfl rfl (ltb rfl) rfl ?_)
  refine AO.nil ?_
  change AC _ _ _ _
  refine AC.ret ?_
  refine inlret (ob' := [.fix 24 [.d (dfl a0.e0), .d (dfl a0.e1), .d (dfl a0.e2), .d (dfl a0.e3), .d (dfl a0.e4), .d (dfl a0.e5), .d (dfl a0.e6), .d (dfl a0.e7), .d (dfl a0.e8)], .fix 24 [.d (dfl a1.e0), .d (dfl a1.e1), .d (dfl a1.e2), .d (dfl a1.e3), .d (dfl a1.e4), .d (dfl a1.e5), .d (dfl a1.e6), .d (dfl a1.e7), .d (dfl a1.e8)], .fix 24 [.d (dfl (0 : Nat)), .d (dfl (0 : Nat)), .d (dfl (0 : Nat)), .d (dfl (0 : Nat)), .d (dfl (0 : Nat)), .d (dfl (0 : Nat)), .d (dfl (0 : Nat)), .d (dfl (0 : Nat)), .d (dfl (0 : Nat))], .fix 51 [.ptr 7 0], .dead, .dead, .dead, .fix 61 [.d (dfl z52), .d (dfl z62), .d (dfl z72), .d (dfl z82), .d (dfl z92), .d (dfl z102), .d (dfl z112), .d (dfl z122), .d (dfl z132)], .frame fr134 [(4, .ptr 2 0)], .fix 24 [.d (dfl (0 : Nat)), .d (dfl (0 : Nat)), .d (dfl (0 : Nat)), .d (dfl (0 : Nat)), .d (dfl (0 : Nat)), .d (dfl (0 : Nat)), .d (dfl (0 : Nat)), .d (dfl (0 : Nat)), .d (dfl (0 : Nat))], .fix 24 [.d (dfl (0 : Nat)), .d (dfl (0 : Nat)), .d (dfl (0 : Nat)), .d (dfl (0 : Nat)), .d (dfl (0 : Nat)), .d (dfl (0 : Nat)), .d (dfl (0 : Nat)), .d (dfl (0 : Nat)), .d (dfl (0 : Nat))], .dead]) (e' := [(0, .ptr 3 0), (2, .ptr 9 0), (3, .ptr 10 0), (5, .d (di .i64 (0 : Int))), (8, .d (di .i64 (0 : Int)))]) (r := .d (dfl z52)) rfl rfl rfl ?_
  change AO _ _ _ _ _
  refine AO.op rfl (AOp.indexArrO rfl rfl (ltb rfl) rfl rfl ar24 (by decide) (by decide) (show _ = 0 by first | rfl | decide) ?_)
  refine AO.op rfl (AOp.store rfl rfl rfl rfl size22 rfl rfl rfl (leb rfl) ?_)
  refine AO.objs (obs' := [.fix 24 [.d (dfl a0.e0), .d (dfl a0.e1), .d (dfl a0.e2), .d (dfl a0.e3), .d (dfl a0.e4), .d (dfl a0.e5), .d (dfl a0.e6), .d (dfl a0.e7), .d (dfl a0.e8)], .fix 24 [.d (dfl a1.e0), .d (dfl a1.e1), .d (dfl a1.e2), .d (dfl a1.e3), .d (dfl a1.e4), .d (dfl a1.e5), .d (dfl a1.e6), .d (dfl a1.e7), .d (dfl a1.e8)], .fix 24 [.d (dfl (0 : Nat)), .d (dfl (0 : Nat)), .d (dfl (0 : Nat)), .d (dfl (0 : Nat)), .d (dfl (0 : Nat)), .d (dfl (0 : Nat)), .d (dfl (0 : Nat)), .d (dfl (0 : Nat)), .d (dfl (0 : Nat))], .fix 51 [.ptr 7 0], .dead, .dead, .dead, .fix 61 [.d (dfl z52), .d (dfl z62), .d (dfl z72), .d (dfl z82), .d (dfl z92), .d (dfl z102), .d (dfl z112), .d (dfl z122), .d (dfl z132)], .frame fr134 [(4, .ptr 2 0)], .fix 24 [.d (dfl (0 : Nat)), .d (dfl (0 : Nat)), .d (dfl (0 : Nat)), .d (dfl (0 : Nat)), .d (dfl (0 : Nat)), .d (dfl (0 : Nat)), .d (dfl (0 : Nat)), .d (dfl (0 : Nat)), .d (dfl (0 : Nat))], .fix 24 [.d (dfl z52), .d (dfl (0 : Nat)), .d (dfl (0 : Nat)), .d (dfl (0 : Nat)), .d (dfl (0 : Nat)), .d (dfl (0 : Nat)), .d (dfl (0 : Nat)), .d (dfl (0 : Nat)), .d (dfl (0 : Nat))], .dead]) rfl ?_
  refine AO.nil ?_
  change AC _ _ _ _
  refine AC.region ?_
  refine AO.op rfl (AOp.iadd rfl rfl (ltb rfl) rfl rfl (show (0 : Int) + (1 : Int) = (1 : Int) by decide) (by decide) (by decide) ?_)
  refine AO.op rfl (AOp.move rfl rfl (ltb rfl) rfl ?_)
  refine AO.nil ?_
  change ACL _ _ _ _
  refine ACL.round ?_
  refine AC.seq ?_
  refine AC.region ?_
  refine AO.op rfl (AOp.ilss rfl rfl (ltb rfl) rfl rfl ?_)
  refine AO.nil ?_
  change AC _ _ _ _
  refine AC.seq ?_
  refine AC.condT rfl rfl ?_
  refine AC.skip ?_
  change AC _ _ _ _
  refine AC.seq ?_
  refine AC.block ?_
  refine AC.seq ?_
  refine AC.region ?_
  refine AO.op rfl (AOp.move rfl rfl (ltb rfl) rfl ?_)
  refine AO.op rfl (AOp.assign rfl rfl (ltb rfl) rfl ?_)
  refine AO.nil ?_
  change AC _ _ _ _
  refine AC.region ?_
  refine AO.op rfl (AOp.move rfl rfl (ltb rfl) rfl ?_)
  refine AO.op rfl (AOp.move rfl rfl (ltb rfl) rfl ?_)
  refine AO.op rfl (AOp.move rfl rfl (ltb rfl) rfl ?_)
  refine AO.op rfl (AOp.iquo rfl rfl (ltb rfl) rfl rfl (by decide) (show Int.tdiv (1 : Int) (3 : Int) = (0 : Int) by decide) (by decide) (by decide) ?_)
  refine AO.op rfl (AOp.move rfl rfl (ltb rfl) rfl ?_)
  refine AO.op rfl (AOp.irem rfl rfl (ltb rfl) rfl rfl (by decide) (show Int.tmod (1 : Int) (3 : Int) = (1 : Int) by decide) ?_)
  refine AO.op rfl (AOp.inl [0, 2, 3, 5, 8, 14, 15] (by kernel_rfl) Tryd.func28 rfl Tryd.ntmps28 rfl rfl (ltb rfl) rfl (leb rfl) rfl ?_)
  intro fr136
  refine AC.seq ?_
  refine AC.region ?_
  refine AO.op rfl (AOp.assign rfl rfl (ltb rfl) rfl ?_)
  refine AO.objs (obs' := [.fix 24 [.d (dfl a0.e0), .d (dfl a0.e1), .d (dfl a0.e2), .d (dfl a0.e3), .d (dfl a0.e4), .d (dfl a0.e5), .d (dfl a0.e6), .d (dfl a0.e7), .d (dfl a0.e8)], .fix 24 [.d (dfl a1.e0), .d (dfl a1.e1), .d (dfl a1.e2), .d (dfl a1.e3), .d (dfl a1.e4), .d (dfl a1.e5), .d (dfl a1.e6), .d (dfl a1.e7), .d (dfl a1.e8)], .fix 24 [.d (dfl (0 : Nat)), .d (dfl (0 : Nat)), .d (dfl (0 : Nat)), .d (dfl (0 : Nat)), .d (dfl (0 : Nat)), .d (dfl (0 : Nat)), .d (dfl (0 : Nat)), .d (dfl (0 : Nat)), .d (dfl (0 : Nat))], .fix 51 [.ptr 7 0], .dead, .dead, .dead, .fix 61 [.d (dfl z52), .d (dfl z62), .d (dfl z72), .d (dfl z82), .d (dfl z92), .d (dfl z102), .d (dfl z112), .d (dfl z122), .d (dfl z132)], .frame fr134 [(4, .ptr 2 0)], .fix 24 [.d (dfl (0 : Nat)), .d (dfl (0 : Nat)), .d (dfl (0 : Nat)), .d (dfl (0 : Nat)), .d (dfl (0 : Nat)), .d (dfl (0 : Nat)), .d (dfl (0 : Nat)), .d (dfl (0 : Nat)), .d (dfl (0 : Nat))], .fix 24 [.d (dfl z52), .d (dfl (0 : Nat)), .d (dfl (0 : Nat)), .d (dfl (0 : Nat)), .d (dfl (0 : Nat)), .d (dfl (0 : Nat)), .d (dfl (0 : Nat)), .d (dfl (0 : Nat)), .d (dfl (0 : Nat))], .dead, .frame fr136 [(0, .ptr 3 0), (2, .ptr 9 0), (3, .ptr 10 0), (5, .d (di .i64 (1 : Int))), (8, .d (di .i64 (1 : Int))), (14, .d (dfl z52)), (15, .ptr 10 0)]]) rfl ?_
  refine AO.nil ?_
  change AC _ _ _ _
  refine AC.seq ?_
  refine AC.seq ?_
  refine AC.region ?_
  refine AO.op rfl (AOp.move rfl rfl (ltb rfl) rfl ?_)
  refine AO.op rfl (AOp.i2i rfl rfl (ltb rfl) rfl Tryd.underlying3 Tryd.underlying67 (show IntKind.u64.wrap (0 : Int) = (0 : Int) by decide) ?_)
  refine AO.op rfl (AOp.igtr rfl rfl (ltb rfl) rfl rfl ?_)
  refine AO.nil ?_
  change AC _ _ _ _
  refine AC.condF rfl rfl ?_
  refine AC.skip ?_
  change AC _ _ _ _
  refine AC.seq ?_
  refine AC.seq ?_
  refine AC.region ?_
  refine AO.op rfl (AOp.move rfl rfl (ltb rfl) rfl ?_)
  refine AO.op rfl (AOp.i2i rfl rfl (ltb rfl) rfl Tryd.underlying3 Tryd.underlying67 (show IntKind.u64.wrap (1 : Int) = (1 : Int) by decide) ?_)
  refine AO.op rfl (AOp.igtr rfl rfl (ltb rfl) rfl rfl ?_)
  refine AO.nil ?_
  change AC _ _ _ _
  refine AC.condF rfl rfl ?_
  refine AC.skip ?_
  change AC _ _ _ _
  refine AC.seq ?_
  refine AC.seq ?_
  refine AC.region ?_
  refine AO.op rfl (AOp.move rfl rfl (ltb rfl) rfl ?_)
  refine AO.op rfl (AOp.nilCheck rfl rfl (ltb rfl) rfl rfl ?_)
  refine AO.op rfl (AOp.fieldAddr rfl rfl (ltb rfl) rfl fo51_0 ?_)
  refine AO.op rfl (AOp.load1 rfl rfl (ltb rfl) rfl agg49 rfl rfl ?_)
  refine AO.op rfl (AOp.ptrNilEql rfl rfl (ltb rfl) rfl rfl pmeth49 ?_)
  refine AO.nil ?_
  change AC _ _ _ _
  refine AC.condF rfl rfl ?_
  refine AC.skip ?_
  change AC _ _ _ _
  refine AC.seq ?_
  refine AC.region ?_
  refine AO.op rfl (AOp.move rfl rfl (ltb rfl) rfl ?_)
  refine AO.op rfl (AOp.nilCheck rfl rfl (ltb rfl) rfl rfl ?_)
  refine AO.op rfl (AOp.fieldAddr rfl rfl (ltb rfl) rfl fo51_0 ?_)
  refine AO.op rfl (AOp.load1 rfl rfl (ltb rfl) rfl agg49 rfl rfl ?_)
  refine AO.op rfl (AOp.move rfl rfl (ltb rfl) rfl ?_)
  refine AO.op rfl (AOp.imul rfl rfl (ltb rfl) rfl rfl (show (0 : Int) * (3 : Int) = (0 : Int) by decide) (by decide) (by decide) ?_)
  refine AO.op rfl (AOp.move rfl rfl (ltb rfl) rfl ?_)
  refine AO.op rfl (AOp.iadd rfl rfl (ltb rfl) rfl rfl (show (0 : Int) + (1 : Int) = (1 : Int) by decide) (by decide) (by decide) ?_)
  refine AO.op rfl (AOp.nilCheck rfl rfl (ltb rfl) rfl rfl ?_)
  refine AO.op rfl (AOp.indexArrO rfl rfl (ltb rfl) rfl rfl ar61 (by decide) (by decide) (show _ = 1 by first | rfl | decide) ?_)
  refine AO.op rfl (AOp.load1 rfl rfl (ltb rfl) rfl agg22 rfl rfl ?_)
  refine AO.op rfl (AOp.assign rfl rfl (ltb rfl) rfl ?_)
  refine AO.nil ?_
  change AC _ _ _ _
  refine AC.ret ?_
  refine inlret (ob' := [.fix 24 [.d (dfl a0.e0), .d (dfl a0.e1), .d (dfl a0.e2), .d (dfl a0.e3), .d (dfl a0.e4), .d (dfl a0.e5), .d (dfl a0.e6), .d (dfl a0.e7), .d (dfl a0.e8)], .fix 24 [.d (dfl a1.e0), .d (dfl a1.e1), .d (dfl a1.e2), .d (dfl a1.e3), .d (dfl a1.e4), .d (dfl a1.e5), .d (dfl a1.e6), .d (dfl a1.e7), .d (dfl a1.e8)], .fix 24 [.d (dfl (0 : Nat)), .d (dfl (0 : Nat)), .d (dfl (0 : Nat)), .d (dfl (0 : Nat)), .d (dfl (0 : Nat)), .d (dfl (0 : Nat)), .d (dfl (0 : Nat)), .d (dfl (0 : Nat)), .d (dfl (0 : Nat))], .fix 51 [.ptr 7 0], .dead, .dead, .dead, .fix 61 [.d (dfl z52), .d (dfl z62), .d (dfl z72), .d (dfl z82), .d (dfl z92), .d (dfl z102), .d (dfl z112), .d (dfl z122), .d (dfl z132)], .frame fr134 [(4, .ptr 2 0)], .fix 24 [.d (dfl (0 : Nat)), .d (dfl (0 : Nat)), .d (dfl (0 : Nat)), .d (dfl (0 : Nat)), .d (dfl (0 : Nat)), .d (dfl (0 : Nat)), .d (dfl (0 : Nat)), .d (dfl (0 : Nat)), .d (dfl (0 : Nat))], .fix 24 [.d (dfl z52), .d (dfl (0 : Nat)), .d (dfl (0 : Nat)), .d (dfl (0 : Nat)), .d (dfl (0 : Nat)), .d (dfl (0 : Nat)), .d (dfl (0 : Nat)), .d (dfl (0 : Nat)), .d (dfl (0 : Nat))], .dead, .dead]) (e' := [(0, .ptr 3 0), (2, .ptr 9 0), (3, .ptr 10 0), (5, .d (di .i64 (1 : Int))), (8, .d (di .i64 (1 : Int))), (14, .d (dfl z52)), (15, .ptr 10 0)]) (r := .d (dfl z62)) rfl rfl rfl ?_
  change AO _ _ _ _ _
  refine AO.op rfl (AOp.indexArrO rfl rfl (ltb rfl) rfl rfl ar24 (by decide) (by decide) (show _ = 1 by first | rfl | decide) ?_)
  refine AO.op rfl (AOp.store rfl rfl rfl rfl size22 rfl rfl rfl (leb rfl) ?_)
  refine AO.objs (obs' := [.fix 24 [.d (dfl a0.e0), .d (dfl a0.e1), .d (dfl a0.e2), .d (dfl a0.e3), .d (dfl a0.e4), .d (dfl a0.e5), .d (dfl a0.e6), .d (dfl a0.e7), .d (dfl a0.e8)], .fix 24 [.d (dfl a1.e0), .d (dfl a1.e1), .d (dfl a1.e2), .d (dfl a1.e3), .d (dfl a1.e4), .d (dfl a1.e5), .d (dfl a1.e6), .d (dfl a1.e7), .d (dfl a1.e8)], .fix 24 [.d (dfl (0 : Nat)), .d (dfl (0 : Nat)), .d (dfl (0 : Nat)), .d (dfl (0 : Nat)), .d (dfl (0 : Nat)), .d (dfl (0 : Nat)), .d (dfl (0 : Nat)), .d (dfl (0 : Nat)), .d (dfl (0 : Nat))], .fix 51 [.ptr 7 0], .dead, .dead, .dead, .fix 61 [.d (dfl z52), .d (dfl z62), .d (dfl z72), .d (dfl z82), .d (dfl z92), .d (dfl z102), .d (dfl z112), .d (dfl z122), .d (dfl z132)], .frame fr134 [(4, .ptr 2 0)], .fix 24 [.d (dfl (0 : Nat)), .d (dfl (0 : Nat)), .d (dfl (0 : Nat)), .d (dfl (0 : Nat)), .d (dfl (0 : Nat)), .d (dfl (0 : Nat)), .d (dfl (0 : Nat)), .d (dfl (0 : Nat)), .d (dfl (0 : Nat))], .fix 24 [.d (dfl z52), .d (dfl z62), .d (dfl (0 : Nat)), .d (dfl (0 : Nat)), .d (dfl (0 : Nat)), .d (dfl (0 : Nat)), .d (dfl (0 : Nat)), .d (dfl (0 : Nat)), .d (dfl (0 : Nat))], .dead, .dead]) rfl ?_
  refine AO.nil ?_
  change AC _ _ _ _
  refine AC.region ?_
  refine AO.op rfl (AOp.iadd rfl rfl (ltb rfl) rfl rfl (show (1 : Int) + (1 : Int) = (2 : Int) by decide) (by decide) (by decide) ?_)
  refine AO.op rfl (AOp.move rfl rfl (ltb rfl) rfl ?_)
  refine AO.nil ?_
  change ACL _ _ _ _
  refine ACL.round ?_
  refine AC.seq ?_
  refine AC.region ?_
  refine AO.op rfl (AOp.ilss rfl rfl (ltb rfl) rfl rfl ?_)
  refine AO.nil ?_
  change AC _ _ _ _
  refine AC.seq ?_
  refine AC.condT rfl rfl ?_
  refine AC.skip ?_
  change AC _ _ _ _
  refine AC.seq ?_
  refine AC.block ?_
  refine AC.seq ?_
  refine AC.region ?_
  refine AO.op rfl (AOp.move rfl rfl (ltb rfl) rfl ?_)
  refine AO.op rfl (AOp.assign rfl rfl (ltb rfl) rfl ?_)
  refine AO.nil ?_
  change AC _ _ _ _
  refine AC.region ?_
  refine AO.op rfl (AOp.move rfl rfl (ltb rfl) rfl ?_)
  refine AO.op rfl (AOp.move rfl rfl (ltb rfl) rfl ?_)
  refine AO.op rfl (AOp.move rfl rfl (ltb rfl) rfl ?_)
  refine AO.op rfl (AOp.iquo rfl rfl (ltb rfl) rfl rfl (by decide) (show Int.tdiv (2 : Int) (3 : Int) = (0 : Int) by decide) (by decide) (by decide) ?_)
  refine AO.op rfl (AOp.move rfl rfl (ltb rfl) rfl ?_)
  refine AO.op rfl (AOp.irem rfl rfl (ltb rfl) rfl rfl (by decide) (show Int.tmod (2 : Int) (3 : Int) = (2 : Int) by decide) ?_)
  refine AO.op rfl (AOp.inl [0, 2, 3, 5, 8, 14, 15] (by kernel_rfl) Tryd.func28 rfl Tryd.ntmps28 rfl rfl (ltb rfl) rfl (leb rfl) rfl ?_)
  intro fr137
  refine AC.seq ?_
  refine AC.region ?_
  refine AO.op rfl (AOp.assign rfl rfl (ltb rfl) rfl ?_)
  refine AO.objs (obs' := [.fix 24 [.d (dfl a0.e0), .d (dfl a0.e1), .d (dfl a0.e2), .d (dfl a0.e3), .d (dfl a0.e4), .d (dfl a0.e5), .d (dfl a0.e6), .d (dfl a0.e7), .d (dfl a0.e8)], .fix 24 [.d (dfl a1.e0), .d (dfl a1.e1), .d (dfl a1.e2), .d (dfl a1.e3), .d (dfl a1.e4), .d (dfl a1.e5), .d (dfl a1.e6), .d (dfl a1.e7), .d (dfl a1.e8)], .fix 24 [.d (dfl (0 : Nat)), .d (dfl (0 : Nat)), .d (dfl (0 : Nat)), .d (dfl (0 : Nat)), .d (dfl (0 : Nat)), .d (dfl (0 : Nat)), .d (dfl (0 : Nat)), .d (dfl (0 : Nat)), .d (dfl (0 : Nat))], .fix 51 [.ptr 7 0], .dead, .dead, .dead, .fix 61 [.d (dfl z52), .d (dfl z62), .d (dfl z72), .d (dfl z82), .d (dfl z92), .d (dfl z102), .d (dfl z112), .d (dfl z122), .d (dfl z132)], .frame fr134 [(4, .ptr 2 0)], .fix 24 [.d (dfl (0 : Nat)), .d (dfl (0 : Nat)), .d (dfl (0 : Nat)), .d (dfl (0 : Nat)), .d (dfl (0 : Nat)), .d (dfl (0 : Nat)), .d (dfl (0 : Nat)), .d (dfl (0 : Nat)), .d (dfl (0 : Nat))], .fix 24 [.d (dfl z52), .d (dfl z62), .d (dfl (0 : Nat)), .d (dfl (0 : Nat)), .d (dfl (0 : Nat)), .d (dfl (0 : Nat)), .d (dfl (0 : Nat)), .d (dfl (0 : Nat)), .d (dfl (0 : Nat))], .dead, .dead, .frame fr137 [(0, .ptr 3 0), (2, .ptr 9 0), (3, .ptr 10 0), (5, .d (di .i64 (2 : Int))), (8, .d (di .i64 (2 : Int))), (14, .d (dfl z62)), (15, .ptr 10 1)]]) rfl ?_
  refine AO.nil ?_
  change AC _ _ _ _
  refine AC.seq ?_
  refine AC.seq ?_
  refine AC.region ?_
  refine AO.op rfl (AOp.move rfl rfl (ltb rfl) rfl ?_)
  refine AO.op rfl (AOp.i2i rfl rfl (ltb rfl) rfl Tryd.underlying3 Tryd.underlying67 (show IntKind.u64.wrap (0 : Int) = (0 : Int) by decide) ?_)
  refine AO.op rfl (AOp.igtr rfl rfl (ltb rfl) rfl rfl ?_)
  refine AO.nil ?_
  change AC _ _ _ _
  refine AC.condF rfl rfl ?_
  refine AC.skip ?_
  change AC _ _ _ _
  refine AC.seq ?_
  refine AC.seq ?_
  refine AC.region ?_
  refine AO.op rfl (AOp.move rfl rfl (ltb rfl) rfl ?_)
  refine AO.op rfl (AOp.i2i rfl rfl (ltb rfl) rfl Tryd.underlying3 Tryd.underlying67 (show IntKind.u64.wrap (2 : Int) = (2 : Int) by decide) ?_)
  refine AO.op rfl (AOp.igtr rfl rfl (ltb rfl) rfl rfl ?_)
  refine AO.nil ?_
  change AC _ _ _ _
  refine AC.condF rfl rfl ?_
  refine AC.skip ?_
  change AC _ _ _ _
  refine AC.seq ?_
  refine AC.seq ?_
  refine AC.region ?_
  refine AO.op rfl (AOp.move rfl rfl (ltb rfl) rfl ?_)
  refine AO.op rfl (AOp.nilCheck rfl rfl (ltb rfl) rfl rfl ?_)
  refine AO.op rfl (AOp.fieldAddr rfl rfl (ltb rfl) rfl fo51_0 ?_)
  refine AO.op rfl (AOp.load1 rfl rfl (ltb rfl) rfl agg49 rfl rfl ?_)
  refine AO.op rfl (AOp.ptrNilEql rfl rfl (ltb rfl) rfl rfl pmeth49 ?_)
  refine AO.nil ?_
  change AC _ _ _ _
  refine AC.condF rfl rfl ?_
  refine AC.skip ?_
  change AC _ _ _ _
  refine AC.seq ?_
  refine AC.region ?_
  refine AO.op rfl (AOp.move rfl rfl (ltb rfl) rfl ?_)
  refine AO.op rfl (AOp.nilCheck rfl rfl (ltb rfl) rfl rfl ?_)
  refine AO.op rfl (AOp.fieldAddr rfl rfl (ltb rfl) rfl fo51_0 ?_)
  refine AO.op rfl (AOp.load1 rfl rfl (ltb rfl) rfl agg49 rfl rfl ?_)
  refine AO.op rfl (AOp.move rfl rfl (ltb rfl) rfl ?_)
  refine AO.op rfl (AOp.imul rfl rfl (ltb rfl) rfl rfl (show (0 : Int) * (3 : Int) = (0 : Int) by decide) (by decide) (by decide) ?_)
  refine AO.op rfl (AOp.move rfl rfl (ltb rfl) rfl ?_)
  refine AO.op rfl (AOp.iadd rfl rfl (ltb rfl) rfl rfl (show (0 : Int) + (2 : Int) = (2 : Int) by decide) (by decide) (by decide) ?_)
  refine AO.op rfl (AOp.nilCheck rfl rfl (ltb rfl) rfl rfl ?_)
  refine AO.op rfl (AOp.indexArrO rfl rfl (ltb rfl) rfl rfl ar61 (by decide) (by decide) (show _ = 2 by first | rfl | decide) ?_)
  refine AO.op rfl (AOp.load1 rfl rfl (ltb rfl) rfl agg22 rfl rfl ?_)
  refine AO.op rfl (AOp.assign rfl rfl (ltb rfl) rfl ?_)
  refine AO.nil ?_
  change AC _ _ _ _
  refine AC.ret ?_
  refine inlret (ob' := [.fix 24 [.d (dfl a0.e0), .d (dfl a0.e1), .d (dfl a0.e2), .d (dfl a0.e3), .d (dfl a0.e4), .d (dfl a0.e5), .d (dfl a0.e6), .d (dfl a0.e7), .d (dfl a0.e8)], .fix 24 [.d (dfl a1.e0), .d (dfl a1.e1), .d (dfl a1.e2), .d (dfl a1.e3), .d (dfl a1.e4), .d (dfl a1.e5), .d (dfl a1.e6), .d (dfl a1.e7), .d (dfl a1.e8)], .fix 24 [.d (dfl (0 : Nat)), .d (dfl (0 : Nat)), .d (dfl (0 : Nat)), .d (dfl (0 : Nat)), .d (dfl (0 : Nat)), .d (dfl (0 : Nat)), .d (dfl (0 : Nat)), .d (dfl (0 : Nat)), .d (dfl (0 : Nat))], .fix 51 [.ptr 7 0], .dead, .dead, .dead, .fix 61 [.d (dfl z52), .d (dfl z62), .d (dfl z72), .d (dfl z82), .d (dfl z92), .d (dfl z102), .d (dfl z112), .d (dfl z122), .d (dfl z132)], .frame fr134 [(4, .ptr 2 0)], .fix 24 [.d (dfl (0 : Nat)), .d (dfl (0 : Nat)), .d (dfl (0 : Nat)), .d (dfl (0 : Nat)), .d (dfl (0 : Nat)), .d (dfl (0 : Nat)), .d (dfl (0 : Nat)), .d (dfl (0 : Nat)), .d (dfl (0 : Nat))], .fix 24 [.d (dfl z52), .d (dfl z62), .d (dfl (0 : Nat)), .d (dfl (0 : Nat)), .d (dfl (0 : Nat)), .d (dfl (0 : Nat)), .d (dfl (0 : Nat)), .d (dfl (0 : Nat)), .d (dfl (0 : Nat))], .dead, .dead, .dead]) (e' := [(0, .ptr 3 0), (2, .ptr 9 0), (3, .ptr 10 0), (5, .d (di .i64 (2 : Int))), (8, .d (di .i64 (2 : Int))), (14, .d (dfl z62)), (15, .ptr 10 1)]) (r := .d (dfl z72)) rfl rfl rfl ?_
  change AO _ _ _ _ _
  refine AO.op rfl (AOp.indexArrO rfl rfl (ltb rfl) rfl rfl ar24 (by decide) (by decide) (show _ = 2 by first | rfl | decide) ?_)
  refine AO.op rfl (AOp.store rfl rfl rfl rfl size22 rfl rfl rfl (leb rfl) ?_)
  refine AO.objs (obs' := [.fix 24 [.d (dfl a0.e0), .d (dfl a0.e1), .d (dfl a0.e2), .d (dfl a0.e3), .d (dfl a0.e4), .d (dfl a0.e5), .d (dfl a0.e6), .d (dfl a0.e7), .d (dfl a0.e8)], .fix 24 [.d (dfl a1.e0), .d (dfl a1.e1), .d (dfl a1.e2), .d (dfl a1.e3), .d (dfl a1.e4), .d (dfl a1.e5), .d (dfl a1.e6), .d (dfl a1.e7), .d (dfl a1.e8)], .fix 24 [.d (dfl (0 : Nat)), .d (dfl (0 : Nat)), .d (dfl (0 : Nat)), .d (dfl (0 : Nat)), .d (dfl (0 : Nat)), .d (dfl (0 : Nat)), .d (dfl (0 : Nat)), .d (dfl (0 : Nat)), .d (dfl (0 : Nat))], .fix 51 [.ptr 7 0], .dead, .dead, .dead, .fix 61 [.d (dfl z52), .d (dfl z62), .d (dfl z72), .d (dfl z82), .d (dfl z92), .d (dfl z102), .d (dfl z112), .d (dfl z122), .d (dfl z132)], .frame fr134 [(4, .ptr 2 0)], .fix 24 [.d (dfl (0 : Nat)), .d (dfl (0 : Nat)), .d (dfl (0 : Nat)), .d (dfl (0 : Nat)), .d (dfl (0 : Nat)), .d (dfl (0 : Nat)), .d (dfl (0 : Nat)), .d (dfl (0 : Nat)), .d (dfl (0 : Nat))], .fix 24 [.d (dfl z52), .d (dfl z62), .d (dfl z72), .d (dfl (0 : Nat)), .d (dfl (0 : Nat)), .d (dfl (0 : Nat)), .d (dfl (0 : Nat)), .d (dfl (0 : Nat)), .d (dfl (0 : Nat))], .dead, .dead, .dead]) rfl ?_
  refine AO.nil ?_
  change AC _ _ _ _
  refine AC.region ?_
  refine AO.op rfl (AOp.iadd rfl rfl (ltb rfl) rfl rfl (show (2 : Int) + (1 : Int) = (3 : Int) by decide) (by decide) (by decide) ?_)
  refine AO.op rfl (AOp.move rfl rfl (ltb rfl) rfl ?_)
  refine AO.nil ?_
  change ACL _ _ _ _
  refine ACL.round ?_
  refine AC.seq ?_
  refine AC.region ?_
  refine AO.op rfl (AOp.ilss rfl rfl (ltb rfl) rfl rfl ?_)
  refine AO.nil ?_
  change AC _ _ _ _
  refine AC.seq ?_
  refine AC.condT rfl rfl ?_
  refine AC.skip ?_
  change AC _ _ _ _
  refine AC.seq ?_
  refine AC.block ?_
  refine AC.seq ?_
  refine AC.region ?_
  refine AO.op rfl (AOp.move rfl rfl (ltb rfl) rfl ?_)
  refine AO.op rfl (AOp.assign rfl rfl (ltb rfl) rfl ?_)
  refine AO.nil ?_
  change AC _ _ _ _
  refine AC.region ?_
  refine AO.op rfl (AOp.move rfl rfl (ltb rfl) rfl ?_)
  refine AO.op rfl (AOp.move rfl rfl (ltb rfl) rfl ?_)
  refine AO.op rfl (AOp.move rfl rfl (ltb rfl) rfl ?_)
  refine AO.op rfl (AOp.iquo rfl rfl (ltb rfl) rfl rfl (by decide) (show Int.tdiv (3 : Int) (3 : Int) = (1 : Int) by decide) (by decide) (by decide) ?_)
  refine AO.op rfl (AOp.move rfl rfl (ltb rfl) rfl ?_)
  refine AO.op rfl (AOp.irem rfl rfl (ltb rfl) rfl rfl (by decide) (show Int.tmod (3 : Int) (3 : Int) = (0 : Int) by decide) ?_)
  refine AO.op rfl (AOp.inl [0, 2, 3, 5, 8, 14, 15] (by kernel_rfl) Tryd.func28 rfl Tryd.ntmps28 rfl rfl (ltb rfl) rfl (leb rfl) rfl ?_)
  intro fr138
  refine AC.seq ?_
  refine AC.region ?_
  refine AO.op rfl (AOp.assign rfl rfl (ltb rfl) rfl ?_)
  refine AO.objs (obs' := [.fix 24 [.d (dfl a0.e0), .d (dfl a0.e1), .d (dfl a0.e2), .d (dfl a0.e3), .d (dfl a0.e4), .d (dfl a0.e5), .d (dfl a0.e6), .d (dfl a0.e7), .d (dfl a0.e8)], .fix 24 [.d (dfl a1.e0), .d (dfl a1.e1), .d (dfl a1.e2), .d (dfl a1.e3), .d (dfl a1.e4), .d (dfl a1.e5), .d (dfl a1.e6), .d (dfl a1.e7), .d (dfl a1.e8)], .fix 24 [.d (dfl (0 : Nat)), .d (dfl (0 : Nat)), .d (dfl (0 : Nat)), .d (dfl (0 : Nat)), .d (dfl (0 : Nat)), .d (dfl (0 : Nat)), .d (dfl (0 : Nat)), .d (dfl (0 : Nat)), .d (dfl (0 : Nat))], .fix 51 [.ptr 7 0], .dead, .dead, .dead, .fix 61 [.d (dfl z52), .d (dfl z62), .d (dfl z72), .d (dfl z82), .d (dfl z92), .d (dfl z102), .d (dfl z112), .d (dfl z122), .d (dfl z132)], .frame fr134 [(4, .ptr 2 0)], .fix 24 [.d (dfl (0 : Nat)), .d (dfl (0 : Nat)), .d (dfl (0 : Nat)), .d (dfl (0 : Nat)), .d (dfl (0 : Nat)), .d (dfl (0 : Nat)), .d (dfl (0 : Nat)), .d (dfl (0 : Nat)), .d (dfl (0 : Nat))], .fix 24 [.d (dfl z52), .d (dfl z62), .d (dfl z72), .d (dfl (0 : Nat)), .d (dfl (0 : Nat)), .d (dfl (0 : Nat)), .d (dfl (0 : Nat)), .d (dfl (0 : Nat)), .d (dfl (0 : Nat))], .dead, .dead, .dead, .frame fr138 [(0, .ptr 3 0), (2, .ptr 9 0), (3, .ptr 10 0), (5, .d (di .i64 (3 : Int))), (8, .d (di .i64 (3 : Int))), (14, .d (dfl z72)), (15, .ptr 10 2)]]) rfl ?_
  refine AO.nil ?_
  change AC _ _ _ _
  refine AC.seq ?_
  refine AC.seq ?_
  refine AC.region ?_
  refine AO.op rfl (AOp.move rfl rfl (ltb rfl) rfl ?_)
  refine AO.op rfl (AOp.i2i rfl rfl (ltb rfl) rfl Tryd.underlying3 Tryd.underlying67 (show IntKind.u64.wrap (1 : Int) = (1 : Int) by decide) ?_)
  refine AO.op rfl (AOp.igtr rfl rfl (ltb rfl) rfl rfl ?_)
  refine AO.nil ?_
  change AC _ _ _ _
  refine AC.condF rfl rfl ?_
  refine AC.skip ?_
  change AC _ _ _ _
  refine AC.seq ?_
  refine AC.seq ?_
  refine AC.region ?_
  refine AO.op rfl (AOp.move rfl rfl (ltb rfl) rfl ?_)
  refine AO.op rfl (AOp.i2i rfl rfl (ltb rfl) rfl Tryd.underlying3 Tryd.underlying67 (show IntKind.u64.wrap (0 : Int) = (0 : Int) by decide) ?_)
  refine AO.op rfl (AOp.igtr rfl rfl (ltb rfl) rfl rfl ?_)
  refine AO.nil ?_
  change AC _ _ _ _
  refine AC.condF rfl rfl ?_
  refine AC.skip ?_
  change AC _ _ _ _
  refine AC.seq ?_
  refine AC.seq ?_
  refine AC.region ?_
  refine AO.op rfl (AOp.move rfl rfl (ltb rfl) rfl ?_)
  refine AO.op rfl (AOp.nilCheck rfl rfl (ltb rfl) rfl rfl ?_)
  refine AO.op rfl (AOp.fieldAddr rfl rfl (ltb rfl) rfl fo51_0 ?_)
  refine AO.op rfl (AOp.load1 rfl rfl (ltb rfl) rfl agg49 rfl rfl ?_)
  refine AO.op rfl (AOp.ptrNilEql rfl rfl (ltb rfl) rfl rfl pmeth49 ?_)
  refine AO.nil ?_
  change AC _ _ _ _
  refine AC.condF rfl rfl ?_
  refine AC.skip ?_
  change AC _ _ _ _
  refine AC.seq ?_
  refine AC.region ?_
  refine AO.op rfl (AOp.move rfl rfl (ltb rfl) rfl ?_)
  refine AO.op rfl (AOp.nilCheck rfl rfl (ltb rfl) rfl rfl ?_)
  refine AO.op rfl (AOp.fieldAddr rfl rfl (ltb rfl) rfl fo51_0 ?_)
  refine AO.op rfl (AOp.load1 rfl rfl (ltb rfl) rfl agg49 rfl rfl ?_)
  refine AO.op rfl (AOp.move rfl rfl (ltb rfl) rfl ?_)
  refine AO.op rfl (AOp.imul rfl rfl (ltb rfl) rfl rfl (show (1 : Int) * (3 : Int) = (3 : Int) by decide) (by decide) (by decide) ?_)
  refine AO.op rfl (AOp.move rfl rfl (ltb rfl) rfl ?_)
  refine AO.op rfl (AOp.iadd rfl rfl (ltb rfl) rfl rfl (show (3 : Int) + (0 : Int) = (3 : Int) by decide) (by decide) (by decide) ?_)
  refine AO.op rfl (AOp.nilCheck rfl rfl (ltb rfl) rfl rfl ?_)
  refine AO.op rfl (AOp.indexArrO rfl rfl (ltb rfl) rfl rfl ar61 (by decide) (by decide) (show _ = 3 by first | rfl | decide) ?_)
  refine AO.op rfl (AOp.load1 rfl rfl (ltb rfl) rfl agg22 rfl rfl ?_)
  refine AO.op rfl (AOp.assign rfl rfl (ltb rfl) rfl ?_)
  refine AO.nil ?_
  change AC _ _ _ _
  refine AC.ret ?_
  refine inlret (ob' := [.fix 24 [.d (dfl a0.e0), .d (dfl a0.e1), .d (dfl a0.e2), .d (dfl a0.e3), .d (dfl a0.e4), .d (dfl a0.e5), .d (dfl a0.e6), .d (dfl a0.e7), .d (dfl a0.e8)], .fix 24 [.d (dfl a1.e0), .d (dfl a1.e1), .d (dfl a1.e2), .d (dfl a1.e3), .d (dfl a1.e4), .d (dfl a1.e5), .d (dfl a1.e6), .d (dfl a1.e7), .d (dfl a1.e8)], .fix 24 [.d (dfl (0 : Nat)), .d (dfl (0 : Nat)), .d (dfl (0 : Nat)), .d (dfl (0 : Nat)), .d (dfl (0 : Nat)), .d (dfl (0 : Nat)), .d (dfl (0 : Nat)), .d (dfl (0 : Nat)), .d (dfl (0 : Nat))], .fix 51 [.ptr 7 0], .dead, .dead, .dead, .fix 61 [.d (dfl z52), .d (dfl z62), .d (dfl z72), .d (dfl z82), .d (dfl z92), .d (dfl z102), .d (dfl z112), .d (dfl z122), .d (dfl z132)], .frame fr134 [(4, .ptr 2 0)], .fix 24 [.d (dfl (0 : Nat)), .d (dfl (0 : Nat)), .d (dfl (0 : Nat)), .d (dfl (0 : Nat)), .d (dfl (0 : Nat)), .d (dfl (0 : Nat)), .d (dfl (0 : Nat)), .d (dfl (0 : Nat)), .d (dfl (0 : Nat))], .fix 24 [.d (dfl z52), .d (dfl z62), .d (dfl z72), .d (dfl (0 : Nat)), .d (dfl (0 : Nat)), .d (dfl (0 : Nat)), .d (dfl (0 : Nat)), .d (dfl (0 : Nat)), .d (dfl (0 : Nat))], .dead, .dead, .dead, .dead]) (e' := [(0, .ptr 3 0), (2, .ptr 9 0), (3, .ptr 10 0), (5, .d (di .i64 (3 : Int))), (8, .d (di .i64 (3 : Int))), (14, .d (dfl z72)), (15, .ptr 10 2)]) (r := .d (dfl z82)) rfl rfl rfl ?_
  change AO _ _ _ _ _
  refine AO.op rfl (AOp.indexArrO rfl rfl (ltb rfl) rfl rfl ar24 (by decide) (by decide) (show _ = 3 by first | rfl | decide) ?_)
  refine AO.op rfl (AOp.store rfl rfl rfl rfl size22 rfl rfl rfl (leb rfl) ?_)
  refine AO.objs (obs' := [.fix 24 [.d (dfl a0.e0), .d (dfl a0.e1), .d (dfl a0.e2), .d (dfl a0.e3), .d (dfl a0.e4), .d (dfl a0.e5), .d (dfl a0.e6), .d (dfl a0.e7), .d (dfl a0.e8)], .fix 24 [.d (dfl a1.e0), .d (dfl a1.e1), .d (dfl a1.e2), .d (dfl a1.e3), .d (dfl a1.e4), .d (dfl a1.e5), .d (dfl a1.e6), .d (dfl a1.e7), .d (dfl a1.e8)], .fix 24 [.d (dfl (0 : Nat)), .d (dfl (0 : Nat)), .d (dfl (0 : Nat)), .d (dfl (0 : Nat)), .d (dfl (0 : Nat)), .d (dfl (0 : Nat)), .d (dfl (0 : Nat)), .d (dfl (0 : Nat)), .d (dfl (0 : Nat))], .fix 51 [.ptr 7 0], .dead, .dead, .dead, .fix 61 [.d (dfl z52), .d (dfl z62), .d (dfl z72), .d (dfl z82), .d (dfl z92), .d (dfl z102), .d (dfl z112), .d (dfl z122), .d (dfl z132)], .frame fr134 [(4, .ptr 2 0)], .fix 24 [.d (dfl (0 : Nat)), .d (dfl (0 : Nat)), .d (dfl (0 : Nat)), .d (dfl (0 : Nat)), .d (dfl (0 : Nat)), .d (dfl (0 : Nat)), .d (dfl (0 : Nat)), .d (dfl (0 : Nat)), .d (dfl (0 : Nat))], .fix 24 [.d (dfl z52), .d (dfl z62), .d (dfl z72), .d (dfl z82), .d (dfl (0 : Nat)), .d (dfl (0 : Nat)), .d (dfl (0 : Nat)), .d (dfl (0 : Nat)), .d (dfl (0 : Nat))], .dead, .dead, .dead, .dead]) rfl ?_
  refine AO.nil ?_
  change AC _ _ _ _
  refine AC.region ?_
  refine AO.op rfl (AOp.iadd rfl rfl (ltb rfl) rfl rfl (show (3 : Int) + (1 : Int) = (4 : Int) by decide) (by decide) (by decide) ?_)
  refine AO.op rfl (AOp.move rfl rfl (ltb rfl) rfl ?_)
  refine AO.nil ?_
  change ACL _ _ _ _
  refine ACL.round ?_
  refine AC.seq ?_
  refine AC.region ?_
  refine AO.op rfl (AOp.ilss rfl rfl (ltb rfl) rfl rfl ?_)
  refine AO.nil ?_
  change AC _ _ _ _
  refine AC.seq ?_
  refine AC.condT rfl rfl ?_
  refine AC.skip ?_
  change AC _ _ _ _
  refine AC.seq ?_
  refine AC.block ?_
  refine AC.seq ?_
  refine AC.region ?_
  refine AO.op rfl (AOp.move rfl rfl (ltb rfl) rfl ?_)
  refine AO.op rfl (AOp.assign rfl rfl (ltb rfl) rfl ?_)
  refine AO.nil ?_
  change AC _ _ _ _
  refine AC.region ?_
  refine AO.op rfl (AOp.move rfl rfl (ltb rfl) rfl ?_)
  refine AO.op rfl (AOp.move rfl rfl (ltb rfl) rfl ?_)
  refine AO.op rfl (AOp.move rfl rfl (ltb rfl) rfl ?_)
  refine AO.op rfl (AOp.iquo rfl rfl (ltb rfl) rfl rfl (by decide) (show Int.tdiv (4 : Int) (3 : Int) = (1 : Int) by decide) (by decide) (by decide) ?_)
  refine AO.op rfl (AOp.move rfl rfl (ltb rfl) rfl ?_)
  refine AO.op rfl (AOp.irem rfl rfl (ltb rfl) rfl rfl (by decide) (show Int.tmod (4 : Int) (3 : Int) = (1 : Int) by decide) ?_)
  refine AO.op rfl (AOp.inl [0, 2, 3, 5, 8, 14, 15] (by kernel_rfl) Tryd.func28 rfl Tryd.ntmps28 rfl rfl (ltb rfl) rfl (leb rfl) rfl ?_)
  intro fr139
  refine AC.seq ?_
  refine AC.region ?_
  refine AO.op rfl (AOp.assign rfl rfl (ltb rfl) rfl ?_)
  refine AO.objs (obs' := [.fix 24 [.d (dfl a0.e0), .d (dfl a0.e1), .d (dfl a0.e2), .d (dfl a0.e3), .d (dfl a0.e4), .d (dfl a0.e5), .d (dfl a0.e6), .d (dfl a0.e7), .d (dfl a0.e8)], .fix 24 [.d (dfl a1.e0), .d (dfl a1.e1), .d (dfl a1.e2), .d (dfl a1.e3), .d (dfl a1.e4), .d (dfl a1.e5), .d (dfl a1.e6), .d (dfl a1.e7), .d (dfl a1.e8)], .fix 24 [.d (dfl (0 : Nat)), .d (dfl (0 : Nat)), .d (dfl (0 : Nat)), .d (dfl (0 : Nat)), .d (dfl (0 : Nat)), .d (dfl (0 : Nat)), .d (dfl (0 : Nat)), .d (dfl (0 : Nat)), .d (dfl (0 : Nat))], .fix 51 [.ptr 7 0], .dead, .dead, .dead, .fix 61 [.d (dfl z52), .d (dfl z62), .d (dfl z72), .d (dfl z82), .d (dfl z92), .d (dfl z102), .d (dfl z112), .d (dfl z122), .d (dfl z132)], .frame fr134 [(4, .ptr 2 0)], .fix 24 [.d (dfl (0 : Nat)), .d (dfl (0 : Nat)), .d (dfl (0 : Nat)), .d (dfl (0 : Nat)), .d (dfl (0 : Nat)), .d (dfl (0 : Nat)), .d (dfl (0 : Nat)), .d (dfl (0 : Nat)), .d (dfl (0 : Nat))], .fix 24 [.d (dfl z52), .d (dfl z62), .d (dfl z72), .d (dfl z82), .d (dfl (0 : Nat)), .d (dfl (0 : Nat)), .d (dfl (0 : Nat)), .d (dfl (0 : Nat)), .d (dfl (0 : Nat))], .dead, .dead, .dead, .dead, .frame fr139 [(0, .ptr 3 0), (2, .ptr 9 0), (3, .ptr 10 0), (5, .d (di .i64 (4 : Int))), (8, .d (di .i64 (4 : Int))), (14, .d (dfl z82)), (15, .ptr 10 3)]]) rfl ?_
  refine AO.nil ?_
  change AC _ _ _ _
  refine AC.seq ?_
  refine AC.seq ?_
  refine AC.region ?_
  refine AO.op rfl (AOp.move rfl rfl (ltb rfl) rfl ?_)
  refine AO.op rfl (AOp.i2i rfl rfl (ltb rfl) rfl Tryd.underlying3 Tryd.underlying67 (show IntKind.u64.wrap (1 : Int) = (1 : Int) by decide) ?_)
  refine AO.op rfl (AOp.igtr rfl rfl (ltb rfl) rfl rfl ?_)
  refine AO.nil ?_
  change AC _ _ _ _
  refine AC.condF rfl rfl ?_
  refine AC.skip ?_
  change AC _ _ _ _
  refine AC.seq ?_
  refine AC.seq ?_
  refine AC.region ?_
  refine AO.op rfl (AOp.move rfl rfl (ltb rfl) rfl ?_)
  refine AO.op rfl (AOp.i2i rfl rfl (ltb rfl) rfl Tryd.underlying3 Tryd.underlying67 (show IntKind.u64.wrap (1 : Int) = (1 : Int) by decide) ?_)
  refine AO.op rfl (AOp.igtr rfl rfl (ltb rfl) rfl rfl ?_)
  refine AO.nil ?_
  change AC _ _ _ _
  refine AC.condF rfl rfl ?_
  refine AC.skip ?_
  change AC _ _ _ _
  refine AC.seq ?_
  refine AC.seq ?_
  refine AC.region ?_
  refine AO.op rfl (AOp.move rfl rfl (ltb rfl) rfl ?_)
  refine AO.op rfl (AOp.nilCheck rfl rfl (ltb rfl) rfl rfl ?_)
  refine AO.op rfl (AOp.fieldAddr rfl rfl (ltb rfl) rfl fo51_0 ?_)
  refine AO.op rfl (AOp.load1 rfl rfl (ltb rfl) rfl agg49 rfl rfl ?_)
  refine AO.op rfl (AOp.ptrNilEql rfl rfl (ltb rfl) rfl rfl pmeth49 ?_)
  refine AO.nil ?_
  change AC _ _ _ _
  refine AC.condF rfl rfl ?_
  refine AC.skip ?_
  change AC _ _ _ _
  refine AC.seq ?_
  refine AC.region ?_
  refine AO.op rfl (AOp.move rfl rfl (ltb rfl) rfl ?_)
  refine AO.op rfl (AOp.nilCheck rfl rfl (ltb rfl) rfl rfl ?_)
  refine AO.op rfl (AOp.fieldAddr rfl rfl (ltb rfl) rfl fo51_0 ?_)
  refine AO.op rfl (AOp.load1 rfl rfl (ltb rfl) rfl agg49 rfl rfl ?_)
  refine AO.op rfl (AOp.move rfl rfl (ltb rfl) rfl ?_)
  refine AO.op rfl (AOp.imul rfl rfl (ltb rfl) rfl rfl (show (1 : Int) * (3 : Int) = (3 : Int) by decide) (by decide) (by decide) ?_)
  refine AO.op rfl (AOp.move rfl rfl (ltb rfl) rfl ?_)
  refine AO.op rfl (AOp.iadd rfl rfl (ltb rfl) rfl rfl (show (3 : Int) + (1 : Int) = (4 : Int) by decide) (by decide) (by decide) ?_)
  refine AO.op rfl (AOp.nilCheck rfl rfl (ltb rfl) rfl rfl ?_)
  refine AO.op rfl (AOp.indexArrO rfl rfl (ltb rfl) rfl rfl ar61 (by decide) (by decide) (show _ = 4 by first | rfl | decide) ?_)
  refine AO.op rfl (AOp.load1 rfl rfl (ltb rfl) rfl agg22 rfl rfl ?_)
  refine AO.op rfl (AOp.assign rfl rfl (ltb rfl) rfl ?_)
  refine AO.nil ?_
  change AC _ _ _ _
  refine AC.ret ?_
  refine inlret (ob' := [.fix 24 [.d (dfl a0.e0), .d (dfl a0.e1), .d (dfl a0.e2), .d (dfl a0.e3), .d (dfl a0.e4), .d (dfl a0.e5), .d (dfl a0.e6), .d (dfl a0.e7), .d (dfl a0.e8)], .fix 24 [.d (dfl a1.e0), .d (dfl a1.e1), .d (dfl a1.e2), .d (dfl a1.e3), .d (dfl a1.e4), .d (dfl a1.e5), .d (dfl a1.e6), .d (dfl a1.e7), .d (dfl a1.e8)], .fix 24 [.d (dfl (0 : Nat)), .d (dfl (0 : Nat)), .d (dfl (0 : Nat)), .d (dfl (0 : Nat)), .d (dfl (0 : Nat)), .d (dfl (0 : Nat)), .d (dfl (0 : Nat)), .d (dfl (0 : Nat)), .d (dfl (0 : Nat))], .fix 51 [.ptr 7 0], .dead, .dead, .dead, .fix 61 [.d (dfl z52), .d (dfl z62), .d (dfl z72), .d (dfl z82), .d (dfl z92), .d (dfl z102), .d (dfl z112), .d (dfl z122), .d (dfl z132)], .frame fr134 [(4, .ptr 2 0)], .fix 24 [.d (dfl (0 : Nat)), .d (dfl (0 : Nat)), .d (dfl (0 : Nat)), .d (dfl (0 : Nat)), .d (dfl (0 : Nat)), .d (dfl (0 : Nat)), .d (dfl (0 : Nat)), .d (dfl (0 : Nat)), .d (dfl (0 : Nat))], .fix 24 [.d (dfl z52), .d (dfl z62), .d (dfl z72), .d (dfl z82), .d (dfl (0 : Nat)), .d (dfl (0 : Nat)), .d (dfl (0 : Nat)), .d (dfl (0 : Nat)), .d (dfl (0 : Nat))], .dead, .dead, .dead, .dead, .dead]) (e' := [(0, .ptr 3 0), (2, .ptr 9 0), (3, .ptr 10 0), (5, .d (di .i64 (4 : Int))), (8, .d (di .i64 (4 : Int))), (14, .d (dfl z82)), (15, .ptr 10 3)]) (r := .d (dfl z92)) rfl rfl rfl ?_
  change AO _ _ _ _ _
  refine AO.op rfl (AOp.indexArrO rfl rfl (ltb rfl) rfl rfl ar24 (by decide) (by decide) (show _ = 4 by first | rfl | decide) ?_)
  refine AO.op rfl (AOp.store rfl rfl rfl rfl size22 rfl rfl rfl (leb rfl) ?_)
  refine AO.objs (obs' := [.fix 24 [.d (dfl a0.e0), .d (dfl a0.e1), .d (dfl a0.e2), .d (dfl a0.e3), .d (dfl a0.e4), .d (dfl a0.e5), .d (dfl a0.e6), .d (dfl a0.e7), .d (dfl a0.e8)], .fix 24 [.d (dfl a1.e0), .d (dfl a1.e1), .d (dfl a1.e2), .d (dfl a1.e3), .d (dfl a1.e4), .d (dfl a1.e5), .d (dfl a1.e6), .d (dfl a1.e7), .d (dfl a1.e8)], .fix 24 [.d (dfl (0 : Nat)), .d (dfl (0 : Nat)), .d (dfl (0 : Nat)), .d (dfl (0 : Nat)), .d (dfl (0 : Nat)), .d (dfl (0 : Nat)), .d (dfl (0 : Nat)), .d (dfl (0 : Nat)), .d (dfl (0 : Nat))], .fix 51 [.ptr 7 0], .dead, .dead, .dead, .fix 61 [.d (dfl z52), .d (dfl z62), .d (dfl z72), .d (dfl z82), .d (dfl z92), .d (dfl z102), .d (dfl z112), .d (dfl z122), .d (dfl z132)], .frame fr134 [(4, .ptr 2 0)], .fix 24 [.d (dfl (0 : Nat)), .d (dfl (0 : Nat)), .d (dfl (0 : Nat)), .d (dfl (0 : Nat)), .d (dfl (0 : Nat)), .d (dfl (0 : Nat)), .d (dfl (0 : Nat)), .d (dfl (0 : Nat)), .d (dfl (0 : Nat))], .fix 24 [.d (dfl z52), .d (dfl z62), .d (dfl z72), .d (dfl z82), .d (dfl z92), .d (dfl (0 : Nat)), .d (dfl (0 : Nat)), .d (dfl (0 : Nat)), .d (dfl (0 : Nat))], .dead, .dead, .dead, .dead, .dead]) rfl ?_
  refine AO.nil ?_
  change AC _ _ _ _
  refine AC.region ?_
  refine AO.op rfl (AOp.iadd rfl rfl (ltb rfl) rfl rfl (show (4 : Int) + (1 : Int) = (5 : Int) by decide) (by decide) (by decide) ?_)
  refine AO.op rfl (AOp.move rfl rfl (ltb rfl) rfl ?_)
  refine AO.nil ?_
  change ACL _ _ _ _
  refine ACL.round ?_
  refine AC.seq ?_
  refine AC.region ?_
  refine AO.op rfl (AOp.ilss rfl rfl (ltb rfl) rfl rfl ?_)
  refine AO.nil ?_
  change AC _ _ _ _
  refine AC.seq ?_
  refine AC.condT rfl rfl ?_
  refine AC.skip ?_
  change AC _ _ _ _
  refine AC.seq ?_
  refine AC.block ?_
  refine AC.seq ?_
  refine AC.region ?_
  refine AO.op rfl (AOp.move rfl rfl (ltb rfl) rfl ?_)
  refine AO.op rfl (AOp.assign rfl rfl (ltb rfl) rfl ?_)
  refine AO.nil ?_
  change AC _ _ _ _
  refine AC.region ?_
  refine AO.op rfl (AOp.move rfl rfl (ltb rfl) rfl ?_)
  refine AO.op rfl (AOp.move rfl rfl (ltb rfl) rfl ?_)
  refine AO.op rfl (AOp.move rfl rfl (ltb rfl) rfl ?_)
  refine AO.op rfl (AOp.iquo rfl rfl (ltb rfl) rfl rfl (by decide) (show Int.tdiv (5 : Int) (3 : Int) = (1 : Int) by decide) (by decide) (by decide) ?_)
  refine AO.op rfl (AOp.move rfl rfl (ltb rfl) rfl ?_)
  refine AO.op rfl (AOp.irem rfl rfl (ltb rfl) rfl rfl (by decide) (show Int.tmod (5 : Int) (3 : Int) = (2 : Int) by decide) ?_)
  refine AO.op rfl (AOp.inl [0, 2, 3, 5, 8, 14, 15] (by kernel_rfl) Tryd.func28 rfl Tryd.ntmps28 rfl rfl (ltb rfl) rfl (leb rfl) rfl ?_)
  intro fr140
  refine AC.seq ?_
  refine AC.region ?_
  refine AO.op rfl (AOp.assign rfl rfl (ltb rfl) rfl ?_)
  refine AO.objs (obs' := [.fix 24 [.d (dfl a0.e0), .d (dfl a0.e1), .d (dfl a0.e2), .d (dfl a0.e3), .d (dfl a0.e4), .d (dfl a0.e5), .d (dfl a0.e6), .d (dfl a0.e7), .d (dfl a0.e8)], .fix 24 [.d (dfl a1.e0), .d (dfl a1.e1), .d (dfl a1.e2), .d (dfl a1.e3), .d (dfl a1.e4), .d (dfl a1.e5), .d (dfl a1.e6), .d (dfl a1.e7), .d (dfl a1.e8)], .fix 24 [.d (dfl (0 : Nat)), .d (dfl (0 : Nat)), .d (dfl (0 : Nat)), .d (dfl (0 : Nat)), .d (dfl (0 : Nat)), .d (dfl (0 : Nat)), .d (dfl (0 : Nat)), .d (dfl (0 : Nat)), .d (dfl (0 : Nat))], .fix 51 [.ptr 7 0], .dead, .dead, .dead, .fix 61 [.d (dfl z52), .d (dfl z62), .d (dfl z72), .d (dfl z82), .d (dfl z92), .d (dfl z102), .d (dfl z112), .d (dfl z122), .d (dfl z132)], .frame fr134 [(4, .ptr 2 0)], .fix 24 [.d (dfl (0 : Nat)), .d (dfl (0 : Nat)), .d (dfl (0 : Nat)), .d (dfl (0 : Nat)), .d (dfl (0 : Nat)), .d (dfl (0 : Nat)), .d (dfl (0 : Nat)), .d (dfl (0 : Nat)), .d (dfl (0 : Nat))], .fix 24 [.d (dfl z52), .d (dfl z62), .d (dfl z72), .d (dfl z82), .d (dfl z92), .d (dfl (0 : Nat)), .d (dfl (0 : Nat)), .d (dfl (0 : Nat)), .d (dfl (0 : Nat))], .dead, .dead, .dead, .dead, .dead, .frame fr140 [(0, .ptr 3 0), (2, .ptr 9 0), (3, .ptr 10 0), (5, .d (di .i64 (5 : Int))), (8, .d (di .i64 (5 : Int))), (14, .d (dfl z92)), (15, .ptr 10 4)]]) rfl ?_
  refine AO.nil ?_
  change AC _ _ _ _
  refine AC.seq ?_
  refine AC.seq ?_
  refine AC.region ?_
  refine AO.op rfl (AOp.move rfl rfl (ltb rfl) rfl ?_)
  refine AO.op rfl (AOp.i2i rfl rfl (ltb rfl) rfl Tryd.underlying3 Tryd.underlying67 (show IntKind.u64.wrap (1 : Int) = (1 : Int) by decide) ?_)
  refine AO.op rfl (AOp.igtr rfl rfl (ltb rfl) rfl rfl ?_)
  refine AO.nil ?_
  change AC _ _ _ _
  refine AC.condF rfl rfl ?_
  refine AC.skip ?_
  change AC _ _ _ _
  refine AC.seq ?_
  refine AC.seq ?_
  refine AC.region ?_
  refine AO.op rfl (AOp.move rfl rfl (ltb rfl) rfl ?_)
  refine AO.op rfl (AOp.i2i rfl rfl (ltb rfl) rfl Tryd.underlying3 Tryd.underlying67 (show IntKind.u64.wrap (2 : Int) = (2 : Int) by decide) ?_)
  refine AO.op rfl (AOp.igtr rfl rfl (ltb rfl) rfl rfl ?_)
  refine AO.nil ?_
  change AC _ _ _ _
  refine AC.condF rfl rfl ?_
  refine AC.skip ?_
  change AC _ _ _ _
  refine AC.seq ?_
  refine AC.seq ?_
  refine AC.region ?_
  refine AO.op rfl (AOp.move rfl rfl (ltb rfl) rfl ?_)
  refine AO.op rfl (AOp.nilCheck rfl rfl (ltb rfl) rfl rfl ?_)
  refine AO.op rfl (AOp.fieldAddr rfl rfl (ltb rfl) rfl fo51_0 ?_)
  refine AO.op rfl (AOp.load1 rfl rfl (ltb rfl) rfl agg49 rfl rfl ?_)
  refine AO.op rfl (AOp.ptrNilEql rfl rfl (ltb rfl) rfl rfl pmeth49 ?_)
  refine AO.nil ?_
  change AC _ _ _ _
  refine AC.condF rfl rfl ?_
  refine AC.skip ?_
  change AC _ _ _ _
  refine AC.seq ?_
  refine AC.region ?_
  refine AO.op rfl (AOp.move rfl rfl (ltb rfl) rfl ?_)
  refine AO.op rfl (AOp.nilCheck rfl rfl (ltb rfl) rfl rfl ?_)
  refine AO.op rfl (AOp.fieldAddr rfl rfl (ltb rfl) rfl fo51_0 ?_)
  refine AO.op rfl (AOp.load1 rfl rfl (ltb rfl) rfl agg49 rfl rfl ?_)
  refine AO.op rfl (AOp.move rfl rfl (ltb rfl) rfl ?_)
  refine AO.op rfl (AOp.imul rfl rfl (ltb rfl) rfl rfl (show (1 : Int) * (3 : Int) = (3 : Int) by decide) (by decide) (by decide) ?_)
  refine AO.op rfl (AOp.move rfl rfl (ltb rfl) rfl ?_)
  refine AO.op rfl (AOp.iadd rfl rfl (ltb rfl) rfl rfl (show (3 : Int) + (2 : Int) = (5 : Int) by decide) (by decide) (by decide) ?_)
  refine AO.op rfl (AOp.nilCheck rfl rfl (ltb rfl) rfl rfl ?_)
  refine AO.op rfl (AOp.indexArrO rfl rfl (ltb rfl) rfl rfl ar61 (by decide) (by decide) (show _ = 5 by first | rfl | decide) ?_)
  refine AO.op rfl (AOp.load1 rfl rfl (ltb rfl) rfl agg22 rfl rfl ?_)
  refine AO.op rfl (AOp.assign rfl rfl (ltb rfl) rfl ?_)
  refine AO.nil ?_
  change AC _ _ _ _
  refine AC.ret ?_
  refine inlret (ob' := [.fix 24 [.d (dfl a0.e0), .d (dfl a0.e1), .d (dfl a0.e2), .d (dfl a0.e3), .d (dfl a0.e4), .d (dfl a0.e5), .d (dfl a0.e6), .d (dfl a0.e7), .d (dfl a0.e8)], .fix 24 [.d (dfl a1.e0), .d (dfl a1.e1), .d (dfl a1.e2), .d (dfl a1.e3), .d (dfl a1.e4), .d (dfl a1.e5), .d (dfl a1.e6), .d (dfl a1.e7), .d (dfl a1.e8)], .fix 24 [.d (dfl (0 : Nat)), .d (dfl (0 : Nat)), .d (dfl (0 : Nat)), .d (dfl (0 : Nat)), .d (dfl (0 : Nat)), .d (dfl (0 : Nat)), .d (dfl (0 : Nat)), .d (dfl (0 : Nat)), .d (dfl (0 : Nat))], .fix 51 [.ptr 7 0], .dead, .dead, .dead, .fix 61 [.d (dfl z52), .d (dfl z62), .d (dfl z72), .d (dfl z82), .d (dfl z92), .d (dfl z102), .d (dfl z112), .d (dfl z122), .d (dfl z132)], .frame fr134 [(4, .ptr 2 0)], .fix 24 [.d (dfl (0 : Nat)), .d (dfl (0 : Nat)), .d (dfl (0 : Nat)), .d (dfl (0 : Nat)), .d (dfl (0 : Nat)), .d (dfl (0 : Nat)), .d (dfl (0 : Nat)), .d (dfl (0 : Nat)), .d (dfl (0 : Nat))], .fix 24 [.d (dfl z52), .d (dfl z62), .d (dfl z72), .d (dfl z82), .d (dfl z92), .d (dfl (0 : Nat)), .d (dfl (0 : Nat)), .d (dfl (0 : Nat)), .d (dfl (0 : Nat))], .dead, .dead, .dead, .dead, .dead, .dead]) (e' := [(0, .ptr 3 0), (2, .ptr 9 0), (3, .ptr 10 0), (5, .d (di .i64 (5 : Int))), (8, .d (di .i64 (5 : Int))), (14, .d (dfl z92)), (15, .ptr 10 4)]) (r := .d (dfl z102)) rfl rfl rfl ?_
  change AO _ _ _ _ _
  refine AO.op rfl (AOp.indexArrO rfl rfl (ltb rfl) rfl rfl ar24 (by decide) (by decide) (show _ = 5 by first | rfl | decide) ?_)
  refine AO.op rfl (AOp.store rfl rfl rfl rfl size22 rfl rfl rfl (leb rfl) ?_)
  refine AO.objs (obs' := [.fix 24 [.d (dfl a0.e0), .d (dfl a0.e1), .d (dfl a0.e2), .d (dfl a0.e3), .d (dfl a0.e4), .d (dfl a0.e5), .d (dfl a0.e6), .d (dfl a0.e7), .d (dfl a0.e8)], .fix 24 [.d (dfl a1.e0), .d (dfl a1.e1), .d (dfl a1.e2), .d (dfl a1.e3), .d (dfl a1.e4), .d (dfl a1.e5), .d (dfl a1.e6), .d (dfl a1.e7), .d (dfl a1.e8)], .fix 24 [.d (dfl (0 : Nat)), .d (dfl (0 : Nat)), .d (dfl (0 : Nat)), .d (dfl (0 : Nat)), .d (dfl (0 : Nat)), .d (dfl (0 : Nat)), .d (dfl (0 : Nat)), .d (dfl (0 : Nat)), .d (dfl (0 : Nat))], .fix 51 [.ptr 7 0], .dead, .dead, .dead, .fix 61 [.d (dfl z52), .d (dfl z62), .d (dfl z72), .d (dfl z82), .d (dfl z92), .d (dfl z102), .d (dfl z112), .d (dfl z122), .d (dfl z132)], .frame fr134 [(4, .ptr 2 0)], .fix 24 [.d (dfl (0 : Nat)), .d (dfl (0 : Nat)), .d (dfl (0 : Nat)), .d (dfl (0 : Nat)), .d (dfl (0 : Nat)), .d (dfl (0 : Nat)), .d (dfl (0 : Nat)), .d (dfl (0 : Nat)), .d (dfl (0 : Nat))], .fix 24 [.d (dfl z52), .d (dfl z62), .d (dfl z72), .d (dfl z82), .d (dfl z92), .d (dfl z102), .d (dfl (0 : Nat)), .d (dfl (0 : Nat)), .d (dfl (0 : Nat))], .dead, .dead, .dead, .dead, .dead, .dead]) rfl ?_
  refine AO.nil ?_
  change AC _ _ _ _
  refine AC.region ?_
  refine AO.op rfl (AOp.iadd rfl rfl (ltb rfl) rfl rfl (show (5 : Int) + (1 : Int) = (6 : Int) by decide) (by decide) (by decide) ?_)
  refine AO.op rfl (AOp.move rfl rfl (ltb rfl) rfl ?_)
  refine AO.nil ?_
  change ACL _ _ _ _
  refine ACL.round ?_
  refine AC.seq ?_
  refine AC.region ?_
  refine AO.op rfl (AOp.ilss rfl rfl (ltb rfl) rfl rfl ?_)
  refine AO.nil ?_
  change AC _ _ _ _
  refine AC.seq ?_
  refine AC.condT rfl rfl ?_
  refine AC.skip ?_
  change AC _ _ _ _
  refine AC.seq ?_
  refine AC.block ?_
  refine AC.seq ?_
  refine AC.region ?_
  refine AO.op rfl (AOp.move rfl rfl (ltb rfl) rfl ?_)
  refine AO.op rfl (AOp.assign rfl rfl (ltb rfl) rfl ?_)
  refine AO.nil ?_
  change AC _ _ _ _
  refine AC.region ?_
  refine AO.op rfl (AOp.move rfl rfl (ltb rfl) rfl ?_)
  refine AO.op rfl (AOp.move rfl rfl (ltb rfl) rfl ?_)
  refine AO.op rfl (AOp.move rfl rfl (ltb rfl) rfl ?_)
  refine AO.op rfl (AOp.iquo rfl rfl (ltb rfl) rfl rfl (by decide) (show Int.tdiv (6 : Int) (3 : Int) = (2 : Int) by decide) (by decide) (by decide) ?_)
  refine AO.op rfl (AOp.move rfl rfl (ltb rfl) rfl ?_)
  refine AO.op rfl (AOp.irem rfl rfl (ltb rfl) rfl rfl (by decide) (show Int.tmod (6 : Int) (3 : Int) = (0 : Int) by decide) ?_)
  refine AO.op rfl (AOp.inl [0, 2, 3, 5, 8, 14, 15] (by kernel_rfl) Tryd.func28 rfl Tryd.ntmps28 rfl rfl (ltb rfl) rfl (leb rfl) rfl ?_)
  intro fr141
  refine AC.seq ?_
  refine AC.region ?_
  refine AO.op rfl (AOp.assign rfl rfl (ltb rfl) rfl ?_)
  refine AO.objs (obs' := [.fix 24 [.d (dfl a0.e0), .d (dfl a0.e1), .d (dfl a0.e2), .d (dfl a0.e3), .d (dfl a0.e4), .d (dfl a0.e5), .d (dfl a0.e6), .d (dfl a0.e7), .d (dfl a0.e8)], .fix 24 [.d (dfl a1.e0), .d (dfl a1.e1), .d (dfl a1.e2), .d (dfl a1.e3), .d (dfl a1.e4), .d (dfl a1.e5), .d (dfl a1.e6), .d (dfl a1.e7), .d (dfl a1.e8)], .fix 24 [.d (dfl (0 : Nat)), .d (dfl (0 : Nat)), .d (dfl (0 : Nat)), .d (dfl (0 : Nat)), .d (dfl (0 : Nat)), .d (dfl (0 : Nat)), .d (dfl (0 : Nat)), .d (dfl (0 : Nat)), .d (dfl (0 : Nat))], .fix 51 [.ptr 7 0], .dead, .dead, .dead, .fix 61 [.d (dfl z52), .d (dfl z62), .d (dfl z72), .d (dfl z82), .d (dfl z92), .d (dfl z102), .d (dfl z112), .d (dfl z122), .d (dfl z132)], .frame fr134 [(4, .ptr 2 0)], .fix 24 [.d (dfl (0 : Nat)), .d (dfl (0 : Nat)), .d (dfl (0 : Nat)), .d (dfl (0 : Nat)), .d (dfl (0 : Nat)), .d (dfl (0 : Nat)), .d (dfl (0 : Nat)), .d (dfl (0 : Nat)), .d (dfl (0 : Nat))], .fix 24 [.d (dfl z52), .d (dfl z62), .d (dfl z72), .d (dfl z82), .d (dfl z92), .d (dfl z102), .d (dfl (0 : Nat)), .d (dfl (0 : Nat)), .d (dfl (0 : Nat))], .dead, .dead, .dead, .dead, .dead, .dead, .frame fr141 [(0, .ptr 3 0), (2, .ptr 9 0), (3, .ptr 10 0), (5, .d (di .i64 (6 : Int))), (8, .d (di .i64 (6 : Int))), (14, .d (dfl z102)), (15, .ptr 10 5)]]) rfl ?_
  refine AO.nil ?_
  change AC _ _ _ _
  refine AC.seq ?_
  refine AC.seq ?_
  refine AC.region ?_
  refine AO.op rfl (AOp.move rfl rfl (ltb rfl) rfl ?_)
  refine AO.op rfl (AOp.i2i rfl rfl (ltb rfl) rfl Tryd.underlying3 Tryd.underlying67 (show IntKind.u64.wrap (2 : Int) = (2 : Int) by decide) ?_)
  refine AO.op rfl (AOp.igtr rfl rfl (ltb rfl) rfl rfl ?_)
  refine AO.nil ?_
  change AC _ _ _ _
  refine AC.condF rfl rfl ?_
  refine AC.skip ?_
  change AC _ _ _ _
  refine AC.seq ?_
  refine AC.seq ?_
  refine AC.region ?_
  refine AO.op rfl (AOp.move rfl rfl (ltb rfl) rfl ?_)
  refine AO.op rfl (AOp.i2i rfl rfl (ltb rfl) rfl Tryd.underlying3 Tryd.underlying67 (show IntKind.u64.wrap (0 : Int) = (0 : Int) by decide) ?_)
  refine AO.op rfl (AOp.igtr rfl rfl (ltb rfl) rfl rfl ?_)
  refine AO.nil ?_
  change AC _ _ _ _
  refine AC.condF rfl rfl ?_
  refine AC.skip ?_
  change AC _ _ _ _
  refine AC.seq ?_
  refine AC.seq ?_
  refine AC.region ?_
  refine AO.op rfl (AOp.move rfl rfl (ltb rfl) rfl ?_)
  refine AO.op rfl (AOp.nilCheck rfl rfl (ltb rfl) rfl rfl ?_)
  refine AO.op rfl (AOp.fieldAddr rfl rfl (ltb rfl) rfl fo51_0 ?_)
  refine AO.op rfl (AOp.load1 rfl rfl (ltb rfl) rfl agg49 rfl rfl ?_)
  refine AO.op rfl (AOp.ptrNilEql rfl rfl (ltb rfl) rfl rfl pmeth49 ?_)
  refine AO.nil ?_
  change AC _ _ _ _
  refine AC.condF rfl rfl ?_
  refine AC.skip ?_
  change AC _ _ _ _
  refine AC.seq ?_
  refine AC.region ?_
  refine AO.op rfl (AOp.move rfl rfl (ltb rfl) rfl ?_)
  refine AO.op rfl (AOp.nilCheck rfl rfl (ltb rfl) rfl rfl ?_)
  refine AO.op rfl (AOp.fieldAddr rfl rfl (ltb rfl) rfl fo51_0 ?_)
  refine AO.op rfl (AOp.load1 rfl rfl (ltb rfl) rfl agg49 rfl rfl ?_)
  refine AO.op rfl (AOp.move rfl rfl (ltb rfl) rfl ?_)
  refine AO.op rfl (AOp.imul rfl rfl (ltb rfl) rfl rfl (show (2 : Int) * (3 : Int) = (6 : Int) by decide) (by decide) (by decide) ?_)
  refine AO.op rfl (AOp.move rfl rfl (ltb rfl) rfl ?_)
  refine AO.op rfl (AOp.iadd rfl rfl (ltb rfl) rfl rfl (show (6 : Int) + (0 : Int) = (6 : Int) by decide) (by decide) (by decide) ?_)
  refine AO.op rfl (AOp.nilCheck rfl rfl (ltb rfl) rfl rfl ?_)
  refine AO.op rfl (AOp.indexArrO rfl rfl (ltb rfl) rfl rfl ar61 (by decide) (by decide) (show _ = 6 by first | rfl | decide) ?_)
  refine AO.op rfl (AOp.load1 rfl rfl (ltb rfl) rfl agg22 rfl rfl ?_)
  refine AO.op rfl (AOp.assign rfl rfl (ltb rfl) rfl ?_)
  refine AO.nil ?_
  change AC _ _ _ _
  refine AC.ret ?_
  refine inlret (ob' := [.fix 24 [.d (dfl a0.e0), .d (dfl a0.e1), .d (dfl a0.e2), .d (dfl a0.e3), .d (dfl a0.e4), .d (dfl a0.e5), .d (dfl a0.e6), .d (dfl a0.e7), .d (dfl a0.e8)], .fix 24 [.d (dfl a1.e0), .d (dfl a1.e1), .d (dfl a1.e2), .d (dfl a1.e3), .d (dfl a1.e4), .d (dfl a1.e5), .d (dfl a1.e6), .d (dfl a1.e7), .d (dfl a1.e8)], .fix 24 [.d (dfl (0 : Nat)), .d (dfl (0 : Nat)), .d (dfl (0 : Nat)), .d (dfl (0 : Nat)), .d (dfl (0 : Nat)), .d (dfl (0 : Nat)), .d (dfl (0 : Nat)), .d (dfl (0 : Nat)), .d (dfl (0 : Nat))], .fix 51 [.ptr 7 0], .dead, .dead, .dead, .fix 61 [.d (dfl z52), .d (dfl z62), .d (dfl z72), .d (dfl z82), .d (dfl z92), .d (dfl z102), .d (dfl z112), .d (dfl z122), .d (dfl z132)], .frame fr134 [(4, .ptr 2 0)], .fix 24 [.d (dfl (0 : Nat)), .d (dfl (0 : Nat)), .d (dfl (0 : Nat)), .d (dfl (0 : Nat)), .d (dfl (0 : Nat)), .d (dfl (0 : Nat)), .d (dfl (0 : Nat)), .d (dfl (0 : Nat)), .d (dfl (0 : Nat))], .fix 24 [.d (dfl z52), .d (dfl z62), .d (dfl z72), .d (dfl z82), .d (dfl z92), .d (dfl z102), .d (dfl (0 : Nat)), .d (dfl (0 : Nat)), .d (dfl (0 : Nat))], .dead, .dead, .dead, .dead, .dead, .dead, .dead]) (e' := [(0, .ptr 3 0), (2, .ptr 9 0), (3, .ptr 10 0), (5, .d (di .i64 (6 : Int))), (8, .d (di .i64 (6 : Int))), (14, .d (dfl z102)), (15, .ptr 10 5)]) (r := .d (dfl z112)) rfl rfl rfl ?_
  change AO _ _ _ _ _
  refine AO.op rfl (AOp.indexArrO rfl rfl (ltb rfl) rfl rfl ar24 (by decide) (by decide) (show _ = 6 by first | rfl | decide) ?_)
  refine AO.op rfl (AOp.store rfl rfl rfl rfl size22 rfl rfl rfl (leb rfl) ?_)
  refine AO.objs (obs' := [.fix 24 [.d (dfl a0.e0), .d (dfl a0.e1), .d (dfl a0.e2), .d (dfl a0.e3), .d (dfl a0.e4), .d (dfl a0.e5), .d (dfl a0.e6), .d (dfl a0.e7), .d (dfl a0.e8)], .fix 24 [.d (dfl a1.e0), .d (dfl a1.e1), .d (dfl a1.e2), .d (dfl a1.e3), .d (dfl a1.e4), .d (dfl a1.e5), .d (dfl a1.e6), .d (dfl a1.e7), .d (dfl a1.e8)], .fix 24 [.d (dfl (0 : Nat)), .d (dfl (0 : Nat)), .d (dfl (0 : Nat)), .d (dfl (0 : Nat)), .d (dfl (0 : Nat)), .d (dfl (0 : Nat)), .d (dfl (0 : Nat)), .d (dfl (0 : Nat)), .d (dfl (0 : Nat))], .fix 51 [.ptr 7 0], .dead, .dead, .dead, .fix 61 [.d (dfl z52), .d (dfl z62), .d (dfl z72), .d (dfl z82), .d (dfl z92), .d (dfl z102), .d (dfl z112), .d (dfl z122), .d (dfl z132)], .frame fr134 [(4, .ptr 2 0)], .fix 24 [.d (dfl (0 : Nat)), .d (dfl (0 : Nat)), .d (dfl (0 : Nat)), .d (dfl (0 : Nat)), .d (dfl (0 : Nat)), .d (dfl (0 : Nat)), .d (dfl (0 : Nat)), .d (dfl (0 : Nat)), .d (dfl (0 : Nat))], .fix 24 [.d (dfl z52), .d (dfl z62), .d (dfl z72), .d (dfl z82), .d (dfl z92), .d (dfl z102), .d (dfl z112), .d (dfl (0 : Nat)), .d (dfl (0 : Nat))], .dead, .dead, .dead, .dead, .dead, .dead, .dead]) rfl ?_
  refine AO.nil ?_
  change AC _ _ _ _
  refine AC.region ?_
  refine AO.op rfl (AOp.iadd rfl rfl (ltb rfl) rfl rfl (show (6 : Int) + (1 : Int) = (7 : Int) by decide) (by decide) (by decide) ?_)
  refine AO.op rfl (AOp.move rfl rfl (ltb rfl) rfl ?_)
  refine AO.nil ?_
  change ACL _ _ _ _
  refine ACL.round ?_
  refine AC.seq ?_
  refine AC.region ?_
  refine AO.op rfl (AOp.ilss rfl rfl (ltb rfl) rfl rfl ?_)
  refine AO.nil ?_
  change AC _ _ _ _
  refine AC.seq ?_
  refine AC.condT rfl rfl ?_
  refine AC.skip ?_
  change AC _ _ _ _
  refine AC.seq ?_
  refine AC.block ?_
  refine AC.seq ?_
  refine AC.region ?_
  refine AO.op rfl (AOp.move rfl rfl (ltb rfl) rfl ?_)
  refine AO.op rfl (AOp.assign rfl rfl (ltb rfl) rfl ?_)
  refine AO.nil ?_
  change AC _ _ _ _
  refine AC.region ?_
  refine AO.op rfl (AOp.move rfl rfl (ltb rfl) rfl ?_)
  refine AO.op rfl (AOp.move rfl rfl (ltb rfl) rfl ?_)
  refine AO.op rfl (AOp.move rfl rfl (ltb rfl) rfl ?_)
  refine AO.op rfl (AOp.iquo rfl rfl (ltb rfl) rfl rfl (by decide) (show Int.tdiv (7 : Int) (3 : Int) = (2 : Int) by decide) (by decide) (by decide) ?_)
  refine AO.op rfl (AOp.move rfl rfl (ltb rfl) rfl ?_)
  refine AO.op rfl (AOp.irem rfl rfl (ltb rfl) rfl rfl (by decide) (show Int.tmod (7 : Int) (3 : Int) = (1 : Int) by decide) ?_)
  refine AO.op rfl (AOp.inl [0, 2, 3, 5, 8, 14, 15] (by kernel_rfl) Tryd.func28 rfl Tryd.ntmps28 rfl rfl (ltb rfl) rfl (leb rfl) rfl ?_)
  intro fr142
  refine AC.seq ?_
  refine AC.region ?_
  refine AO.op rfl (AOp.assign rfl rfl (ltb rfl) rfl ?_)
  refine AO.objs (obs' := [.fix 24 [.d (dfl a0.e0), .d (dfl a0.e1), .d (dfl a0.e2), .d (dfl a0.e3), .d (dfl a0.e4), .d (dfl a0.e5), .d (dfl a0.e6), .d (dfl a0.e7), .d (dfl a0.e8)], .fix 24 [.d (dfl a1.e0), .d (dfl a1.e1), .d (dfl a1.e2), .d (dfl a1.e3), .d (dfl a1.e4), .d (dfl a1.e5), .d (dfl a1.e6), .d (dfl a1.e7), .d (dfl a1.e8)], .fix 24 [.d (dfl (0 : Nat)), .d (dfl (0 : Nat)), .d (dfl (0 : Nat)), .d (dfl (0 : Nat)), .d (dfl (0 : Nat)), .d (dfl (0 : Nat)), .d (dfl (0 : Nat)), .d (dfl (0 : Nat)), .d (dfl (0 : Nat))], .fix 51 [.ptr 7 0], .dead, .dead, .dead, .fix 61 [.d (dfl z52), .d (dfl z62), .d (dfl z72), .d (dfl z82), .d (dfl z92), .d (dfl z102), .d (dfl z112), .d (dfl z122), .d (dfl z132)], .frame fr134 [(4, .ptr 2 0)], .fix 24 [.d (dfl (0 : Nat)), .d (dfl (0 : Nat)), .d (dfl (0 : Nat)), .d (dfl (0 : Nat)), .d (dfl (0 : Nat)), .d (dfl (0 : Nat)), .d (dfl (0 : Nat)), .d (dfl (0 : Nat)), .d (dfl (0 : Nat))], .fix 24 [.d (dfl z52), .d (dfl z62), .d (dfl z72), .d (dfl z82), .d (dfl z92), .d (dfl z102), .d (dfl z112), .d (dfl (0 : Nat)), .d (dfl (0 : Nat))], .dead, .dead, .dead, .dead, .dead, .dead, .dead, .frame fr142 [(0, .ptr 3 0), (2, .ptr 9 0), (3, .ptr 10 0), (5, .d (di .i64 (7 : Int))), (8, .d (di .i64 (7 : Int))), (14, .d (dfl z112)), (15, .ptr 10 6)]]) rfl ?_
  refine AO.nil ?_
  change AC _ _ _ _
  refine AC.seq ?_
  refine AC.seq ?_
  refine AC.region ?_
  refine AO.op rfl (AOp.move rfl rfl (ltb rfl) rfl ?_)
  refine AO.op rfl (AOp.i2i rfl rfl (ltb rfl) rfl Tryd.underlying3 Tryd.underlying67 (show IntKind.u64.wrap (2 : Int) = (2 : Int) by decide) ?_)
  refine AO.op rfl (AOp.igtr rfl rfl (ltb rfl) rfl rfl ?_)
  refine AO.nil ?_
  change AC _ _ _ _
  refine AC.condF rfl rfl ?_
  refine AC.skip ?_
  change AC _ _ _ _
  refine AC.seq ?_
  refine AC.seq ?_
  refine AC.region ?_
  refine AO.op rfl (AOp.move rfl rfl (ltb rfl) rfl ?_)
  refine AO.op rfl (AOp.i2i rfl rfl (ltb rfl) rfl Tryd.underlying3 Tryd.underlying67 (show IntKind.u64.wrap (1 : Int) = (1 : Int) by decide) ?_)
  refine AO.op rfl (AOp.igtr rfl rfl (ltb rfl) rfl rfl ?_)
  refine AO.nil ?_
  change AC _ _ _ _
  refine AC.condF rfl rfl ?_
  refine AC.skip ?_
  change AC _ _ _ _
  refine AC.seq ?_
  refine AC.seq ?_
  refine AC.region ?_
  refine AO.op rfl (AOp.move rfl rfl (ltb rfl) rfl ?_)
  refine AO.op rfl (AOp.nilCheck rfl rfl (ltb rfl) rfl rfl ?_)
  refine AO.op rfl (AOp.fieldAddr rfl rfl (ltb rfl) rfl fo51_0 ?_)
  refine AO.op rfl (AOp.load1 rfl rfl (ltb rfl) rfl agg49 rfl rfl ?_)
  refine AO.op rfl (AOp.ptrNilEql rfl rfl (ltb rfl) rfl rfl pmeth49 ?_)
  refine AO.nil ?_
  change AC _ _ _ _
  refine AC.condF rfl rfl ?_
  refine AC.skip ?_
  change AC _ _ _ _
  refine AC.seq ?_
  refine AC.region ?_
  refine AO.op rfl (AOp.move rfl rfl (ltb rfl) rfl ?_)
  refine AO.op rfl (AOp.nilCheck rfl rfl (ltb rfl) rfl rfl ?_)
  refine AO.op rfl (AOp.fieldAddr rfl rfl (ltb rfl) rfl fo51_0 ?_)
  refine AO.op rfl (AOp.load1 rfl rfl (ltb rfl) rfl agg49 rfl rfl ?_)
  refine AO.op rfl (AOp.move rfl rfl (ltb rfl) rfl ?_)
  refine AO.op rfl (AOp.imul rfl rfl (ltb rfl) rfl rfl (show (2 : Int) * (3 : Int) = (6 : Int) by decide) (by decide) (by decide) ?_)
  refine AO.op rfl (AOp.move rfl rfl (ltb rfl) rfl ?_)
  refine AO.op rfl (AOp.iadd rfl rfl (ltb rfl) rfl rfl (show (6 : Int) + (1 : Int) = (7 : Int) by decide) (by decide) (by decide) ?_)
  refine AO.op rfl (AOp.nilCheck rfl rfl (ltb rfl) rfl rfl ?_)
  refine AO.op rfl (AOp.indexArrO rfl rfl (ltb rfl) rfl rfl ar61 (by decide) (by decide) (show _ = 7 by first | rfl | decide) ?_)
  refine AO.op rfl (AOp.load1 rfl rfl (ltb rfl) rfl agg22 rfl rfl ?_)
  refine AO.op rfl (AOp.assign rfl rfl (ltb rfl) rfl ?_)
  refine AO.nil ?_
  change AC _ _ _ _
  refine AC.ret ?_
  refine inlret (ob' := [.fix 24 [.d (dfl a0.e0), .d (dfl a0.e1), .d (dfl a0.e2), .d (dfl a0.e3), .d (dfl a0.e4), .d (dfl a0.e5), .d (dfl a0.e6), .d (dfl a0.e7), .d (dfl a0.e8)], .fix 24 [.d (dfl a1.e0), .d (dfl a1.e1), .d (dfl a1.e2), .d (dfl a1.e3), .d (dfl a1.e4), .d (dfl a1.e5), .d (dfl a1.e6), .d (dfl a1.e7), .d (dfl a1.e8)], .fix 24 [.d (dfl (0 : Nat)), .d (dfl (0 : Nat)), .d (dfl (0 : Nat)), .d (dfl (0 : Nat)), .d (dfl (0 : Nat)), .d (dfl (0 : Nat)), .d (dfl (0 : Nat)), .d (dfl (0 : Nat)), .d (dfl (0 : Nat))], .fix 51 [.ptr 7 0], .dead, .dead, .dead, .fix 61 [.d (dfl z52), .d (dfl z62), .d (dfl z72), .d (dfl z82), .d (dfl z92), .d (dfl z102), .d (dfl z112), .d (dfl z122), .d (dfl z132)], .frame fr134 [(4, .ptr 2 0)], .fix 24 [.d (dfl (0 : Nat)), .d (dfl (0 : Nat)), .d (dfl (0 : Nat)), .d (dfl (0 : Nat)), .d (dfl (0 : Nat)), .d (dfl (0 : Nat)), .d (dfl (0 : Nat)), .d (dfl (0 : Nat)), .d (dfl (0 : Nat))], .fix 24 [.d (dfl z52), .d (dfl z62), .d (dfl z72), .d (dfl z82), .d (dfl z92), .d (dfl z102), .d (dfl z112), .d (dfl (0 : Nat)), .d (dfl (0 : Nat))], .dead, .dead, .dead, .dead, .dead, .dead, .dead, .dead]) (e' := [(0, .ptr 3 0), (2, .ptr 9 0), (3, .ptr 10 0), (5, .d (di .i64 (7 : Int))), (8, .d (di .i64 (7 : Int))), (14, .d (dfl z112)), (15, .ptr 10 6)]) (r := .d (dfl z122)) rfl rfl rfl ?_
  change AO _ _ _ _ _
  refine AO.op rfl (AOp.indexArrO rfl rfl (ltb rfl) rfl rfl ar24 (by decide) (by decide) (show _ = 7 by first | rfl | decide) ?_)
  refine AO.op rfl (AOp.store rfl rfl rfl rfl size22 rfl rfl rfl (leb rfl) ?_)
  refine AO.objs (obs' := [.fix 24 [.d (dfl a0.e0), .d (dfl a0.e1), .d (dfl a0.e2), .d (dfl a0.e3), .d (dfl a0.e4), .d (dfl a0.e5), .d (dfl a0.e6), .d (dfl a0.e7), .d (dfl a0.e8)], .fix 24 [.d (dfl a1.e0), .d (dfl a1.e1), .d (dfl a1.e2), .d (dfl a1.e3), .d (dfl a1.e4), .d (dfl a1.e5), .d (dfl a1.e6), .d (dfl a1.e7), .d (dfl a1.e8)], .fix 24 [.d (dfl (0 : Nat)), .d (dfl (0 : Nat)), .d (dfl (0 : Nat)), .d (dfl (0 : Nat)), .d (dfl (0 : Nat)), .d (dfl (0 : Nat)), .d (dfl (0 : Nat)), .d (dfl (0 : Nat)), .d (dfl (0 : Nat))], .fix 51 [.ptr 7 0], .dead, .dead, .dead, .fix 61 [.d (dfl z52), .d (dfl z62), .d (dfl z72), .d (dfl z82), .d (dfl z92), .d (dfl z102), .d (dfl z112), .d (dfl z122), .d (dfl z132)], .frame fr134 [(4, .ptr 2 0)], .fix 24 [.d (dfl (0 : Nat)), .d (dfl (0 : Nat)), .d (dfl (0 : Nat)), .d (dfl (0 : Nat)), .d (dfl (0 : Nat)), .d (dfl (0 : Nat)), .d (dfl (0 : Nat)), .d (dfl (0 : Nat)), .d (dfl (0 : Nat))], .fix 24 [.d (dfl z52), .d (dfl z62), .d (dfl z72), .d (dfl z82), .d (dfl z92), .d (dfl z102), .d (dfl z112), .d (dfl z122), .d (dfl (0 : Nat))], .dead, .dead, .dead, .dead, .dead, .dead, .dead, .dead]) rfl ?_
  refine AO.nil ?_
  change AC _ _ _ _
  refine AC.region ?_
  refine AO.op rfl (AOp.iadd rfl rfl (ltb rfl) rfl rfl (show (7 : Int) + (1 : Int) = (8 : Int) by decide) (by decide) (by decide) ?_)
  refine AO.op rfl (AOp.move rfl rfl (ltb rfl) rfl ?_)
  refine AO.nil ?_
  change ACL _ _ _ _
  refine ACL.round ?_
  refine AC.seq ?_
  refine AC.region ?_
  refine AO.op rfl (AOp.ilss rfl rfl (ltb rfl) rfl rfl ?_)
  refine AO.nil ?_
  change AC _ _ _ _
  refine AC.seq ?_
  refine AC.condT rfl rfl ?_
  refine AC.skip ?_
  change AC _ _ _ _
  refine AC.seq ?_
  refine AC.block ?_
  refine AC.seq ?_
  refine AC.region ?_
  refine AO.op rfl (AOp.move rfl rfl (ltb rfl) rfl ?_)
  refine AO.op rfl (AOp.assign rfl rfl (ltb rfl) rfl ?_)
  refine AO.nil ?_
  change AC _ _ _ _
  refine AC.region ?_
  refine AO.op rfl (AOp.move rfl rfl (ltb rfl) rfl ?_)
  refine AO.op rfl (AOp.move rfl rfl (ltb rfl) rfl ?_)
  refine AO.op rfl (AOp.move rfl rfl (ltb rfl) rfl ?_)
  refine AO.op rfl (AOp.iquo rfl rfl (ltb rfl) rfl rfl (by decide) (show Int.tdiv (8 : Int) (3 : Int) = (2 : Int) by decide) (by decide) (by decide) ?_)
  refine AO.op rfl (AOp.move rfl rfl (ltb rfl) rfl ?_)
  refine AO.op rfl (AOp.irem rfl rfl (ltb rfl) rfl rfl (by decide) (show Int.tmod (8 : Int) (3 : Int) = (2 : Int) by decide) ?_)
  refine AO.op rfl (AOp.inl [0, 2, 3, 5, 8, 14, 15] (by kernel_rfl) Tryd.func28 rfl Tryd.ntmps28 rfl rfl (ltb rfl) rfl (leb rfl) rfl ?_)
  intro fr143
  refine AC.seq ?_
  refine AC.region ?_
  refine AO.op rfl (AOp.assign rfl rfl (ltb rfl) rfl ?_)
  refine AO.objs (obs' := [.fix 24 [.d (dfl a0.e0), .d (dfl a0.e1), .d (dfl a0.e2), .d (dfl a0.e3), .d (dfl a0.e4), .d (dfl a0.e5), .d (dfl a0.e6), .d (dfl a0.e7), .d (dfl a0.e8)], .fix 24 [.d (dfl a1.e0), .d (dfl a1.e1), .d (dfl a1.e2), .d (dfl a1.e3), .d (dfl a1.e4), .d (dfl a1.e5), .d (dfl a1.e6), .d (dfl a1.e7), .d (dfl a1.e8)], .fix 24 [.d (dfl (0 : Nat)), .d (dfl (0 : Nat)), .d (dfl (0 : Nat)), .d (dfl (0 : Nat)), .d (dfl (0 : Nat)), .d (dfl (0 : Nat)), .d (dfl (0 : Nat)), .d (dfl (0 : Nat)), .d (dfl (0 : Nat))], .fix 51 [.ptr 7 0], .dead, .dead, .dead, .fix 61 [.d (dfl z52), .d (dfl z62), .d (dfl z72), .d (dfl z82), .d (dfl z92), .d (dfl z102), .d (dfl z112), .d (dfl z122), .d (dfl z132)], .frame fr134 [(4, .ptr 2 0)], .fix 24 [.d (dfl (0 : Nat)), .d (dfl (0 : Nat)), .d (dfl (0 : Nat)), .d (dfl (0 : Nat)), .d (dfl (0 : Nat)), .d (dfl (0 : Nat)), .d (dfl (0 : Nat)), .d (dfl (0 : Nat)), .d (dfl (0 : Nat))], .fix 24 [.d (dfl z52), .d (dfl z62), .d (dfl z72), .d (dfl z82), .d (dfl z92), .d (dfl z102), .d (dfl z112), .d (dfl z122), .d (dfl (0 : Nat))], .dead, .dead, .dead, .dead, .dead, .dead, .dead, .dead, .frame fr143 [(0, .ptr 3 0), (2, .ptr 9 0), (3, .ptr 10 0), (5, .d (di .i64 (8 : Int))), (8, .d (di .i64 (8 : Int))), (14, .d (dfl z122)), (15, .ptr 10 7)]]) rfl ?_
  refine AO.nil ?_
  change AC _ _ _ _
  refine AC.seq ?_
  refine AC.seq ?_
  refine AC.region ?_
  refine AO.op rfl (AOp.move rfl rfl (ltb rfl) rfl ?_)
  refine AO.op rfl (AOp.i2i rfl rfl (ltb rfl) rfl Tryd.underlying3 Tryd.underlying67 (show IntKind.u64.wrap (2 : Int) = (2 : Int) by decide) ?_)
  refine AO.op rfl (AOp.igtr rfl rfl (ltb rfl) rfl rfl ?_)
  refine AO.nil ?_
  change AC _ _ _ _
  refine AC.condF rfl rfl ?_
  refine AC.skip ?_
  change AC _ _ _ _
  refine AC.seq ?_
  refine AC.seq ?_
  refine AC.region ?_
  refine AO.op rfl (AOp.move rfl rfl (ltb rfl) rfl ?_)
  refine AO.op rfl (AOp.i2i rfl rfl (ltb rfl) rfl Tryd.underlying3 Tryd.underlying67 (show IntKind.u64.wrap (2 : Int) = (2 : Int) by decide) ?_)
  refine AO.op rfl (AOp.igtr rfl rfl (ltb rfl) rfl rfl ?_)
  refine AO.nil ?_
  change AC _ _ _ _
  refine AC.condF rfl rfl ?_
  refine AC.skip ?_
  change AC _ _ _ _
  refine AC.seq ?_
  refine AC.seq ?_
  refine AC.region ?_
  refine AO.op rfl (AOp.move rfl rfl (ltb rfl) rfl ?_)
  refine AO.op rfl (AOp.nilCheck rfl rfl (ltb rfl) rfl rfl ?_)
  refine AO.op rfl (AOp.fieldAddr rfl rfl (ltb rfl) rfl fo51_0 ?_)
  refine AO.op rfl (AOp.load1 rfl rfl (ltb rfl) rfl agg49 rfl rfl ?_)
  refine AO.op rfl (AOp.ptrNilEql rfl rfl (ltb rfl) rfl rfl pmeth49 ?_)
  refine AO.nil ?_
  change AC _ _ _ _
  refine AC.condF rfl rfl ?_
  refine AC.skip ?_
  change AC _ _ _ _
  refine AC.seq ?_
  refine AC.region ?_
  refine AO.op rfl (AOp.move rfl rfl (ltb rfl) rfl ?_)
  refine AO.op rfl (AOp.nilCheck rfl rfl (ltb rfl) rfl rfl ?_)
  refine AO.op rfl (AOp.fieldAddr rfl rfl (ltb rfl) rfl fo51_0 ?_)
  refine AO.op rfl (AOp.load1 rfl rfl (ltb rfl) rfl agg49 rfl rfl ?_)
  refine AO.op rfl (AOp.move rfl rfl (ltb rfl) rfl ?_)
  refine AO.op rfl (AOp.imul rfl rfl (ltb rfl) rfl rfl (show (2 : Int) * (3 : Int) = (6 : Int) by decide) (by decide) (by decide) ?_)
  refine AO.op rfl (AOp.move rfl rfl (ltb rfl) rfl ?_)
  refine AO.op rfl (AOp.iadd rfl rfl (ltb rfl) rfl rfl (show (6 : Int) + (2 : Int) = (8 : Int) by decide) (by decide) (by decide) ?_)
  refine AO.op rfl (AOp.nilCheck rfl rfl (ltb rfl) rfl rfl ?_)
  refine AO.op rfl (AOp.indexArrO rfl rfl (ltb rfl) rfl rfl ar61 (by decide) (by decide) (show _ = 8 by first | rfl | decide) ?_)
  refine AO.op rfl (AOp.load1 rfl rfl (ltb rfl) rfl agg22 rfl rfl ?_)
  refine AO.op rfl (AOp.assign rfl rfl (ltb rfl) rfl ?_)
  refine AO.nil ?_
  change AC _ _ _ _
  refine AC.ret ?_
  refine inlret (ob' := [.fix 24 [.d (dfl a0.e0), .d (dfl a0.e1), .d (dfl a0.e2), .d (dfl a0.e3), .d (dfl a0.e4), .d (dfl a0.e5), .d (dfl a0.e6), .d (dfl a0.e7), .d (dfl a0.e8)], .fix 24 [.d (dfl a1.e0), .d (dfl a1.e1), .d (dfl a1.e2), .d (dfl a1.e3), .d (dfl a1.e4), .d (dfl a1.e5), .d (dfl a1.e6), .d (dfl a1.e7), .d (dfl a1.e8)], .fix 24 [.d (dfl (0 : Nat)), .d (dfl (0 : Nat)), .d (dfl (0 : Nat)), .d (dfl (0 : Nat)), .d (dfl (0 : Nat)), .d (dfl (0 : Nat)), .d (dfl (0 : Nat)), .d (dfl (0 : Nat)), .d (dfl (0 : Nat))], .fix 51 [.ptr 7 0], .dead, .dead, .dead, .fix 61 [.d (dfl z52), .d (dfl z62), .d (dfl z72), .d (dfl z82), .d (dfl z92), .d (dfl z102), .d (dfl z112), .d (dfl z122), .d (dfl z132)], .frame fr134 [(4, .ptr 2 0)], .fix 24 [.d (dfl (0 : Nat)), .d (dfl (0 : Nat)), .d (dfl (0 : Nat)), .d (dfl (0 : Nat)), .d (dfl (0 : Nat)), .d (dfl (0 : Nat)), .d (dfl (0 : Nat)), .d (dfl (0 : Nat)), .d (dfl (0 : Nat))], .fix 24 [.d (dfl z52), .d (dfl z62), .d (dfl z72), .d (dfl z82), .d (dfl z92), .d (dfl z102), .d (dfl z112), .d (dfl z122), .d (dfl (0 : Nat))], .dead, .dead, .dead, .dead, .dead, .dead, .dead, .dead, .dead]) (e' := [(0, .ptr 3 0), (2, .ptr 9 0), (3, .ptr 10 0), (5, .d (di .i64 (8 : Int))), (8, .d (di .i64 (8 : Int))), (14, .d (dfl z122)), (15, .ptr 10 7)]) (r := .d (dfl z132)) rfl rfl rfl ?_
  change AO _ _ _ _ _
  refine AO.op rfl (AOp.indexArrO rfl rfl (ltb rfl) rfl rfl ar24 (by decide) (by decide) (show _ = 8 by first | rfl | decide) ?_)
  refine AO.op rfl (AOp.store rfl rfl rfl rfl size22 rfl rfl rfl (leb rfl) ?_)
  refine AO.objs (obs' := [.fix 24 [.d (dfl a0.e0), .d (dfl a0.e1), .d (dfl a0.e2), .d (dfl a0.e3), .d (dfl a0.e4), .d (dfl a0.e5), .d (dfl a0.e6), .d (dfl a0.e7), .d (dfl a0.e8)], .fix 24 [.d (dfl a1.e0), .d (dfl a1.e1), .d (dfl a1.e2), .d (dfl a1.e3), .d (dfl a1.e4), .d (dfl a1.e5), .d (dfl a1.e6), .d (dfl a1.e7), .d (dfl a1.e8)], .fix 24 [.d (dfl (0 : Nat)), .d (dfl (0 : Nat)), .d (dfl (0 : Nat)), .d (dfl (0 : Nat)), .d (dfl (0 : Nat)), .d (dfl (0 : Nat)), .d (dfl (0 : Nat)), .d (dfl (0 : Nat)), .d (dfl (0 : Nat))], .fix 51 [.ptr 7 0], .dead, .dead, .dead, .fix 61 [.d (dfl z52), .d (dfl z62), .d (dfl z72), .d (dfl z82), .d (dfl z92), .d (dfl z102), .d (dfl z112), .d (dfl z122), .d (dfl z132)], .frame fr134 [(4, .ptr 2 0)], .fix 24 [.d (dfl (0 : Nat)), .d (dfl (0 : Nat)), .d (dfl (0 : Nat)), .d (dfl (0 : Nat)), .d (dfl (0 : Nat)), .d (dfl (0 : Nat)), .d (dfl (0 : Nat)), .d (dfl (0 : Nat)), .d (dfl (0 : Nat))], .fix 24 [.d (dfl z52), .d (dfl z62), .d (dfl z72), .d (dfl z82), .d (dfl z92), .d (dfl z102), .d (dfl z112), .d (dfl z122), .d (dfl z132)], .dead, .dead, .dead, .dead, .dead, .dead, .dead, .dead, .dead]) rfl ?_
  refine AO.nil ?_
  change AC _ _ _ _
  refine AC.region ?_
  refine AO.op rfl (AOp.iadd rfl rfl (ltb rfl) rfl rfl (show (8 : Int) + (1 : Int) = (9 : Int) by decide) (by decide) (by decide) ?_)
  refine AO.op rfl (AOp.move rfl rfl (ltb rfl) rfl ?_)
  refine AO.nil ?_
  change ACL _ _ _ _
  refine ACL.round ?_
  refine AC.seq ?_
  refine AC.region ?_
  refine AO.op rfl (AOp.ilss rfl rfl (ltb rfl) rfl rfl ?_)
  refine AO.nil ?_
  change AC _ _ _ _
  refine AC.seq ?_
  refine AC.condF rfl rfl ?_
  refine AC.exit ?_
  change AC _ _ _ _
  refine AC.seq ?_
  refine AC.region ?_
  refine AO.op rfl (AOp.loadN rfl rfl (ltb rfl) rfl agg24 size24 rfl (leb rfl) rfl ?_)
  refine AO.op rfl (AOp.store rfl rfl rfl rfl size24 rfl rfl rfl (leb rfl) ?_)
  refine AO.nil ?_
  change AC _ _ _ _
  refine AC.ret ?_
  refine inlret (ob' := [.fix 24 [.d (dfl a0.e0), .d (dfl a0.e1), .d (dfl a0.e2), .d (dfl a0.e3), .d (dfl a0.e4), .d (dfl a0.e5), .d (dfl a0.e6), .d (dfl a0.e7), .d (dfl a0.e8)], .fix 24 [.d (dfl a1.e0), .d (dfl a1.e1), .d (dfl a1.e2), .d (dfl a1.e3), .d (dfl a1.e4), .d (dfl a1.e5), .d (dfl a1.e6), .d (dfl a1.e7), .d (dfl a1.e8)], .fix 24 [.d (dfl (0 : Nat)), .d (dfl (0 : Nat)), .d (dfl (0 : Nat)), .d (dfl (0 : Nat)), .d (dfl (0 : Nat)), .d (dfl (0 : Nat)), .d (dfl (0 : Nat)), .d (dfl (0 : Nat)), .d (dfl (0 : Nat))], .fix 51 [.ptr 7 0], .dead, .dead, .dead, .fix 61 [.d (dfl z52), .d (dfl z62), .d (dfl z72), .d (dfl z82), .d (dfl z92), .d (dfl z102), .d (dfl z112), .d (dfl z122), .d (dfl z132)], .dead, .fix 24 [.d (dfl z52), .d (dfl z62), .d (dfl z72), .d (dfl z82), .d (dfl z92), .d (dfl z102), .d (dfl z112), .d (dfl z122), .d (dfl z132)], .fix 24 [.d (dfl z52), .d (dfl z62), .d (dfl z72), .d (dfl z82), .d (dfl z92), .d (dfl z102), .d (dfl z112), .d (dfl z122), .d (dfl z132)], .dead, .dead, .dead, .dead, .dead, .dead, .dead, .dead, .dead]) (e' := [(4, .ptr 2 0)]) (r := .ag [.d (dfl z52), .d (dfl z62), .d (dfl z72), .d (dfl z82), .d (dfl z92), .d (dfl z102), .d (dfl z112), .d (dfl z122), .d (dfl z132)]) rfl rfl rfl ?_
  change AO _ _ _ _ _
  refine AO.op rfl (AOp.store rfl rfl rfl rfl size24 rfl rfl rfl (leb rfl) ?_)
  refine AO.objs (obs' := [.fix 24 [.d (dfl a0.e0), .d (dfl a0.e1), .d (dfl a0.e2), .d (dfl a0.e3), .d (dfl a0.e4), .d (dfl a0.e5), .d (dfl a0.e6), .d (dfl a0.e7), .d (dfl a0.e8)], .fix 24 [.d (dfl a1.e0), .d (dfl a1.e1), .d (dfl a1.e2), .d (dfl a1.e3), .d (dfl a1.e4), .d (dfl a1.e5), .d (dfl a1.e6), .d (dfl a1.e7), .d (dfl a1.e8)], .fix 24 [.d (dfl z52), .d (dfl z62), .d (dfl z72), .d (dfl z82), .d (dfl z92), .d (dfl z102), .d (dfl z112), .d (dfl z122), .d (dfl z132)], .fix 51 [.ptr 7 0], .dead, .dead, .dead, .fix 61 [.d (dfl z52), .d (dfl z62), .d (dfl z72), .d (dfl z82), .d (dfl z92), .d (dfl z102), .d (dfl z112), .d (dfl z122), .d (dfl z132)], .dead, .fix 24 [.d (dfl z52), .d (dfl z62), .d (dfl z72), .d (dfl z82), .d (dfl z92), .d (dfl z102), .d (dfl z112), .d (dfl z122), .d (dfl z132)], .fix 24 [.d (dfl z52), .d (dfl z62), .d (dfl z72), .d (dfl z82), .d (dfl z92), .d (dfl z102), .d (dfl z112), .d (dfl z122), .d (dfl z132)], .dead, .dead, .dead, .dead, .dead, .dead, .dead, .dead, .dead]) rfl ?_
  refine AO.nil ?_
  change AC _ _ _ _
  refine AC.ret ?_
  change RetQ _ _ _ .ret _
  obtain rfl := Option.some.inj h0
  refine retq rfl rfl

set_option maxRecDepth 100000 in
set_option maxHeartbeats 4000000 in
/-- pub-orthodrome/impl.vec3 -/
theorem w_vec3 (a0 : TImpl_P3) (r0 : TImpl_P3) (h0 : p_vec3 a0 = some r0) : FnD Tryd.prog 24 [e_TImpl_P3 a0] (fun r => r = e_TImpl_P3 r0) := by
  refine FnD.of (by kernel_rfl) Tryd.func24 rfl Tryd.ntmps24 rfl (leb rfl) fun W ok => ?_
  unfold p_vec3 at h0
  refine AC.seq ?_
  refine AC.region ?_
  refine AO.op rfl (AOp.box rfl rfl (ltb rfl) rfl rfl ?_)
  refine AO.op rfl (AOp.alloc rfl rfl (ltb rfl) zero41 rfl ?_)
  refine AO.nil ?_
  change AC _ _ _ _
  refine AC.seq ?_
  refine AC.region ?_
  refine AO.op rfl (AOp.fieldAddr rfl rfl (ltb rfl) rfl fo27_0 ?_)
  refine AO.op rfl (AOp.load1 rfl rfl (ltb rfl) rfl agg22 rfl rfl ?_)
  refine AO.op rfl (AOp.fieldAddr rfl rfl (ltb rfl) rfl fo27_1 ?_)
  refine AO.op rfl (AOp.load1 rfl rfl (ltb rfl) rfl agg22 rfl rfl ?_)
  refine AO.op rfl (AOp.fieldAddr rfl rfl (ltb rfl) rfl fo27_2 ?_)
  refine AO.op rfl (AOp.load1 rfl rfl (ltb rfl) rfl agg22 rfl rfl ?_)
  refine AO.op rfl (AOp.build rfl rfl (ltb rfl) zero41 rfl places41 rfl rfl ?_)
  refine AO.op rfl (AOp.store rfl rfl rfl rfl size41 rfl rfl rfl (leb rfl) ?_)
  refine AO.nil ?_
  change AC _ _ _ _
  refine AC.ret ?_
  change RetQ _ _ _ .ret _
  obtain rfl := Option.some.inj h0
  refine retq rfl rfl

set_option maxRecDepth 100000 in
set_option maxHeartbeats 4000000 in
/-- (*pub-orthodrome/pub/gonum/spatial/r3.Mat).MulVec -/
theorem w_Mat_MulVec (a0 : TR3_Mat) (a1 : TImpl_P3) (r0 : TImpl_P3) (h0 : p_Mat_MulVec a0 a1 = some r0) : FnD Tryd.prog 23 [.pt (c_TR3_Mat a0), e_TImpl_P3 a1] (fun r => r = e_TImpl_P3 r0) := by
  refine FnD.of (by kernel_rfl) Tryd.func23 rfl Tryd.ntmps23 rfl (leb rfl) fun W ok => ?_
  unfold p_Mat_MulVec at h0
  refine AC.seq ?_
  refine AC.region ?_
  refine AO.op rfl (AOp.box rfl rfl (ltb rfl) rfl rfl ?_)
  refine AO.op rfl (AOp.alloc rfl rfl (ltb rfl) zero41 rfl ?_)
  refine AO.nil ?_
  change AC _ _ _ _
  refine AC.seq ?_
  refine AC.seq ?_
  refine AC.region ?_
  refine AO.op rfl (AOp.move rfl rfl (ltb rfl) rfl ?_)
  refine AO.op rfl (AOp.nilCheck rfl rfl (ltb rfl) rfl rfl ?_)
  refine AO.op rfl (AOp.fieldAddrPt rfl rfl (ltb rfl) rfl fo51_0 ?_)
  refine AO.op rfl (AOp.loadEp rfl rfl (ltb rfl) rfl agg49 rfl ?_)
  refine AO.op rfl (AOp.ptrNilEql rfl rfl (ltb rfl) rfl rfl pmeth49 ?_)
  refine AO.nil ?_
  change AC _ _ _ _
  refine AC.condF rfl rfl ?_
  refine AC.skip ?_
  change AC _ _ _ _
  refine AC.seq ?_
  refine AC.draw 52 mixed (by kernel_rfl) ?_
  refine AD.op [3] rfl (by kernel_rfl) rfl rfl (fun _ _ h => AOp.fieldAddr rfl rfl (ltb rfl) rfl fo41_0 h) ?_
  refine AD.op [11] rfl (by kernel_rfl) rfl rfl (fun _ _ h => AOp.load1 rfl rfl (ltb rfl) rfl agg22 rfl rfl h) ?_
  refine AD.op [0] rfl (by kernel_rfl) rfl rfl (fun _ _ h => AOp.move rfl rfl (ltb rfl) rfl h) ?_
  obtain ⟨y1, q2, h0⟩ := bind_elim h0
  refine AD.op [13] rfl (by kernel_rfl) rfl rfl (fun _ _ h => AOp.callD rfl rfl (ltb rfl) rfl rfl (w_Mat_At a0 (0 : Int) (0 : Int) y1 q2) (by rintro _ rfl; exact h)) ?_
  obtain ⟨z3, q4, h0⟩ := bind_elim h0
  refine AD.op [12, 14] rfl (by kernel_rfl) rfl rfl (fun _ _ h => AOp.farith rfl rfl (ltb rfl) rfl rfl q4 h) ?_
  refine AD.op [3] rfl (by kernel_rfl) rfl rfl (fun _ _ h => AOp.fieldAddr rfl rfl (ltb rfl) rfl fo41_1 h) ?_
  refine AD.op [16] rfl (by kernel_rfl) rfl rfl (fun _ _ h => AOp.load1 rfl rfl (ltb rfl) rfl agg22 rfl rfl h) ?_
  refine AD.op [0] rfl (by kernel_rfl) rfl rfl (fun _ _ h => AOp.move rfl rfl (ltb rfl) rfl h) ?_
  obtain ⟨y5, q6, h0⟩ := bind_elim h0
  refine AD.op [18] rfl (by kernel_rfl) rfl rfl (fun _ _ h => AOp.callD rfl rfl (ltb rfl) rfl rfl (w_Mat_At a0 (0 : Int) (1 : Int) y5 q6) (by rintro _ rfl; exact h)) ?_
  obtain ⟨z7, q8, h0⟩ := bind_elim h0
  refine AD.op [17, 19] rfl (by kernel_rfl) rfl rfl (fun _ _ h => AOp.farith rfl rfl (ltb rfl) rfl rfl q8 h) ?_
  obtain ⟨z9, q10, h0⟩ := bind_elim h0
  refine AD.op [15, 20] rfl (by kernel_rfl) rfl rfl (fun _ _ h => AOp.farith rfl rfl (ltb rfl) rfl rfl q10 h) ?_
  refine AD.op [3] rfl (by kernel_rfl) rfl rfl (fun _ _ h => AOp.fieldAddr rfl rfl (ltb rfl) rfl fo41_2 h) ?_
  refine AD.op [22] rfl (by kernel_rfl) rfl rfl (fun _ _ h => AOp.load1 rfl rfl (ltb rfl) rfl agg22 rfl rfl h) ?_
  refine AD.op [0] rfl (by kernel_rfl) rfl rfl (fun _ _ h => AOp.move rfl rfl (ltb rfl) rfl h) ?_
  obtain ⟨y11, q12, h0⟩ := bind_elim h0
  refine AD.op [24] rfl (by kernel_rfl) rfl rfl (fun _ _ h => AOp.callD rfl rfl (ltb rfl) rfl rfl (w_Mat_At a0 (0 : Int) (2 : Int) y11 q12) (by rintro _ rfl; exact h)) ?_
  obtain ⟨z13, q14, h0⟩ := bind_elim h0
  refine AD.op [23, 25] rfl (by kernel_rfl) rfl rfl (fun _ _ h => AOp.farith rfl rfl (ltb rfl) rfl rfl q14 h) ?_
  obtain ⟨z15, q16, h0⟩ := bind_elim h0
  refine AD.op [21, 26] rfl (by kernel_rfl) rfl rfl (fun _ _ h => AOp.farith rfl rfl (ltb rfl) rfl rfl q16 h) ?_
  refine AD.op [3] rfl (by kernel_rfl) rfl rfl (fun _ _ h => AOp.fieldAddr rfl rfl (ltb rfl) rfl fo41_0 h) ?_
  refine AD.op [28] rfl (by kernel_rfl) rfl rfl (fun _ _ h => AOp.load1 rfl rfl (ltb rfl) rfl agg22 rfl rfl h) ?_
  refine AD.op [0] rfl (by kernel_rfl) rfl rfl (fun _ _ h => AOp.move rfl rfl (ltb rfl) rfl h) ?_
  obtain ⟨y17, q18, h0⟩ := bind_elim h0
  refine AD.op [30] rfl (by kernel_rfl) rfl rfl (fun _ _ h => AOp.callD rfl rfl (ltb rfl) rfl rfl (w_Mat_At a0 (1 : Int) (0 : Int) y17 q18) (by rintro _ rfl; exact h)) ?_
  obtain ⟨z19, q20, h0⟩ := bind_elim h0
  refine AD.op [29, 31] rfl (by kernel_rfl) rfl rfl (fun _ _ h => AOp.farith rfl rfl (ltb rfl) rfl rfl q20 h) ?_
  refine AD.op [3] rfl (by kernel_rfl) rfl rfl (fun _ _ h => AOp.fieldAddr rfl rfl (ltb rfl) rfl fo41_1 h) ?_
  refine AD.op [33] rfl (by kernel_rfl) rfl rfl (fun _ _ h => AOp.load1 rfl rfl (ltb rfl) rfl agg22 rfl rfl h) ?_
  refine AD.op [0] rfl (by kernel_rfl) rfl rfl (fun _ _ h => AOp.move rfl rfl (ltb rfl) rfl h) ?_
  obtain ⟨y21, q22, h0⟩ := bind_elim h0
  refine AD.op [35] rfl (by kernel_rfl) rfl rfl (fun _ _ h => AOp.callD rfl rfl (ltb rfl) rfl rfl (w_Mat_At a0 (1 : Int) (1 : Int) y21 q22) (by rintro _ rfl; exact h)) ?_
  obtain ⟨z23, q24, h0⟩ := bind_elim h0
  refine AD.op [34, 36] rfl (by kernel_rfl) rfl rfl (fun _ _ h => AOp.farith rfl rfl (ltb rfl) rfl rfl q24 h) ?_
  obtain ⟨z25, q26, h0⟩ := bind_elim h0
  refine AD.op [32, 37] rfl (by kernel_rfl) rfl rfl (fun _ _ h => AOp.farith rfl rfl (ltb rfl) rfl rfl q26 h) ?_
  refine AD.op [3] rfl (by kernel_rfl) rfl rfl (fun _ _ h => AOp.fieldAddr rfl rfl (ltb rfl) rfl fo41_2 h) ?_
  refine AD.op [39] rfl (by kernel_rfl) rfl rfl (fun _ _ h => AOp.load1 rfl rfl (ltb rfl) rfl agg22 rfl rfl h) ?_
  refine AD.op [0] rfl (by kernel_rfl) rfl rfl (fun _ _ h => AOp.move rfl rfl (ltb rfl) rfl h) ?_
  obtain ⟨y27, q28, h0⟩ := bind_elim h0
  refine AD.op [41] rfl (by kernel_rfl) rfl rfl (fun _ _ h => AOp.callD rfl rfl (ltb rfl) rfl rfl (w_Mat_At a0 (1 : Int) (2 : Int) y27 q28) (by rintro _ rfl; exact h)) ?_
  obtain ⟨z29, q30, h0⟩ := bind_elim h0
  refine AD.op [40, 42] rfl (by kernel_rfl) rfl rfl (fun _ _ h => AOp.farith rfl rfl (ltb rfl) rfl rfl q30 h) ?_
  obtain ⟨z31, q32, h0⟩ := bind_elim h0
  refine AD.op [38, 43] rfl (by kernel_rfl) rfl rfl (fun _ _ h => AOp.farith rfl rfl (ltb rfl) rfl rfl q32 h) ?_
  refine AD.op [3] rfl (by kernel_rfl) rfl rfl (fun _ _ h => AOp.fieldAddr rfl rfl (ltb rfl) rfl fo41_0 h) ?_
  refine AD.op [45] rfl (by kernel_rfl) rfl rfl (fun _ _ h => AOp.load1 rfl rfl (ltb rfl) rfl agg22 rfl rfl h) ?_
  refine AD.op [0] rfl (by kernel_rfl) rfl rfl (fun _ _ h => AOp.move rfl rfl (ltb rfl) rfl h) ?_
  obtain ⟨y33, q34, h0⟩ := bind_elim h0
  refine AD.op [47] rfl (by kernel_rfl) rfl rfl (fun _ _ h => AOp.callD rfl rfl (ltb rfl) rfl rfl (w_Mat_At a0 (2 : Int) (0 : Int) y33 q34) (by rintro _ rfl; exact h)) ?_
  obtain ⟨z35, q36, h0⟩ := bind_elim h0
  refine AD.op [46, 48] rfl (by kernel_rfl) rfl rfl (fun _ _ h => AOp.farith rfl rfl (ltb rfl) rfl rfl q36 h) ?_
  refine AD.op [3] rfl (by kernel_rfl) rfl rfl (fun _ _ h => AOp.fieldAddr rfl rfl (ltb rfl) rfl fo41_1 h) ?_
  refine AD.op [50] rfl (by kernel_rfl) rfl rfl (fun _ _ h => AOp.load1 rfl rfl (ltb rfl) rfl agg22 rfl rfl h) ?_
  refine AD.op [0] rfl (by kernel_rfl) rfl rfl (fun _ _ h => AOp.move rfl rfl (ltb rfl) rfl h) ?_
  obtain ⟨y37, q38, h0⟩ := bind_elim h0
  refine AD.op [52] rfl (by kernel_rfl) rfl rfl (fun _ _ h => AOp.callD rfl rfl (ltb rfl) rfl rfl (w_Mat_At a0 (2 : Int) (1 : Int) y37 q38) (by rintro _ rfl; exact h)) ?_
  obtain ⟨z39, q40, h0⟩ := bind_elim h0
  refine AD.op [51, 53] rfl (by kernel_rfl) rfl rfl (fun _ _ h => AOp.farith rfl rfl (ltb rfl) rfl rfl q40 h) ?_
  obtain ⟨z41, q42, h0⟩ := bind_elim h0
  refine AD.op [49, 54] rfl (by kernel_rfl) rfl rfl (fun _ _ h => AOp.farith rfl rfl (ltb rfl) rfl rfl q42 h) ?_
  refine AD.op [3] rfl (by kernel_rfl) rfl rfl (fun _ _ h => AOp.fieldAddr rfl rfl (ltb rfl) rfl fo41_2 h) ?_
  refine AD.op [56] rfl (by kernel_rfl) rfl rfl (fun _ _ h => AOp.load1 rfl rfl (ltb rfl) rfl agg22 rfl rfl h) ?_
  refine AD.op [0] rfl (by kernel_rfl) rfl rfl (fun _ _ h => AOp.move rfl rfl (ltb rfl) rfl h) ?_
  obtain ⟨y43, q44, h0⟩ := bind_elim h0
  refine AD.op [58] rfl (by kernel_rfl) rfl rfl (fun _ _ h => AOp.callD rfl rfl (ltb rfl) rfl rfl (w_Mat_At a0 (2 : Int) (2 : Int) y43 q44) (by rintro _ rfl; exact h)) ?_
  obtain ⟨z45, q46, h0⟩ := bind_elim h0
  refine AD.op [57, 59] rfl (by kernel_rfl) rfl rfl (fun _ _ h => AOp.farith rfl rfl (ltb rfl) rfl rfl q46 h) ?_
  obtain ⟨z47, q48, h0⟩ := bind_elim h0
  refine AD.op [55, 60] rfl (by kernel_rfl) rfl rfl (fun _ _ h => AOp.farith rfl rfl (ltb rfl) rfl rfl q48 h) ?_
  refine AD.op [27, 44, 61] rfl (by kernel_rfl) rfl rfl (fun _ _ h => AOp.build rfl rfl (ltb rfl) zero41 rfl places41 rfl rfl h) ?_
  refine AD.done ?_
  refine AO.op rfl (AOp.store rfl rfl rfl rfl size41 rfl rfl rfl (leb rfl) ?_)
  refine AO.nil ?_
  change AC _ _ _ _
  refine AC.ret ?_
  change RetQ _ _ _ .ret _
  obtain rfl := Option.some.inj h0
  refine retq rfl rfl

set_option maxRecDepth 100000 in
set_option maxHeartbeats 4000000 in
/-- pub-orthodrome/impl.plainP3 -/
theorem w_plainP3 (a0 : TImpl_P3) (r0 : TImpl_P3) (h0 : p_plainP3 a0 = some r0) : FnD Tryd.prog 14 [e_TImpl_P3 a0] (fun r => r = e_TImpl_P3 r0) := by
  refine FnD.of (by kernel_rfl) Tryd.func14 rfl Tryd.ntmps14 rfl (leb rfl) fun W ok => ?_
  unfold p_plainP3 at h0
  refine AC.seq ?_
  refine AC.region ?_
  refine AO.op rfl (AOp.box rfl rfl (ltb rfl) rfl rfl ?_)
  refine AO.op rfl (AOp.alloc rfl rfl (ltb rfl) zero27 rfl ?_)
  refine AO.nil ?_
  change AC _ _ _ _
  refine AC.seq ?_
  refine AC.region ?_
  refine AO.op rfl (AOp.fieldAddr rfl rfl (ltb rfl) rfl fo41_0 ?_)
  refine AO.op rfl (AOp.load1 rfl rfl (ltb rfl) rfl agg22 rfl rfl ?_)
  refine AO.op rfl (AOp.fieldAddr rfl rfl (ltb rfl) rfl fo41_1 ?_)
  refine AO.op rfl (AOp.load1 rfl rfl (ltb rfl) rfl agg22 rfl rfl ?_)
  refine AO.op rfl (AOp.fieldAddr rfl rfl (ltb rfl) rfl fo41_2 ?_)
  refine AO.op rfl (AOp.load1 rfl rfl (ltb rfl) rfl agg22 rfl rfl ?_)
  refine AO.op rfl (AOp.build rfl rfl (ltb rfl) zero27 rfl places27 rfl rfl ?_)
  refine AO.op rfl (AOp.store rfl rfl rfl rfl size27 rfl rfl rfl (leb rfl) ?_)
  refine AO.nil ?_
  change AC _ _ _ _
  refine AC.ret ?_
  change RetQ _ _ _ .ret _
  obtain rfl := Option.some.inj h0
  refine retq rfl rfl

set_option maxRecDepth 100000 in
set_option maxHeartbeats 4000000 in
/-- pub-orthodrome/impl.MatVec -/
theorem w_MatVec (a0 : TImpl_Mat) (a1 : TImpl_P3) (r0 : TImpl_P3) (h0 : p_MatVec a0 a1 = some r0) : FnD Tryd.prog 11 [e_TImpl_Mat a0, e_TImpl_P3 a1] (fun r => r = e_TImpl_P3 r0) := by
  refine FnD.of (by kernel_rfl) Tryd.func11 rfl Tryd.ntmps11 rfl (leb rfl) fun W ok => ?_
  unfold p_MatVec at h0
  refine AC.seq ?_
  refine AC.region ?_
  refine AO.op rfl (AOp.box rfl rfl (ltb rfl) rfl rfl ?_)
  refine AO.op rfl (AOp.box rfl rfl (ltb rfl) rfl rfl ?_)
  refine AO.op rfl (AOp.alloc rfl rfl (ltb rfl) zero27 rfl ?_)
  refine AO.nil ?_
  change AC _ _ _ _
  refine AC.seq ?_
  refine AC.draw 6 mixed (by kernel_rfl) ?_
  refine AD.op [2] rfl (by kernel_rfl) rfl rfl (fun _ _ h => AOp.loadN rfl rfl (ltb rfl) rfl agg24 size24 rfl (leb rfl) rfl h) ?_
  obtain ⟨y1, q2, h0⟩ := bind_elim h0
  refine AD.op [5] rfl (by kernel_rfl) rfl rfl (fun _ _ h => AOp.callD rfl rfl (ltb rfl) rfl rfl (w_mat a0 y1 q2) (by rintro _ rfl; exact h)) ?_
  refine AD.op [3] rfl (by kernel_rfl) rfl rfl (fun _ _ h => AOp.loadN rfl rfl (ltb rfl) rfl agg27 size27 rfl (leb rfl) rfl h) ?_
  obtain ⟨y3, q4, h0⟩ := bind_elim h0
  refine AD.op [7] rfl (by kernel_rfl) rfl rfl (fun _ _ h => AOp.callD rfl rfl (ltb rfl) rfl rfl (w_vec3 a1 y3 q4) (by rintro _ rfl; exact h)) ?_
  obtain ⟨y5, q6, h0⟩ := bind_elim h0
  refine AD.op [6, 8] rfl (by kernel_rfl) rfl rfl (fun _ _ h => AOp.callD rfl rfl (ltb rfl) rfl rfl (w_Mat_MulVec y1 y3 y5 q6) (by rintro _ rfl; exact h)) ?_
  obtain ⟨y7, q8, h0⟩ := bind_elim h0
  refine AD.op [9] rfl (by kernel_rfl) rfl rfl (fun _ _ h => AOp.callD rfl rfl (ltb rfl) rfl rfl (w_plainP3 y5 y7 q8) (by rintro _ rfl; exact h)) ?_
  refine AD.done ?_
  refine AO.op rfl (AOp.store rfl rfl rfl rfl size27 rfl rfl rfl (leb rfl) ?_)
  refine AO.nil ?_
  change AC _ _ _ _
  refine AC.ret ?_
  change RetQ _ _ _ .ret _
  obtain rfl := Option.some.inj h0
  refine retq rfl rfl

set_option maxRecDepth 100000 in
set_option maxHeartbeats 4000000 in
/-- pub-orthodrome/laws.FnMatEye -/
theorem w_FnMatEye (F : Nat) (a0 : TImpl_Mat) (a1 : TImpl_P3) (r0 : Bool) (h0 : p_FnMatEye F a0 a1 = some r0) : FnD Tryd.prog 4 [e_TImpl_Mat a0, e_TImpl_P3 a1] (fun r => r = dbool r0) := by
  refine FnD.of (by kernel_rfl) Tryd.func4 rfl Tryd.ntmps4 rfl (leb rfl) fun W ok => ?_
  unfold p_FnMatEye at h0
  refine AC.seq ?_
  refine AC.region ?_
  refine AO.op rfl (AOp.box rfl rfl (ltb rfl) rfl rfl ?_)
  refine AO.op rfl (AOp.box rfl rfl (ltb rfl) rfl rfl ?_)
  refine AO.op rfl (AOp.assign rfl rfl (ltb rfl) rfl ?_)
  refine AO.nil ?_
  change AC _ _ _ _
  refine AC.seq ?_
  refine AC.joinP (V := Bool) [2, 3] [15] 2 (fun g1 => [(15, .d (dbool g1))]) (fun g1 => [.fix 24 [.d (dfl a0.e0), .d (dfl a0.e1), .d (dfl a0.e2), .d (dfl a0.e3), .d (dfl a0.e4), .d (dfl a0.e5), .d (dfl a0.e6), .d (dfl a0.e7), .d (dfl a0.e8)], .fix 27 [.d (dfl a1.X), .d (dfl a1.Y), .d (dfl a1.Z)]]) (fun g1 => (p_FnMatEye_k1 a0 a1) g1 = some r0) rfl ?_ ?_
  · refine AC.region ?_
    refine AO.op rfl (AOp.loadN rfl rfl (ltb rfl) rfl agg24 size24 rfl (leb rfl) rfl ?_)
    refine AO.op rfl (AOp.buildSliceD rfl rfl (ltb rfl) el36 zero24 rfl (leb rfl) rfl rfl rfl rfl ?_)
    obtain ⟨y14, q15, h0⟩ := bind_elim h0
    refine AO.op rfl (AOp.callD rfl rfl (ltb rfl) rfl rfl (w_entries F [a0] y14 q15) ?_)
    rintro _ rfl
    refine AO.op rfl (AOp.bnot rfl rfl (ltb rfl) rfl ?_)
    refine AO.op rfl (AOp.move rfl rfl (ltb rfl) rfl ?_)
    refine AO.dec (!y14) (fun q16 => ?_) (fun q16 => ?_)
    · replace h0 := cT h0 q16
      refine AO.guardN rfl rfl rfl (ltb rfl) rfl q16 ?_
      refine AO.guardN rfl rfl rfl (ltb rfl) rfl q16 ?_
      refine AO.guardN rfl rfl rfl (ltb rfl) rfl q16 ?_
      refine AO.guardN rfl rfl rfl (ltb rfl) rfl q16 ?_
      refine AO.op rfl (AOp.pick rfl rfl (ltb rfl) rfl q16 rfl ?_)
      refine AO.nil ?_
      exact ⟨true, _, rfl, (LeL.refl _), rfl, rfl, h0⟩
    replace h0 := cF h0 q16
    refine AO.guardY rfl rfl rfl q16 (AOp.loadN rfl rfl (ltb rfl) rfl agg27 size27 rfl (leb rfl) rfl ?_)
    refine AO.guardY rfl rfl rfl q16 (AOp.buildSliceD rfl rfl (ltb rfl) el45 zero27 rfl (leb rfl) rfl rfl rfl rfl ?_)
    obtain ⟨y17, q18, h0⟩ := bind_elim h0
    refine AO.guardY rfl rfl rfl q16 (AOp.callD rfl rfl (ltb rfl) rfl rfl (w_small3 F [a1] y17 q18) ?_)
    rintro _ rfl
    refine AO.guardY rfl rfl rfl q16 (AOp.bnot rfl rfl (ltb rfl) rfl ?_)
    refine AO.op rfl (AOp.pickN rfl rfl (ltb rfl) rfl q16 rfl ?_)
    refine AO.nil ?_
    exact ⟨(!y17), _, rfl, (LeL.refl _), rfl, rfl, h0⟩
  intro g1 h0
  unfold p_FnMatEye_k1 at h0
  refine AC.cond rfl (fun q2 => ?_) (fun q2 => ?_)
  · replace h0 := cT h0 q2
    refine AC.seq ?_
    refine AC.region ?_
    refine AO.op rfl (AOp.assign rfl rfl (ltb rfl) rfl ?_)
    refine AO.nil ?_
    change AC _ _ _ _
    refine AC.ret ?_
    change RetQ _ _ _ .ret _
    obtain rfl := Option.some.inj h0
    refine retq rfl rfl
  replace h0 := cF h0 q2
  refine AC.skip ?_
  change AC _ _ _ _
  refine AC.seq ?_
  refine AC.region ?_
  obtain ⟨y3, q4, h0⟩ := bind_elim h0
  refine AO.op rfl (AOp.callD rfl rfl (ltb rfl) rfl rfl (w_MatEye  y3 q4) ?_)
  rintro _ rfl
  refine AO.op rfl (AOp.alloc rfl rfl (ltb rfl) zero24 rfl ?_)
  refine AO.op rfl (AOp.store rfl rfl rfl rfl size24 rfl rfl rfl (leb rfl) ?_)
  refine AO.nil ?_
  change AC _ _ _ _
  refine AC.seq ?_
  refine AC.draw 25 mixed (by kernel_rfl) ?_
  refine AD.op [5] rfl (by kernel_rfl) rfl rfl (fun _ _ h => AOp.loadN rfl rfl (ltb rfl) rfl agg24 size24 rfl (leb rfl) rfl h) ?_
  refine AD.op [] rfl (by kernel_rfl) rfl rfl (fun _ _ h => AOp.build (r := [.d (dfl (4607182418800017408 : Nat)), .d (dfl (0 : Nat)), .d (dfl (0 : Nat)), .d (dfl (0 : Nat)), .d (dfl (4607182418800017408 : Nat)), .d (dfl (0 : Nat)), .d (dfl (0 : Nat)), .d (dfl (0 : Nat)), .d (dfl (4607182418800017408 : Nat))]) rfl rfl (ltb rfl) zero24 rfl places24 rfl rfl h) ?_
  refine AD.op [17, 18] rfl (by kernel_rfl) rfl rfl (fun _ _ h => AOp.seql (n := 9) rfl rfl (ltb rfl) rfl rfl agg24 eg24 (by decide) (eq24 _ _ _ _ _ _ _ _ _ _ _ _ _ _ _ _ _ _) h) ?_
  refine AD.op [19] rfl (by kernel_rfl) rfl rfl (fun _ _ h => AOp.move rfl rfl (ltb rfl) rfl h) ?_
  refine AD.dec (feq y3.e0 (4607182418800017408 : Nat) && (feq y3.e1 (0 : Nat) && (feq y3.e2 (0 : Nat) && (feq y3.e3 (0 : Nat) && (feq y3.e4 (4607182418800017408 : Nat) && (feq y3.e5 (0 : Nat) && (feq y3.e6 (0 : Nat) && (feq y3.e7 (0 : Nat) && (feq y3.e8 (4607182418800017408 : Nat) && true))))))))) (fun q5 => ?_) (fun q5 => ?_)
  · replace h0 := cT h0 q5
    refine AD.opY [5, 20] rfl rfl rfl q5 (by kernel_rfl) rfl rfl (fun _ _ h => AOp.loadN rfl rfl (ltb rfl) rfl agg24 size24 rfl (leb rfl) rfl h) ?_
    refine AD.opY [2, 20] rfl rfl rfl q5 (by kernel_rfl) rfl rfl (fun _ _ h => AOp.loadN rfl rfl (ltb rfl) rfl agg24 size24 rfl (leb rfl) rfl h) ?_
    obtain ⟨y6, q7, h0⟩ := bind_elim h0
    refine AD.opY [20, 21, 22] rfl rfl rfl q5 (by kernel_rfl) rfl rfl (fun _ _ h => AOp.callD rfl rfl (ltb rfl) rfl rfl (w_MatMul y3 a0 y6 q7) (by rintro _ rfl; exact h)) ?_
    refine AD.opY [2, 20] rfl rfl rfl q5 (by kernel_rfl) rfl rfl (fun _ _ h => AOp.loadN rfl rfl (ltb rfl) rfl agg24 size24 rfl (leb rfl) rfl h) ?_
    refine AD.opY [20, 23, 24] rfl rfl rfl q5 (by kernel_rfl) rfl rfl (fun _ _ h => AOp.seql (n := 9) rfl rfl (ltb rfl) rfl rfl agg24 eg24 (by decide) (eq24 _ _ _ _ _ _ _ _ _ _ _ _ _ _ _ _ _ _) h) ?_
    refine AD.op [20, 25] rfl (by kernel_rfl) rfl rfl (fun _ _ h => AOp.pick rfl rfl (ltb rfl) rfl q5 rfl h) ?_
    refine AD.op [26] rfl (by kernel_rfl) rfl rfl (fun _ _ h => AOp.move rfl rfl (ltb rfl) rfl h) ?_
    refine AD.dec (feq y6.e0 a0.e0 && (feq y6.e1 a0.e1 && (feq y6.e2 a0.e2 && (feq y6.e3 a0.e3 && (feq y6.e4 a0.e4 && (feq y6.e5 a0.e5 && (feq y6.e6 a0.e6 && (feq y6.e7 a0.e7 && (feq y6.e8 a0.e8 && true))))))))) (fun q8 => ?_) (fun q8 => ?_)
    · replace h0 := cT h0 q8
      refine AD.opY [2, 27] rfl rfl rfl q8 (by kernel_rfl) rfl rfl (fun _ _ h => AOp.loadN rfl rfl (ltb rfl) rfl agg24 size24 rfl (leb rfl) rfl h) ?_
      refine AD.opY [5, 27] rfl rfl rfl q8 (by kernel_rfl) rfl rfl (fun _ _ h => AOp.loadN rfl rfl (ltb rfl) rfl agg24 size24 rfl (leb rfl) rfl h) ?_
      obtain ⟨y9, q10, h0⟩ := bind_elim h0
      refine AD.opY [27, 28, 29] rfl rfl rfl q8 (by kernel_rfl) rfl rfl (fun _ _ h => AOp.callD rfl rfl (ltb rfl) rfl rfl (w_MatMul a0 y3 y9 q10) (by rintro _ rfl; exact h)) ?_
      refine AD.opY [2, 27] rfl rfl rfl q8 (by kernel_rfl) rfl rfl (fun _ _ h => AOp.loadN rfl rfl (ltb rfl) rfl agg24 size24 rfl (leb rfl) rfl h) ?_
      refine AD.opY [27, 30, 31] rfl rfl rfl q8 (by kernel_rfl) rfl rfl (fun _ _ h => AOp.seql (n := 9) rfl rfl (ltb rfl) rfl rfl agg24 eg24 (by decide) (eq24 _ _ _ _ _ _ _ _ _ _ _ _ _ _ _ _ _ _) h) ?_
      refine AD.op [27, 32] rfl (by kernel_rfl) rfl rfl (fun _ _ h => AOp.pick rfl rfl (ltb rfl) rfl q8 rfl h) ?_
      refine AD.op [33] rfl (by kernel_rfl) rfl rfl (fun _ _ h => AOp.move rfl rfl (ltb rfl) rfl h) ?_
      refine AD.dec (feq y9.e0 a0.e0 && (feq y9.e1 a0.e1 && (feq y9.e2 a0.e2 && (feq y9.e3 a0.e3 && (feq y9.e4 a0.e4 && (feq y9.e5 a0.e5 && (feq y9.e6 a0.e6 && (feq y9.e7 a0.e7 && (feq y9.e8 a0.e8 && true))))))))) (fun q11 => ?_) (fun q11 => ?_)
      · replace h0 := cT h0 q11
        refine AD.opY [5, 34] rfl rfl rfl q11 (by kernel_rfl) rfl rfl (fun _ _ h => AOp.loadN rfl rfl (ltb rfl) rfl agg24 size24 rfl (leb rfl) rfl h) ?_
        refine AD.opY [3, 34] rfl rfl rfl q11 (by kernel_rfl) rfl rfl (fun _ _ h => AOp.loadN rfl rfl (ltb rfl) rfl agg27 size27 rfl (leb rfl) rfl h) ?_
        obtain ⟨y12, q13, h0⟩ := bind_elim h0
        refine AD.opY [34, 35, 36] rfl rfl rfl q11 (by kernel_rfl) rfl rfl (fun _ _ h => AOp.callD rfl rfl (ltb rfl) rfl rfl (w_MatVec y3 a1 y12 q13) (by rintro _ rfl; exact h)) ?_
        refine AD.opY [3, 34] rfl rfl rfl q11 (by kernel_rfl) rfl rfl (fun _ _ h => AOp.loadN rfl rfl (ltb rfl) rfl agg27 size27 rfl (leb rfl) rfl h) ?_
        refine AD.opY [34, 37, 38] rfl rfl rfl q11 (by kernel_rfl) rfl rfl (fun _ _ h => AOp.seql (n := 9) rfl rfl (ltb rfl) rfl rfl agg27 eg27 (by decide) (eq27 _ _ _ _ _ _) h) ?_
        refine AD.op [34, 39] rfl (by kernel_rfl) rfl rfl (fun _ _ h => AOp.pick rfl rfl (ltb rfl) rfl q11 rfl h) ?_
        refine AD.op [40] rfl (by kernel_rfl) rfl rfl (fun _ _ h => AOp.assign rfl rfl (ltb rfl) rfl h) ?_
        refine AD.done ?_
        refine AO.nil ?_
        change AC _ _ _ _
        refine AC.ret ?_
        change RetQ _ _ _ .ret _
        obtain rfl := Option.some.inj h0
        refine retq rfl rfl
      replace h0 := cF h0 q11
      refine AD.opN rfl rfl rfl (ltb rfl) rfl q11 ?_
      refine AD.opN rfl rfl rfl (ltb rfl) rfl q11 ?_
      refine AD.opN rfl rfl rfl (ltb rfl) rfl q11 ?_
      refine AD.opN rfl rfl rfl (ltb rfl) rfl q11 ?_
      refine AD.opN rfl rfl rfl (ltb rfl) rfl q11 ?_
      refine AD.op [34, 39] rfl (by kernel_rfl) rfl rfl (fun _ _ h => AOp.pickN rfl rfl (ltb rfl) rfl q11 rfl h) ?_
      refine AD.op [40] rfl (by kernel_rfl) rfl rfl (fun _ _ h => AOp.assign rfl rfl (ltb rfl) rfl h) ?_
      refine AD.done ?_
      refine AO.nil ?_
      change AC _ _ _ _
      refine AC.ret ?_
      change RetQ _ _ _ .ret _
      obtain rfl := Option.some.inj h0
      refine retq rfl rfl
    replace h0 := cF h0 q8
    refine AD.opN rfl rfl rfl (ltb rfl) rfl q8 ?_
    refine AD.opN rfl rfl rfl (ltb rfl) rfl q8 ?_
    refine AD.opN rfl rfl rfl (ltb rfl) rfl q8 ?_
    refine AD.opN rfl rfl rfl (ltb rfl) rfl q8 ?_
    refine AD.opN rfl rfl rfl (ltb rfl) rfl q8 ?_
    refine AD.op [27, 32] rfl (by kernel_rfl) rfl rfl (fun _ _ h => AOp.pickN rfl rfl (ltb rfl) rfl q8 rfl h) ?_
    refine AD.op [33] rfl (by kernel_rfl) rfl rfl (fun _ _ h => AOp.move rfl rfl (ltb rfl) rfl h) ?_
    refine AD.opN rfl rfl rfl (ltb rfl) rfl rfl ?_
    refine AD.opN rfl rfl rfl (ltb rfl) rfl rfl ?_
    refine AD.opN rfl rfl rfl (ltb rfl) rfl rfl ?_
    refine AD.opN rfl rfl rfl (ltb rfl) rfl rfl ?_
    refine AD.opN rfl rfl rfl (ltb rfl) rfl rfl ?_
    refine AD.op [34, 39] rfl (by kernel_rfl) rfl rfl (fun _ _ h => AOp.pickN rfl rfl (ltb rfl) rfl rfl rfl h) ?_
    refine AD.op [40] rfl (by kernel_rfl) rfl rfl (fun _ _ h => AOp.assign rfl rfl (ltb rfl) rfl h) ?_
    refine AD.done ?_
    refine AO.nil ?_
    change AC _ _ _ _
    refine AC.ret ?_
    change RetQ _ _ _ .ret _
    obtain rfl := Option.some.inj h0
    refine retq rfl rfl
  replace h0 := cF h0 q5
  refine AD.opN rfl rfl rfl (ltb rfl) rfl q5 ?_
  refine AD.opN rfl rfl rfl (ltb rfl) rfl q5 ?_
  refine AD.opN rfl rfl rfl (ltb rfl) rfl q5 ?_
  refine AD.opN rfl rfl rfl (ltb rfl) rfl q5 ?_
  refine AD.opN rfl rfl rfl (ltb rfl) rfl q5 ?_
  refine AD.op [20, 25] rfl (by kernel_rfl) rfl rfl (fun _ _ h => AOp.pickN rfl rfl (ltb rfl) rfl q5 rfl h) ?_
  refine AD.op [26] rfl (by kernel_rfl) rfl rfl (fun _ _ h => AOp.move rfl rfl (ltb rfl) rfl h) ?_
  refine AD.opN rfl rfl rfl (ltb rfl) rfl rfl ?_
  refine AD.opN rfl rfl rfl (ltb rfl) rfl rfl ?_
  refine AD.opN rfl rfl rfl (ltb rfl) rfl rfl ?_
  refine AD.opN rfl rfl rfl (ltb rfl) rfl rfl ?_
  refine AD.opN rfl rfl rfl (ltb rfl) rfl rfl ?_
  refine AD.op [27, 32] rfl (by kernel_rfl) rfl rfl (fun _ _ h => AOp.pickN rfl rfl (ltb rfl) rfl rfl rfl h) ?_
  refine AD.op [33] rfl (by kernel_rfl) rfl rfl (fun _ _ h => AOp.move rfl rfl (ltb rfl) rfl h) ?_
  refine AD.opN rfl rfl rfl (ltb rfl) rfl rfl ?_
  refine AD.opN rfl rfl rfl (ltb rfl) rfl rfl ?_
  refine AD.opN rfl rfl rfl (ltb rfl) rfl rfl ?_
  refine AD.opN rfl rfl rfl (ltb rfl) rfl rfl ?_
  refine AD.opN rfl rfl rfl (ltb rfl) rfl rfl ?_
  refine AD.op [34, 39] rfl (by kernel_rfl) rfl rfl (fun _ _ h => AOp.pickN rfl rfl (ltb rfl) rfl rfl rfl h) ?_
  refine AD.op [40] rfl (by kernel_rfl) rfl rfl (fun _ _ h => AOp.assign rfl rfl (ltb rfl) rfl h) ?_
  refine AD.done ?_
  refine AO.nil ?_
  change AC _ _ _ _
  refine AC.ret ?_
  change RetQ _ _ _ .ret _
  obtain rfl := Option.some.inj h0
  refine retq rfl rfl

end Go.Proofs.YtiiibhcihbfmeaaDoor.Wk
