/- Proved: functions of the program compute what the printed functions say, wherever these say something. -/
import Derived.Test.YtcckkfdlhakkmaaPKe
import Derived.Test.YtcckkfdlhakkmaaVmDraw4
import Derived.Test.YtcckkfdlhakkmaaVmIfc
import Derived.Test.YtcckkfdlhakkmaaVmNew
import Derived.Test.YtcckkfdlhakkmaaVmNaN
import Derived.Test.YtcckkfdlhakkmaaFltDy
import Derived.Test.YtcckkfdlhakkmaaFltMin
import Derived.Test.YtcckkfdlhakkmaaVmFin
import Derived.Test.YtcckkfdlhakkmaaProg
namespace Go.Proofs.Ytcckkfdlhakkmaa.Wk
open Go.Vm
set_option linter.unusedVariables false
set_option linter.unusedSimpArgs false
theorem agg23 : aggT Try.prog 23 = some false := by kernel_rfl
theorem agg51 : aggT Try.prog 51 = some false := by kernel_rfl
theorem agg75 : aggT Try.prog 75 = some false := by kernel_rfl
theorem conc73 : concT Try.prog 73 = true := by kernel_rfl
theorem el23 : elemT Try.prog 23 = some (51, 1) := by kernel_rfl
theorem el27 : elemT Try.prog 27 = some (23, 1) := by kernel_rfl
theorem el73 : elemT Try.prog 73 = some (51, 1) := by kernel_rfl
theorem fo77_0 : fieldOff Try.prog 77 0 = some 0 := by kernel_rfl
theorem fo77_1 : fieldOff Try.prog 77 1 = some 1 := by kernel_rfl
theorem idle41 (vs : Array Value) (w : World) (h : vs.size = 3) : CallsD Try.prog 41 vs .returning w fun e u' w' => e = .returned (.tuple #[]) ∧ u' = .returning ∧ w' = w := by
  obtain ⟨x0, x1, x2, rfl⟩ : ∃ x0 x1 x2, vs = #[x0, x1, x2] := by
    obtain ⟨l⟩ := vs
    match l, h with
    | [x0, x1, x2], _ => exact ⟨x0, x1, x2, rfl⟩
  refine callsD_of_wpS Try.func41 rfl fun c₀ cs hu => ?_
  apply wpS_seq
  apply wpS_region
  simp [wpOpsS, go_sem, recoverD, hu, Try.ntmps41, Exit.thenS]
  refine wpS_cond (t := false) (by simp [Act.eval, Array.replicate]) ?_
  simp only [Bool.false_eq_true, if_false]
  refine wpS_of_wp (wp_skip ?_)
  cases c₀
  simp_all [bodyPostS, results, Try.results41]
theorem info23 : (Try.prog.info? 23).map (fun i => (i.zero, i.size, i.bytes)) = some (some (.slice none 0 0), 1, 24) := by kernel_rfl
theorem info51 : (Try.prog.info? 51).map (fun i => (i.zero, i.size, i.bytes)) = some (some (.float .f64 0), 1, 8) := by kernel_rfl
theorem mixed : Try.prog.follows .mixedOrders = true := by kernel_rfl
theorem pass73_73 : passT Try.prog 73 73 = some true := by kernel_rfl
def pl77 : Nat → Option (Nat × Nat) := fun i => ([(0, 1), (1, 1)] : List (Nat × Nat))[i]?
theorem places77 : placesT Try.prog 77 = some pl77 := by kernel_rfl
theorem pmeth72 : Try.prog.underlying 72 = some (.pointer (Try.prog.pointee 72)) := by kernel_rfl
theorem size23 : sizeT Try.prog 23 = some 1 := by kernel_rfl
theorem size4 : sizeT Try.prog 4 = some 1 := by kernel_rfl
theorem size51 : sizeT Try.prog 51 = some 1 := by kernel_rfl
theorem size77 : sizeT Try.prog 77 = some 2 := by kernel_rfl
theorem zero23 : (Try.prog.info? 23).map (·.zero) = some (some (.slice none 0 0)) := by kernel_rfl
theorem zero4 : (Try.prog.info? 4).map (·.zero) = some (some (.bool false)) := by kernel_rfl
theorem zero77 : (Try.prog.info? 77).map (·.zero) = some (some (.agg #[.nilIface, .nilIface])) := by kernel_rfl
open Flt (truncD okF inR K20)
def notNan (x : Nat) : Prop := (FloatKind.f64.decode x).isNaN = false
def truncS (x : Nat) (d : Ieee.Datum) : Sem Value :=
  match d with
  | .nan s t =>
    if FloatKind.f64.format.quiet t = t then pure (.float .f64 x) else do
      let kept ← choose (.extern "math.Floor,Ceil,Trunc,RoundToEven.signallingNaN kept" 2)
      pure (.float .f64 (if kept == 1 then x else FloatKind.f64.encode (.nan s (FloatKind.f64.format.quiet t))))
  | d => pure (.float .f64 (FloatKind.f64.encode (d.integral .zero)))
theorem run_trunc (P : Program) (x : Nat) (h : notNan x) (w : World) : (Extern.MathFloor.toIntegral "math.archTrunc" .zero #[.float .f64 x]).run P w = .ok (.float .f64 (truncD x)) w := by
  unfold notNan at h
  have e : Extern.MathFloor.toIntegral "math.archTrunc" .zero #[.float .f64 x] = truncS x (FloatKind.f64.decode x) := rfl
  have e2 : ∀ d : Ieee.Datum, d.isNaN = false → truncS x d = pure (.float .f64 (FloatKind.f64.encode (d.integral .zero))) := by
    intro d hd
    cases d with
    | nan s t => cases hd
    | number s m e => rfl
    | infinity s => rfl
  rw [e, e2 _ h]
  rfl

theorem callTrunc (x : Nat) (h : notNan x) (w : World) : (callFunc 97 #[.float .f64 x]).run Try.prog w = .ok (.value (.float .f64 (truncD x))) w := by
  rw [run_callFunc_extern Try.func97 (by kernel_rfl) (by kernel_rfl) (by kernel_rfl) (e := Extern.MathFloor.toIntegral "math.archTrunc" .zero) (by kernel_rfl), run_trunc Try.prog x h]
  rfl

theorem inR_nn (m x : Nat) (h : fle x m = true) : notNan x := by
  unfold fle at h
  unfold notNan
  unfold Ieee.Format.order at h
  show (Ieee.double.read x).isNaN = false
  generalize Ieee.double.read x = d at *
  cases d with
  | nan s t => simp [Ieee.Datum.order] at h
  | number s m e => rfl
  | infinity s => rfl

set_option maxRecDepth 100000 in
/-- math.Trunc -/
theorem trunc (x : Nat) (h : notNan x) : FnD Try.prog 72 [dfl x] (fun r => r = dfl (truncD x)) := by
  refine FnD.of (by kernel_rfl) Try.func72 rfl Try.ntmps72 rfl (leb rfl) fun W ok => ?_
  refine AC.seq ?_
  refine AC.region ?_
  refine AO.op rfl (AOp.assign rfl rfl (ltb rfl) rfl ?_)
  refine AO.nil ?_
  change AC _ _ _ _
  refine AC.seq ?_
  refine AC.condT rfl rfl ?_
  refine AC.seq ?_
  refine AC.region ?_
  refine AO.op rfl (AOp.move rfl rfl (ltb rfl) rfl ?_)
  refine AO.op rfl (AOp.callX [.float .f64 x] rfl rfl (ltb rfl) rfl (callTrunc x h) ?_)
  refine AO.op rfl (AOp.assign rfl rfl (ltb rfl) rfl ?_)
  refine AO.nil ?_
  change AC _ _ _ _
  refine AC.ret ?_
  change RetQ _ _ _ .ret _
  refine retq rfl ?_
  exact rfl

theorem notNan_of {x : Nat} (h : Flt.isNan x = false) : notNan x := h
theorem callTruncA (x : Nat) (h : Flt.isNan x = true) (w : World) : ∃ r w', (callFunc 97 #[.float .f64 x]).run Try.prog w = .ok (.value r) w' ∧ (w' = w ∨ w' = w.drew) ∧ ∃ z, r = .float .f64 z ∧ Flt.isNan z = true := by
  obtain ⟨r, w', h1, h2, h3⟩ := Flt.run_truncA Try.prog x h w
  refine ⟨r, w', ?_, h2, h3⟩
  rw [run_callFunc_extern Try.func97 (by kernel_rfl) (by kernel_rfl) (by kernel_rfl) (e := Extern.MathFloor.toIntegral "math.archTrunc" .zero) (by kernel_rfl), h1]
  rfl
set_option maxRecDepth 100000 in
theorem truncNN (x : Nat) (h : Flt.isNan x = true) : FnD Try.prog 72 [dfl x] (fun r => ∃ z, r = dfl z ∧ Flt.isNan z = true) := by
  refine FnD.of (by kernel_rfl) Try.func72 rfl Try.ntmps72 rfl (leb rfl) fun W ok => ?_
  refine AC.seq ?_
  refine AC.region ?_
  refine AO.op rfl (AOp.assign rfl rfl (ltb rfl) rfl ?_)
  refine AO.nil ?_
  change AC _ _ _ _
  refine AC.seq ?_
  refine AC.condT rfl rfl ?_
  refine AC.seq ?_
  refine AC.region ?_
  refine AO.op rfl (AOp.move rfl rfl (ltb rfl) rfl ?_)
  refine AO.op rfl (AOp.callXA [.float .f64 x] rfl rfl (ltb rfl) rfl (callTruncA x h) ?_)
  rintro _ ⟨z, rfl, hz⟩
  refine AO.op rfl (AOp.assign rfl rfl (ltb rfl) rfl ?_)
  refine AO.nil ?_
  change AC _ _ _ _
  refine AC.ret ?_
  change RetQ _ _ _ .ret _
  refine retq rfl ?_
  exact ⟨z, rfl, hz⟩

theorem truncA (x : Nat) : FnD Try.prog 72 [dfl x] (fun r => ∃ z, r = dfl z ∧ Flt.TruncR x z) := by
  cases h : Flt.isNan x with
  | false => exact (trunc x h).mono fun r hr => ⟨_, hr, fun _ => rfl, fun h2 => by rw [h] at h2; cases h2⟩
  | true => exact (truncNN x h).mono fun r ⟨z, h1, h2⟩ => ⟨z, h1, fun h3 => by (rw [h] at h3; cases h3), fun _ => h2⟩

set_option maxRecDepth 100000 in
set_option maxHeartbeats 1000000 in
/-- pub-orthodrome/spec.Grid -/
theorem w_Grid (F : Nat) (a0 : (List (List Nat))) (a1 : Int) (a2 : Nat) (r0 : Bool) (h0 : p_Grid F a0 a1 a2 = some r0) : FnD Try.prog 33 [eS1 a0, di .i64 a1, dfl a2] (fun r => r = dbool r0) := by
  refine FnD.of (by kernel_rfl) Try.func33 rfl Try.ntmps33 rfl (leb rfl) fun W ok => ?_
  unfold p_Grid at h0
  refine AC.seq ?_
  refine AC.region ?_
  refine AO.op rfl (AOp.assign rfl rfl (ltb rfl) rfl ?_)
  refine AO.nil ?_
  change AC _ _ _ _
  refine AC.seq ?_
  refine AC.seq ?_
  refine AC.region ?_
  refine AO.op rfl (AOp.move rfl rfl (ltb rfl) rfl ?_)
  refine AO.op rfl (AOp.lenDs (n := a0.length) (cells := (List.map keS1 a0)) rfl rfl (ltb rfl) rfl el27 (by decide) (len1 _ _) ?_)
  refine AO.op rfl (AOp.move rfl rfl (ltb rfl) rfl ?_)
  refine AO.nil ?_
  change AC _ _ _ _
  obtain ⟨o1, l2, h0⟩ := bind_elim h0
  refine AC.joinE (V := Unit) [1] [] 0 (fun g3 => []) (fun g3 => []) (fun g3 => (p_Grid_k1 a1) g3 = some r0) rfl ?_ ?_
  · refine AC.block ?_
    refine AC.loopP (V := Int) (p_Grid_l2 a0 a1 a2 F) o1 [1, 2, 11, 12] [13] 0 (fun g4 => [(13, .d (di .i64 g4))]) (fun g4 => []) F (0 : Int) l2 rfl rfl (LeL.refl _) rfl rfl ?_
    intro n6 g4 h1
    unfold p_Grid_l2 at h1
    refine AC.seq ?_
    refine AC.region ?_
    refine AO.op rfl (AOp.ilss rfl rfl (ltb rfl) rfl rfl ?_)
    refine AO.nil ?_
    change AC _ _ _ _
    refine AC.seq ?_
    refine AC.cond rfl (fun q7 => ?_) (fun q7 => ?_)
    · replace h1 := cT h1 q7
      refine AC.skip ?_
      change AC _ _ _ _
      refine AC.seq ?_
      refine AC.block ?_
      refine AC.seq ?_
      refine AC.region ?_
      obtain ⟨x8, q9, h1⟩ := idx_elim h1
      refine AO.op rfl (AOp.indexDs (cells := (List.map keS1 a0)) rfl rfl (ltb rfl) rfl rfl el27 (by decide) q9.1 (lt1 q9.2) ?_)
      refine AO.op rfl (AOp.loadEp rfl rfl (ltb rfl) rfl agg23 (at1 q9.2) ?_)
      refine AO.op rfl (AOp.assign rfl rfl (ltb rfl) rfl ?_)
      refine AO.nil ?_
      change AC _ _ _ _
      refine AC.seq ?_
      refine AC.seq ?_
      refine AC.region ?_
      refine AO.op rfl (AOp.move rfl rfl (ltb rfl) rfl ?_)
      refine AO.op rfl (AOp.lenDs (n := x8.length) (cells := (List.map keS0 x8)) rfl rfl (ltb rfl) rfl el23 (by decide) (len1 _ _) ?_)
      refine AO.op rfl (AOp.move rfl rfl (ltb rfl) rfl ?_)
      refine AO.op rfl (AOp.ineq rfl rfl (ltb rfl) rfl rfl ?_)
      refine AO.nil ?_
      change AC _ _ _ _
      refine AC.cond rfl (fun q10 => ?_) (fun q10 => ?_)
      · replace h1 := cT h1 q10
        refine AC.seq ?_
        refine AC.region ?_
        refine AO.op rfl (AOp.assign rfl rfl (ltb rfl) rfl ?_)
        refine AO.nil ?_
        change AC _ _ _ _
        refine AC.ret ?_
        change RetQ _ _ _ .ret _
        obtain rfl := Option.some.inj h1
        replace h0 := aftR h0
        obtain rfl := Option.some.inj h0
        refine retq rfl rfl
      replace h1 := cF h1 q10
      refine AC.skip ?_
      change AC _ _ _ _
      refine AC.seq ?_
      refine AC.region ?_
      refine AO.op rfl (AOp.move rfl rfl (ltb rfl) rfl ?_)
      refine AO.op rfl (AOp.lenDs (n := x8.length) (cells := (List.map keS0 x8)) rfl rfl (ltb rfl) rfl el23 (by decide) (len1 _ _) ?_)
      refine AO.op rfl (AOp.move rfl rfl (ltb rfl) rfl ?_)
      refine AO.nil ?_
      change AC _ _ _ _
      obtain ⟨o11, l12, h1⟩ := bind_elim h1
      refine AC.joinE (V := Unit) [1, 2, 11, 12, 13] [] 0 (fun g13 => []) (fun g13 => []) (fun g13 => (p_Grid_k3 g4 (iter (p_Grid_l2 a0 a1 a2 F) n6)) g13 = some o1) rfl ?_ ?_
      · refine AC.block ?_
        refine AC.loopP (V := Int) (p_Grid_l4 a2 x8) o11 [1, 2, 11, 12, 13, 21, 22] [23] 0 (fun g15 => [(23, .d (di .i64 g15))]) (fun g15 => []) F (0 : Int) l12 rfl rfl (LeL.refl _) rfl rfl ?_
        intro n17 g15 h2
        unfold p_Grid_l4 at h2
        refine AC.seq ?_
        refine AC.region ?_
        refine AO.op rfl (AOp.ilss rfl rfl (ltb rfl) rfl rfl ?_)
        refine AO.nil ?_
        change AC _ _ _ _
        refine AC.seq ?_
        refine AC.cond rfl (fun q18 => ?_) (fun q18 => ?_)
        · replace h2 := cT h2 q18
          refine AC.skip ?_
          change AC _ _ _ _
          refine AC.seq ?_
          refine AC.block ?_
          refine AC.seq ?_
          refine AC.region ?_
          obtain ⟨x19, q20, h2⟩ := idx_elim h2
          refine AO.op rfl (AOp.indexDs (cells := (List.map keS0 x8)) rfl rfl (ltb rfl) rfl rfl el23 (by decide) q20.1 (lt1 q20.2) ?_)
          refine AO.op rfl (AOp.loadEp rfl rfl (ltb rfl) rfl agg51 (at1 q20.2) ?_)
          refine AO.op rfl (AOp.assign rfl rfl (ltb rfl) rfl ?_)
          refine AO.nil ?_
          change AC _ _ _ _
          refine AC.seq ?_
          refine AC.region ?_
          refine AO.op rfl (AOp.move rfl rfl (ltb rfl) rfl ?_)
          refine AO.op rfl (AOp.move rfl rfl (ltb rfl) rfl ?_)
          refine AO.op rfl (AOp.fneg rfl rfl (ltb rfl) rfl ?_)
          refine AO.op rfl (AOp.fgeq rfl rfl (ltb rfl) rfl rfl ?_)
          refine AO.op rfl (AOp.move rfl rfl (ltb rfl) rfl ?_)
          refine AO.dec (fge x19 (fneg a2)) (fun q21 => ?_) (fun q21 => ?_)
          · replace h2 := cT h2 q21
            refine AO.guardY rfl rfl rfl q21 (AOp.move rfl rfl (ltb rfl) rfl ?_)
            refine AO.guardY rfl rfl rfl q21 (AOp.move rfl rfl (ltb rfl) rfl ?_)
            refine AO.guardY rfl rfl rfl q21 (AOp.fleq rfl rfl (ltb rfl) rfl rfl ?_)
            refine AO.op rfl (AOp.pick rfl rfl (ltb rfl) rfl q21 rfl ?_)
            refine AO.op rfl (AOp.bnot rfl rfl (ltb rfl) rfl ?_)
            refine AO.op rfl (AOp.move rfl rfl (ltb rfl) rfl ?_)
            refine AO.dec (!(fle x19 a2)) (fun q22 => ?_) (fun q22 => ?_)
            · replace h2 := cT h2 q22
              refine AO.guardN rfl rfl rfl (ltb rfl) rfl q22 ?_
              refine AO.guardN rfl rfl rfl (ltb rfl) rfl q22 ?_
              refine AO.guardN rfl rfl rfl (ltb rfl) rfl q22 ?_
              refine AO.guardN rfl rfl rfl (ltb rfl) rfl q22 ?_
              refine AO.op rfl (AOp.pick rfl rfl (ltb rfl) rfl q22 rfl ?_)
              refine AO.nil ?_
              change AC _ _ _ _
              refine AC.condT rfl rfl ?_
              refine AC.seq ?_
              refine AC.region ?_
              refine AO.op rfl (AOp.assign rfl rfl (ltb rfl) rfl ?_)
              refine AO.nil ?_
              change AC _ _ _ _
              refine AC.ret ?_
              change RetQ _ _ _ .ret _
              obtain rfl := Option.some.inj h2
              replace h1 := aftR h1
              obtain rfl := Option.some.inj h1
              replace h0 := aftR h0
              obtain rfl := Option.some.inj h0
              refine retq rfl rfl
            replace h2 := cF h2 q22
            refine AO.guardY rfl rfl rfl q22 (AOp.move rfl rfl (ltb rfl) rfl ?_)
            refine AO.guardY rfl rfl rfl q22 (AOp.move rfl rfl (ltb rfl) rfl ?_)
            refine AO.guardY rfl rfl rfl q22 (AOp.callD rfl rfl (ltb rfl) rfl rfl (truncA x19) ?_)
            rintro _ ⟨z23, rfl, hz24⟩
            refine AO.guardY rfl rfl rfl q22 (AOp.fneq rfl rfl (ltb rfl) rfl rfl ?_)
            rw [hz24.feq]
            refine AO.op rfl (AOp.pickN rfl rfl (ltb rfl) rfl q22 rfl ?_)
            refine AO.nil ?_
            change AC _ _ _ _
            refine AC.cond rfl (fun q25 => ?_) (fun q25 => ?_)
            · replace h2 := cT h2 q25
              refine AC.seq ?_
              refine AC.region ?_
              refine AO.op rfl (AOp.assign rfl rfl (ltb rfl) rfl ?_)
              refine AO.nil ?_
              change AC _ _ _ _
              refine AC.ret ?_
              change RetQ _ _ _ .ret _
              obtain rfl := Option.some.inj h2
              replace h1 := aftR h1
              obtain rfl := Option.some.inj h1
              replace h0 := aftR h0
              obtain rfl := Option.some.inj h0
              refine retq rfl rfl
            replace h2 := cF h2 q25
            refine AC.skip ?_
            change AC _ _ _ _
            refine AC.region ?_
            obtain ⟨q26, h2⟩ := need_elim h2
            refine AO.op rfl (AOp.iadd rfl rfl (ltb rfl) rfl rfl rfl q26.1 q26.2 ?_)
            refine AO.op rfl (AOp.move rfl rfl (ltb rfl) rfl ?_)
            refine AO.nil ?_
            exact ⟨(g15 + (1 : Int)), _, rfl, (LeL.refl _), rfl, rfl, h2⟩
          replace h2 := cF h2 q21
          refine AO.guardN rfl rfl rfl (ltb rfl) rfl q21 ?_
          refine AO.guardN rfl rfl rfl (ltb rfl) rfl q21 ?_
          refine AO.guardN rfl rfl rfl (ltb rfl) rfl q21 ?_
          refine AO.op rfl (AOp.pickN rfl rfl (ltb rfl) rfl q21 rfl ?_)
          refine AO.op rfl (AOp.bnot rfl rfl (ltb rfl) rfl ?_)
          refine AO.op rfl (AOp.move rfl rfl (ltb rfl) rfl ?_)
          refine AO.guardN rfl rfl rfl (ltb rfl) rfl rfl ?_
          refine AO.guardN rfl rfl rfl (ltb rfl) rfl rfl ?_
          refine AO.guardN rfl rfl rfl (ltb rfl) rfl rfl ?_
          refine AO.guardN rfl rfl rfl (ltb rfl) rfl rfl ?_
          refine AO.op rfl (AOp.pick rfl rfl (ltb rfl) rfl rfl rfl ?_)
          refine AO.nil ?_
          change AC _ _ _ _
          refine AC.condT rfl rfl ?_
          refine AC.seq ?_
          refine AC.region ?_
          refine AO.op rfl (AOp.assign rfl rfl (ltb rfl) rfl ?_)
          refine AO.nil ?_
          change AC _ _ _ _
          refine AC.ret ?_
          change RetQ _ _ _ .ret _
          obtain rfl := Option.some.inj h2
          replace h1 := aftR h1
          obtain rfl := Option.some.inj h1
          replace h0 := aftR h0
          obtain rfl := Option.some.inj h0
          refine retq rfl rfl
        replace h2 := cF h2 q18
        refine AC.exit ?_
        obtain rfl := Option.some.inj h2
        exact ⟨(), _, rfl, (LeL.refl _), rfl, rfl, aftL h1⟩
      intro g13 h1
      unfold p_Grid_k3 at h1
      change AC _ _ _ _
      refine AC.region ?_
      obtain ⟨q14, h1⟩ := need_elim h1
      refine AO.op rfl (AOp.iadd rfl rfl (ltb rfl) rfl rfl rfl q14.1 q14.2 ?_)
      refine AO.op rfl (AOp.move rfl rfl (ltb rfl) rfl ?_)
      refine AO.nil ?_
      exact ⟨(g4 + (1 : Int)), _, rfl, (LeL.refl _), rfl, rfl, h1⟩
    replace h1 := cF h1 q7
    refine AC.exit ?_
    obtain rfl := Option.some.inj h1
    exact ⟨(), _, rfl, (LeL.refl _), rfl, rfl, aftL h0⟩
  intro g3 h0
  unfold p_Grid_k1 at h0
  change AC _ _ _ _
  refine AC.seq ?_
  refine AC.region ?_
  refine AO.op rfl (AOp.move rfl rfl (ltb rfl) rfl ?_)
  refine AO.op rfl (AOp.igtr rfl rfl (ltb rfl) rfl rfl ?_)
  refine AO.op rfl (AOp.assign rfl rfl (ltb rfl) rfl ?_)
  refine AO.nil ?_
  change AC _ _ _ _
  refine AC.ret ?_
  change RetQ _ _ _ .ret _
  obtain rfl := Option.some.inj h0
  refine retq rfl rfl

set_option maxRecDepth 100000 in
set_option maxHeartbeats 1000000 in
/-- pub-orthodrome/laws.some -/
theorem w_some (F : Nat) (a0 : (List (List Nat))) (a1 : (List Nat)) (r0 : Bool) (h0 : p_some F a0 a1 = some r0) : FnD Try.prog 15 [eS1 a0, eS0 a1] (fun r => r = dbool r0) := by
  refine FnD.of (by kernel_rfl) Try.func15 rfl Try.ntmps15 rfl (leb rfl) fun W ok => ?_
  unfold p_some at h0
  refine AC.seq ?_
  refine AC.region ?_
  refine AO.op rfl (AOp.assign rfl rfl (ltb rfl) rfl ?_)
  refine AO.nil ?_
  change AC _ _ _ _
  refine AC.seq ?_
  refine AC.region ?_
  refine AO.op rfl (AOp.move rfl rfl (ltb rfl) rfl ?_)
  refine AO.op rfl (AOp.lenDs (n := a0.length) (cells := (List.map keS1 a0)) rfl rfl (ltb rfl) rfl el27 (by decide) (len1 _ _) ?_)
  refine AO.op rfl (AOp.igtr rfl rfl (ltb rfl) rfl rfl ?_)
  refine AO.op rfl (AOp.move rfl rfl (ltb rfl) rfl ?_)
  refine AO.dec (decide ((0 : Int) < ((a0.length : Nat) : Int))) (fun q1 => ?_) (fun q1 => ?_)
  · replace h0 := cT h0 q1
    refine AO.guardY rfl rfl rfl q1 (AOp.move rfl rfl (ltb rfl) rfl ?_)
    refine AO.guardY rfl rfl rfl q1 (AOp.lenDs (n := a0.length) (cells := (List.map keS1 a0)) rfl rfl (ltb rfl) rfl el27 (by decide) (len1 _ _) ?_)
    refine AO.guardY rfl rfl rfl q1 (AOp.ileq rfl rfl (ltb rfl) rfl rfl ?_)
    refine AO.op rfl (AOp.pick rfl rfl (ltb rfl) rfl q1 rfl ?_)
    refine AO.op rfl (AOp.move rfl rfl (ltb rfl) rfl ?_)
    refine AO.dec (decide (((a0.length : Nat) : Int) ≤ (100 : Int))) (fun q2 => ?_) (fun q2 => ?_)
    · replace h0 := cT h0 q2
      refine AO.guardY rfl rfl rfl q2 (AOp.move rfl rfl (ltb rfl) rfl ?_)
      refine AO.guardY rfl rfl rfl q2 (AOp.lenDs (n := a1.length) (cells := (List.map keS0 a1)) rfl rfl (ltb rfl) rfl el23 (by decide) (len1 _ _) ?_)
      refine AO.guardY rfl rfl rfl q2 (AOp.igtr rfl rfl (ltb rfl) rfl rfl ?_)
      refine AO.op rfl (AOp.pick rfl rfl (ltb rfl) rfl q2 rfl ?_)
      refine AO.op rfl (AOp.move rfl rfl (ltb rfl) rfl ?_)
      refine AO.dec (decide ((0 : Int) < ((a1.length : Nat) : Int))) (fun q3 => ?_) (fun q3 => ?_)
      · replace h0 := cT h0 q3
        refine AO.guardY rfl rfl rfl q3 (AOp.move rfl rfl (ltb rfl) rfl ?_)
        refine AO.guardY rfl rfl rfl q3 (AOp.lenDs (n := a1.length) (cells := (List.map keS0 a1)) rfl rfl (ltb rfl) rfl el23 (by decide) (len1 _ _) ?_)
        refine AO.guardY rfl rfl rfl q3 (AOp.ileq rfl rfl (ltb rfl) rfl rfl ?_)
        refine AO.op rfl (AOp.pick rfl rfl (ltb rfl) rfl q3 rfl ?_)
        refine AO.op rfl (AOp.move rfl rfl (ltb rfl) rfl ?_)
        refine AO.dec (decide (((a1.length : Nat) : Int) ≤ (6 : Int))) (fun q4 => ?_) (fun q4 => ?_)
        · replace h0 := cT h0 q4
          refine AO.guardY rfl rfl rfl q4 (AOp.move rfl rfl (ltb rfl) rfl ?_)
          refine AO.guardY rfl rfl rfl q4 (AOp.move rfl rfl (ltb rfl) rfl ?_)
          refine AO.guardY rfl rfl rfl q4 (AOp.lenDs (n := a1.length) (cells := (List.map keS0 a1)) rfl rfl (ltb rfl) rfl el23 (by decide) (len1 _ _) ?_)
          obtain ⟨y5, q6, h0⟩ := bind_elim h0
          refine AO.guardY rfl rfl rfl q4 (AOp.callD rfl rfl (ltb rfl) rfl rfl (w_Grid F a0 ((a1.length : Nat) : Int) (4697254411347427328 : Nat) y5 q6) ?_)
          rintro _ rfl
          refine AO.op rfl (AOp.pick rfl rfl (ltb rfl) rfl q4 rfl ?_)
          refine AO.op rfl (AOp.move rfl rfl (ltb rfl) rfl ?_)
          refine AO.dec y5 (fun q7 => ?_) (fun q7 => ?_)
          · replace h0 := cT h0 q7
            refine AO.guardY rfl rfl rfl q7 (AOp.move rfl rfl (ltb rfl) rfl ?_)
            refine AO.guardY rfl rfl rfl q7 (AOp.buildSliceD rfl rfl (ltb rfl) el27 zero23 rfl (leb rfl) rfl rfl rfl rfl ?_)
            refine AO.guardY rfl rfl rfl q7 (AOp.move rfl rfl (ltb rfl) rfl ?_)
            refine AO.guardY rfl rfl rfl q7 (AOp.lenDs (n := a1.length) (cells := (List.map keS0 a1)) rfl rfl (ltb rfl) rfl el23 (by decide) (len1 _ _) ?_)
            obtain ⟨y8, q9, h0⟩ := bind_elim h0
            refine AO.guardY rfl rfl rfl q7 (AOp.callD rfl rfl (ltb rfl) rfl rfl (w_Grid F [a1] ((a1.length : Nat) : Int) (4697254411347427328 : Nat) y8 q9) ?_)
            rintro _ rfl
            refine AO.op rfl (AOp.pick rfl rfl (ltb rfl) rfl q7 rfl ?_)
            refine AO.op rfl (AOp.assign rfl rfl (ltb rfl) rfl ?_)
            refine AO.nil ?_
            change AC _ _ _ _
            refine AC.ret ?_
            change RetQ _ _ _ .ret _
            obtain rfl := Option.some.inj h0
            refine retq rfl rfl
          replace h0 := cF h0 q7
          refine AO.guardN rfl rfl rfl (ltb rfl) rfl q7 ?_
          refine AO.guardN rfl rfl rfl (ltb rfl) rfl q7 ?_
          refine AO.guardN rfl rfl rfl (ltb rfl) rfl q7 ?_
          refine AO.guardN rfl rfl rfl (ltb rfl) rfl q7 ?_
          refine AO.guardN rfl rfl rfl (ltb rfl) rfl q7 ?_
          refine AO.op rfl (AOp.pickN rfl rfl (ltb rfl) rfl q7 rfl ?_)
          refine AO.op rfl (AOp.assign rfl rfl (ltb rfl) rfl ?_)
          refine AO.nil ?_
          change AC _ _ _ _
          refine AC.ret ?_
          change RetQ _ _ _ .ret _
          obtain rfl := Option.some.inj h0
          refine retq rfl rfl
        replace h0 := cF h0 q4
        refine AO.guardN rfl rfl rfl (ltb rfl) rfl q4 ?_
        refine AO.guardN rfl rfl rfl (ltb rfl) rfl q4 ?_
        refine AO.guardN rfl rfl rfl (ltb rfl) rfl q4 ?_
        refine AO.guardN rfl rfl rfl (ltb rfl) rfl q4 ?_
        refine AO.op rfl (AOp.pickN rfl rfl (ltb rfl) rfl q4 rfl ?_)
        refine AO.op rfl (AOp.move rfl rfl (ltb rfl) rfl ?_)
        refine AO.guardN rfl rfl rfl (ltb rfl) rfl rfl ?_
        refine AO.guardN rfl rfl rfl (ltb rfl) rfl rfl ?_
        refine AO.guardN rfl rfl rfl (ltb rfl) rfl rfl ?_
        refine AO.guardN rfl rfl rfl (ltb rfl) rfl rfl ?_
        refine AO.guardN rfl rfl rfl (ltb rfl) rfl rfl ?_
        refine AO.op rfl (AOp.pickN rfl rfl (ltb rfl) rfl rfl rfl ?_)
        refine AO.op rfl (AOp.assign rfl rfl (ltb rfl) rfl ?_)
        refine AO.nil ?_
        change AC _ _ _ _
        refine AC.ret ?_
        change RetQ _ _ _ .ret _
        obtain rfl := Option.some.inj h0
        refine retq rfl rfl
      replace h0 := cF h0 q3
      refine AO.guardN rfl rfl rfl (ltb rfl) rfl q3 ?_
      refine AO.guardN rfl rfl rfl (ltb rfl) rfl q3 ?_
      refine AO.guardN rfl rfl rfl (ltb rfl) rfl q3 ?_
      refine AO.op rfl (AOp.pickN rfl rfl (ltb rfl) rfl q3 rfl ?_)
      refine AO.op rfl (AOp.move rfl rfl (ltb rfl) rfl ?_)
      refine AO.guardN rfl rfl rfl (ltb rfl) rfl rfl ?_
      refine AO.guardN rfl rfl rfl (ltb rfl) rfl rfl ?_
      refine AO.guardN rfl rfl rfl (ltb rfl) rfl rfl ?_
      refine AO.guardN rfl rfl rfl (ltb rfl) rfl rfl ?_
      refine AO.op rfl (AOp.pickN rfl rfl (ltb rfl) rfl rfl rfl ?_)
      refine AO.op rfl (AOp.move rfl rfl (ltb rfl) rfl ?_)
      refine AO.guardN rfl rfl rfl (ltb rfl) rfl rfl ?_
      refine AO.guardN rfl rfl rfl (ltb rfl) rfl rfl ?_
      refine AO.guardN rfl rfl rfl (ltb rfl) rfl rfl ?_
      refine AO.guardN rfl rfl rfl (ltb rfl) rfl rfl ?_
      refine AO.guardN rfl rfl rfl (ltb rfl) rfl rfl ?_
      refine AO.op rfl (AOp.pickN rfl rfl (ltb rfl) rfl rfl rfl ?_)
      refine AO.op rfl (AOp.assign rfl rfl (ltb rfl) rfl ?_)
      refine AO.nil ?_
      change AC _ _ _ _
      refine AC.ret ?_
      change RetQ _ _ _ .ret _
      obtain rfl := Option.some.inj h0
      refine retq rfl rfl
    replace h0 := cF h0 q2
    refine AO.guardN rfl rfl rfl (ltb rfl) rfl q2 ?_
    refine AO.guardN rfl rfl rfl (ltb rfl) rfl q2 ?_
    refine AO.guardN rfl rfl rfl (ltb rfl) rfl q2 ?_
    refine AO.op rfl (AOp.pickN rfl rfl (ltb rfl) rfl q2 rfl ?_)
    refine AO.op rfl (AOp.move rfl rfl (ltb rfl) rfl ?_)
    refine AO.guardN rfl rfl rfl (ltb rfl) rfl rfl ?_
    refine AO.guardN rfl rfl rfl (ltb rfl) rfl rfl ?_
    refine AO.guardN rfl rfl rfl (ltb rfl) rfl rfl ?_
    refine AO.op rfl (AOp.pickN rfl rfl (ltb rfl) rfl rfl rfl ?_)
    refine AO.op rfl (AOp.move rfl rfl (ltb rfl) rfl ?_)
    refine AO.guardN rfl rfl rfl (ltb rfl) rfl rfl ?_
    refine AO.guardN rfl rfl rfl (ltb rfl) rfl rfl ?_
    refine AO.guardN rfl rfl rfl (ltb rfl) rfl rfl ?_
    refine AO.guardN rfl rfl rfl (ltb rfl) rfl rfl ?_
    refine AO.op rfl (AOp.pickN rfl rfl (ltb rfl) rfl rfl rfl ?_)
    refine AO.op rfl (AOp.move rfl rfl (ltb rfl) rfl ?_)
    refine AO.guardN rfl rfl rfl (ltb rfl) rfl rfl ?_
    refine AO.guardN rfl rfl rfl (ltb rfl) rfl rfl ?_
    refine AO.guardN rfl rfl rfl (ltb rfl) rfl rfl ?_
    refine AO.guardN rfl rfl rfl (ltb rfl) rfl rfl ?_
    refine AO.guardN rfl rfl rfl (ltb rfl) rfl rfl ?_
    refine AO.op rfl (AOp.pickN rfl rfl (ltb rfl) rfl rfl rfl ?_)
    refine AO.op rfl (AOp.assign rfl rfl (ltb rfl) rfl ?_)
    refine AO.nil ?_
    change AC _ _ _ _
    refine AC.ret ?_
    change RetQ _ _ _ .ret _
    obtain rfl := Option.some.inj h0
    refine retq rfl rfl
  replace h0 := cF h0 q1
  refine AO.guardN rfl rfl rfl (ltb rfl) rfl q1 ?_
  refine AO.guardN rfl rfl rfl (ltb rfl) rfl q1 ?_
  refine AO.guardN rfl rfl rfl (ltb rfl) rfl q1 ?_
  refine AO.op rfl (AOp.pickN rfl rfl (ltb rfl) rfl q1 rfl ?_)
  refine AO.op rfl (AOp.move rfl rfl (ltb rfl) rfl ?_)
  refine AO.guardN rfl rfl rfl (ltb rfl) rfl rfl ?_
  refine AO.guardN rfl rfl rfl (ltb rfl) rfl rfl ?_
  refine AO.guardN rfl rfl rfl (ltb rfl) rfl rfl ?_
  refine AO.op rfl (AOp.pickN rfl rfl (ltb rfl) rfl rfl rfl ?_)
  refine AO.op rfl (AOp.move rfl rfl (ltb rfl) rfl ?_)
  refine AO.guardN rfl rfl rfl (ltb rfl) rfl rfl ?_
  refine AO.guardN rfl rfl rfl (ltb rfl) rfl rfl ?_
  refine AO.guardN rfl rfl rfl (ltb rfl) rfl rfl ?_
  refine AO.op rfl (AOp.pickN rfl rfl (ltb rfl) rfl rfl rfl ?_)
  refine AO.op rfl (AOp.move rfl rfl (ltb rfl) rfl ?_)
  refine AO.guardN rfl rfl rfl (ltb rfl) rfl rfl ?_
  refine AO.guardN rfl rfl rfl (ltb rfl) rfl rfl ?_
  refine AO.guardN rfl rfl rfl (ltb rfl) rfl rfl ?_
  refine AO.guardN rfl rfl rfl (ltb rfl) rfl rfl ?_
  refine AO.op rfl (AOp.pickN rfl rfl (ltb rfl) rfl rfl rfl ?_)
  refine AO.op rfl (AOp.move rfl rfl (ltb rfl) rfl ?_)
  refine AO.guardN rfl rfl rfl (ltb rfl) rfl rfl ?_
  refine AO.guardN rfl rfl rfl (ltb rfl) rfl rfl ?_
  refine AO.guardN rfl rfl rfl (ltb rfl) rfl rfl ?_
  refine AO.guardN rfl rfl rfl (ltb rfl) rfl rfl ?_
  refine AO.guardN rfl rfl rfl (ltb rfl) rfl rfl ?_
  refine AO.op rfl (AOp.pickN rfl rfl (ltb rfl) rfl rfl rfl ?_)
  refine AO.op rfl (AOp.assign rfl rfl (ltb rfl) rfl ?_)
  refine AO.nil ?_
  change AC _ _ _ _
  refine AC.ret ?_
  change RetQ _ _ _ .ret _
  obtain rfl := Option.some.inj h0
  refine retq rfl rfl

set_option maxRecDepth 100000 in
set_option maxHeartbeats 1000000 in
/-- pub-orthodrome/spec.Within -/
theorem w_Within (F : Nat) (a0 : (List Nat)) (a1 : (List Nat)) (a2 : (List Nat)) (r0 : Bool) (h0 : p_Within F a0 a1 a2 = some r0) : FnD Try.prog 12 [eS0 a0, eS0 a1, eS0 a2] (fun r => r = dbool r0) := by
  refine FnD.of (by kernel_rfl) Try.func12 rfl Try.ntmps12 rfl (leb rfl) fun W ok => ?_
  unfold p_Within at h0
  refine AC.seq ?_
  refine AC.region ?_
  refine AO.op rfl (AOp.assign rfl rfl (ltb rfl) rfl ?_)
  refine AO.nil ?_
  change AC _ _ _ _
  refine AC.seq ?_
  refine AC.seq ?_
  refine AC.region ?_
  refine AO.op rfl (AOp.move rfl rfl (ltb rfl) rfl ?_)
  refine AO.op rfl (AOp.lenDs (n := a2.length) (cells := (List.map keS0 a2)) rfl rfl (ltb rfl) rfl el23 (by decide) (len1 _ _) ?_)
  refine AO.op rfl (AOp.move rfl rfl (ltb rfl) rfl ?_)
  refine AO.nil ?_
  change AC _ _ _ _
  obtain ⟨o1, l2, h0⟩ := bind_elim h0
  refine AC.joinE (V := Unit) [] [] 0 (fun g3 => []) (fun g3 => []) (fun g3 => p_Within_k1 g3 = some r0) rfl ?_ ?_
  · refine AC.block ?_
    refine AC.loopP (V := Int) (p_Within_l2 a0 a1 a2) o1 [0, 1, 9, 10] [11] 0 (fun g4 => [(11, .d (di .i64 g4))]) (fun g4 => []) F (0 : Int) l2 rfl rfl (LeL.refl _) rfl rfl ?_
    intro n6 g4 h1
    unfold p_Within_l2 at h1
    refine AC.seq ?_
    refine AC.region ?_
    refine AO.op rfl (AOp.ilss rfl rfl (ltb rfl) rfl rfl ?_)
    refine AO.nil ?_
    change AC _ _ _ _
    refine AC.seq ?_
    refine AC.cond rfl (fun q7 => ?_) (fun q7 => ?_)
    · replace h1 := cT h1 q7
      refine AC.skip ?_
      change AC _ _ _ _
      refine AC.seq ?_
      refine AC.block ?_
      refine AC.seq ?_
      refine AC.region ?_
      refine AO.op rfl (AOp.move rfl rfl (ltb rfl) rfl ?_)
      obtain ⟨x8, q9, h1⟩ := idx_elim h1
      refine AO.op rfl (AOp.indexDs (cells := (List.map keS0 a2)) rfl rfl (ltb rfl) rfl rfl el23 (by decide) q9.1 (lt1 q9.2) ?_)
      refine AO.op rfl (AOp.loadEp rfl rfl (ltb rfl) rfl agg51 (at1 q9.2) ?_)
      refine AO.op rfl (AOp.assign rfl rfl (ltb rfl) rfl ?_)
      refine AO.op rfl (AOp.assign rfl rfl (ltb rfl) rfl ?_)
      refine AO.nil ?_
      change AC _ _ _ _
      refine AC.seq ?_
      refine AC.region ?_
      refine AO.op rfl (AOp.move rfl rfl (ltb rfl) rfl ?_)
      refine AO.op rfl (AOp.move rfl rfl (ltb rfl) rfl ?_)
      refine AO.op rfl (AOp.move rfl rfl (ltb rfl) rfl ?_)
      obtain ⟨x10, q11, h1⟩ := idx_elim h1
      refine AO.op rfl (AOp.indexDs (cells := (List.map keS0 a0)) rfl rfl (ltb rfl) rfl rfl el23 (by decide) q11.1 (lt1 q11.2) ?_)
      refine AO.op rfl (AOp.loadEp rfl rfl (ltb rfl) rfl agg51 (at1 q11.2) ?_)
      refine AO.op rfl (AOp.flss rfl rfl (ltb rfl) rfl rfl ?_)
      refine AO.op rfl (AOp.move rfl rfl (ltb rfl) rfl ?_)
      refine AO.dec (flt x8 x10) (fun q12 => ?_) (fun q12 => ?_)
      · replace h1 := cT h1 q12
        refine AO.guardN rfl rfl rfl (ltb rfl) rfl q12 ?_
        refine AO.guardN rfl rfl rfl (ltb rfl) rfl q12 ?_
        refine AO.guardN rfl rfl rfl (ltb rfl) rfl q12 ?_
        refine AO.guardN rfl rfl rfl (ltb rfl) rfl q12 ?_
        refine AO.guardN rfl rfl rfl (ltb rfl) rfl q12 ?_
        refine AO.guardN rfl rfl rfl (ltb rfl) rfl q12 ?_
        refine AO.op rfl (AOp.pick rfl rfl (ltb rfl) rfl q12 rfl ?_)
        refine AO.nil ?_
        change AC _ _ _ _
        refine AC.condT rfl rfl ?_
        refine AC.seq ?_
        refine AC.region ?_
        refine AO.op rfl (AOp.assign rfl rfl (ltb rfl) rfl ?_)
        refine AO.nil ?_
        change AC _ _ _ _
        refine AC.ret ?_
        change RetQ _ _ _ .ret _
        obtain rfl := Option.some.inj h1
        replace h0 := aftR h0
        obtain rfl := Option.some.inj h0
        refine retq rfl rfl
      replace h1 := cF h1 q12
      refine AO.guardY rfl rfl rfl q12 (AOp.move rfl rfl (ltb rfl) rfl ?_)
      refine AO.guardY rfl rfl rfl q12 (AOp.move rfl rfl (ltb rfl) rfl ?_)
      refine AO.guardY rfl rfl rfl q12 (AOp.move rfl rfl (ltb rfl) rfl ?_)
      obtain ⟨x13, q14, h1⟩ := idx_elim h1
      refine AO.guardY rfl rfl rfl q12 (AOp.indexDs (cells := (List.map keS0 a1)) rfl rfl (ltb rfl) rfl rfl el23 (by decide) q14.1 (lt1 q14.2) ?_)
      refine AO.guardY rfl rfl rfl q12 (AOp.loadEp rfl rfl (ltb rfl) rfl agg51 (at1 q14.2) ?_)
      refine AO.guardY rfl rfl rfl q12 (AOp.fgtr rfl rfl (ltb rfl) rfl rfl ?_)
      refine AO.op rfl (AOp.pickN rfl rfl (ltb rfl) rfl q12 rfl ?_)
      refine AO.nil ?_
      change AC _ _ _ _
      refine AC.cond rfl (fun q15 => ?_) (fun q15 => ?_)
      · replace h1 := cT h1 q15
        refine AC.seq ?_
        refine AC.region ?_
        refine AO.op rfl (AOp.assign rfl rfl (ltb rfl) rfl ?_)
        refine AO.nil ?_
        change AC _ _ _ _
        refine AC.ret ?_
        change RetQ _ _ _ .ret _
        obtain rfl := Option.some.inj h1
        replace h0 := aftR h0
        obtain rfl := Option.some.inj h0
        refine retq rfl rfl
      replace h1 := cF h1 q15
      refine AC.skip ?_
      change AC _ _ _ _
      refine AC.region ?_
      obtain ⟨q16, h1⟩ := need_elim h1
      refine AO.op rfl (AOp.iadd rfl rfl (ltb rfl) rfl rfl rfl q16.1 q16.2 ?_)
      refine AO.op rfl (AOp.move rfl rfl (ltb rfl) rfl ?_)
      refine AO.nil ?_
      exact ⟨(g4 + (1 : Int)), _, rfl, (LeL.refl _), rfl, rfl, h1⟩
    replace h1 := cF h1 q7
    refine AC.exit ?_
    obtain rfl := Option.some.inj h1
    exact ⟨(), _, rfl, (LeL.refl _), rfl, rfl, aftL h0⟩
  intro g3 h0
  unfold p_Within_k1 at h0
  change AC _ _ _ _
  refine AC.seq ?_
  refine AC.region ?_
  refine AO.op rfl (AOp.assign rfl rfl (ltb rfl) rfl ?_)
  refine AO.nil ?_
  change AC _ _ _ _
  refine AC.ret ?_
  change RetQ _ _ _ .ret _
  obtain rfl := Option.some.inj h0
  refine retq rfl rfl

set_option maxRecDepth 100000 in
set_option maxHeartbeats 1000000 in
/-- pub-orthodrome/spec.LeastBox -/
theorem w_LeastBox (F : Nat) (a0 : (List (List Nat))) (r0 : ((List Nat) × (List Nat))) (h0 : p_LeastBox F a0 = some r0) : FnD Try.prog 16 [eS1 a0] (fun r => r = .tu [eS0 r0.1, eS0 r0.2]) := by
  refine FnD.of (by kernel_rfl) Try.func16 rfl Try.ntmps16 rfl (leb rfl) fun W ok => ?_
  unfold p_LeastBox at h0
  refine AC.seq ?_
  refine AC.region ?_
  refine AO.op rfl (AOp.assign rfl rfl (ltb rfl) rfl ?_)
  refine AO.op rfl (AOp.assign rfl rfl (ltb rfl) rfl ?_)
  refine AO.nil ?_
  change AC _ _ _ _
  refine AC.seq ?_
  refine AC.seq ?_
  refine AC.region ?_
  refine AO.op rfl (AOp.move rfl rfl (ltb rfl) rfl ?_)
  refine AO.op rfl (AOp.lenDs (n := a0.length) (cells := (List.map keS1 a0)) rfl rfl (ltb rfl) rfl el27 (by decide) (len1 _ _) ?_)
  refine AO.op rfl (AOp.move rfl rfl (ltb rfl) rfl ?_)
  refine AO.nil ?_
  change AC _ _ _ _
  refine AC.adopt 2 51 1 rfl ?_
  refine AC.adopt 3 51 1 rfl ?_
  obtain ⟨o1, l2, h0⟩ := bind_elim h0
  refine AC.joinE (V := ((List Nat) × (List Nat))) [] [2, 3] 2 (fun g3 => [(2, .own 0), (3, .own 1)]) (fun g3 => [.grow 51 1 (List.map keS0 g3.1), .grow 51 1 (List.map keS0 g3.2)]) (fun g3 => p_LeastBox_k1 g3 = some r0) rfl ?_ ?_
  · refine AC.block ?_
    refine AC.loopP (V := (Int × (List Nat) × (List Nat))) (p_LeastBox_l2 a0 F) o1 [8, 9] [2, 3, 10] 2 (fun g4 => [(2, .own 0), (3, .own 1), (10, .d (di .i64 g4.1))]) (fun g4 => [.grow 51 1 (List.map keS0 g4.2.1), .grow 51 1 (List.map keS0 g4.2.2)]) F ((0 : Int), [], []) l2 rfl rfl (LeL.refl _) rfl rfl ?_
    intro n6 g4 h1
    unfold p_LeastBox_l2 at h1
    refine AC.seq ?_
    refine AC.region ?_
    refine AO.op rfl (AOp.ilss rfl rfl (ltb rfl) rfl rfl ?_)
    refine AO.nil ?_
    change AC _ _ _ _
    refine AC.seq ?_
    refine AC.cond rfl (fun q7 => ?_) (fun q7 => ?_)
    · replace h1 := cT h1 q7
      refine AC.skip ?_
      change AC _ _ _ _
      refine AC.seq ?_
      refine AC.block ?_
      refine AC.seq ?_
      refine AC.region ?_
      refine AO.op rfl (AOp.move rfl rfl (ltb rfl) rfl ?_)
      obtain ⟨x8, q9, h1⟩ := idx_elim h1
      refine AO.op rfl (AOp.indexDs (cells := (List.map keS1 a0)) rfl rfl (ltb rfl) rfl rfl el27 (by decide) q9.1 (lt1 q9.2) ?_)
      refine AO.op rfl (AOp.loadEp rfl rfl (ltb rfl) rfl agg23 (at1 q9.2) ?_)
      refine AO.op rfl (AOp.assign rfl rfl (ltb rfl) rfl ?_)
      refine AO.op rfl (AOp.assign rfl rfl (ltb rfl) rfl ?_)
      refine AO.nil ?_
      change AC _ _ _ _
      refine AC.joinP (V := ((List Nat) × (List Nat))) [5, 8, 9, 10] [2, 3] 2 (fun g10 => [(2, .own 0), (3, .own 1)]) (fun g10 => [.grow 51 1 (List.map keS0 g10.1), .grow 51 1 (List.map keS0 g10.2)]) (fun g10 => (p_LeastBox_k3 F g4 (iter (p_LeastBox_l2 a0 F) n6) x8) g10 = some o1) rfl ?_ ?_
      · refine AC.seq ?_
        refine AC.region ?_
        refine AO.op rfl (AOp.move rfl rfl (ltb rfl) rfl ?_)
        refine AO.op rfl (AOp.ieql rfl rfl (ltb rfl) rfl rfl ?_)
        refine AO.nil ?_
        change AC _ _ _ _
        refine AC.cond rfl (fun q34 => ?_) (fun q34 => ?_)
        · replace h1 := cT h1 q34
          refine AC.region ?_
          refine AO.op rfl (AOp.move rfl rfl (ltb rfl) rfl ?_)
          refine AO.op rfl (AOp.move rfl rfl (ltb rfl) rfl ?_)
          obtain ⟨q35, h1⟩ := need_elim h1
          refine AO.op rfl (AOp.appendOwn' (n := g4.2.1.length) (m := x8.length) (news := (List.map keS0 x8)) rfl rfl (ltb rfl) rfl rfl el23 info51 rfl (by decide) rfl (len1 _ _) (len1 _ _) (one1 _ (fun _ => rfl) _) q35 (by decide) rfl rfl (cat1 _ _ _) ?_)
          refine AO.op rfl (AOp.move rfl rfl (ltb rfl) rfl ?_)
          refine AO.op rfl (AOp.move rfl rfl (ltb rfl) rfl ?_)
          obtain ⟨q36, h1⟩ := need_elim h1
          refine AO.op rfl (AOp.appendOwn' (n := g4.2.2.length) (m := x8.length) (news := (List.map keS0 x8)) rfl rfl (ltb rfl) rfl rfl el23 info51 rfl (by decide) rfl (len1 _ _) (len1 _ _) (one1 _ (fun _ => rfl) _) q36 (by decide) rfl rfl (cat1 _ _ _) ?_)
          refine AO.op rfl (AOp.assign rfl rfl (ltb rfl) rfl ?_)
          refine AO.op rfl (AOp.assign rfl rfl (ltb rfl) rfl ?_)
          refine AO.nil ?_
          exact ⟨((g4.2.1 ++ x8), (g4.2.2 ++ x8)), _, rfl, (LeL.refl _), rfl, rfl, h1⟩
        replace h1 := cF h1 q34
        refine AC.skip ?_
        exact ⟨(g4.2.1, g4.2.2), _, rfl, (LeL.refl _), rfl, rfl, h1⟩
      intro g10 h1
      unfold p_LeastBox_k3 at h1
      refine AC.seq ?_
      refine AC.region ?_
      refine AO.op rfl (AOp.move rfl rfl (ltb rfl) rfl ?_)
      refine AO.op rfl (AOp.lenDs (n := x8.length) (cells := (List.map keS0 x8)) rfl rfl (ltb rfl) rfl el23 (by decide) (len1 _ _) ?_)
      refine AO.op rfl (AOp.move rfl rfl (ltb rfl) rfl ?_)
      refine AO.nil ?_
      change AC _ _ _ _
      obtain ⟨o11, l12, h1⟩ := bind_elim h1
      refine AC.joinE (V := ((List Nat) × (List Nat))) [2, 3, 8, 9, 10] [] 2 (fun g13 => []) (fun g13 => [.grow 51 1 (List.map keS0 g13.1), .grow 51 1 (List.map keS0 g13.2)]) (fun g13 => (p_LeastBox_k4 g4 (iter (p_LeastBox_l2 a0 F) n6)) g13 = some o1) rfl ?_ ?_
      · refine AC.block ?_
        refine AC.loopP (V := (Int × (List Nat) × (List Nat))) (p_LeastBox_l5 x8) o11 [2, 3, 8, 9, 10, 23, 24] [25] 2 (fun g15 => [(25, .d (di .i64 g15.1))]) (fun g15 => [.grow 51 1 (List.map keS0 g15.2.1), .grow 51 1 (List.map keS0 g15.2.2)]) F ((0 : Int), g10.1, g10.2) l12 rfl rfl (LeL.refl _) rfl rfl ?_
        intro n17 g15 h2
        unfold p_LeastBox_l5 at h2
        refine AC.seq ?_
        refine AC.region ?_
        refine AO.op rfl (AOp.ilss rfl rfl (ltb rfl) rfl rfl ?_)
        refine AO.nil ?_
        change AC _ _ _ _
        refine AC.seq ?_
        refine AC.cond rfl (fun q18 => ?_) (fun q18 => ?_)
        · replace h2 := cT h2 q18
          refine AC.skip ?_
          change AC _ _ _ _
          refine AC.seq ?_
          refine AC.block ?_
          refine AC.seq ?_
          refine AC.region ?_
          refine AO.op rfl (AOp.move rfl rfl (ltb rfl) rfl ?_)
          obtain ⟨x19, q20, h2⟩ := idx_elim h2
          refine AO.op rfl (AOp.indexDs (cells := (List.map keS0 x8)) rfl rfl (ltb rfl) rfl rfl el23 (by decide) q20.1 (lt1 q20.2) ?_)
          refine AO.op rfl (AOp.loadEp rfl rfl (ltb rfl) rfl agg51 (at1 q20.2) ?_)
          refine AO.op rfl (AOp.assign rfl rfl (ltb rfl) rfl ?_)
          refine AO.op rfl (AOp.assign rfl rfl (ltb rfl) rfl ?_)
          refine AO.nil ?_
          change AC _ _ _ _
          obtain ⟨q21, h2⟩ := need_elim h2
          obtain ⟨x22, q23, h2⟩ := idx_elim h2
          obtain ⟨q24, h2⟩ := need_elim h2
          obtain ⟨q25, h2⟩ := need_elim h2
          obtain ⟨x26, q27, h2⟩ := idx_elim h2
          obtain ⟨q28, h2⟩ := need_elim h2
          obtain ⟨q29, h2⟩ := need_elim h2
          obtain ⟨q30, h2⟩ := need_elim h2
          refine AC.drawS [0, 1, 2, 3, 4, 5, 6, 7, 8, 9, 10, 11, 12, 13, 14, 15, 16, 17] [17] [18, 19] (fun L => [bif L 17 then .grow 51 1 (List.map keS0 (g15.2.1.set (g15.1).toNat (bmin x22 x19))) else .grow 51 1 (List.map keS0 g15.2.1), .grow 51 1 (List.map keS0 g15.2.2)]) [(17, (fun _ => true))] mixed (by kernel_rfl) (fun L L' h => by simp only [h 17 (by decide)]) rfl ?_
          refine AS.op [2] [] [17] [] rfl rfl rfl (by kernel_rfl) (by kernel_rfl) rfl rfl (fun _ _ _ h => AOp.move rfl rfl (ltb rfl) rfl h) (by kernel_rfl) ?_
          refine AS.op [6] [] [17] [] rfl rfl rfl (by kernel_rfl) (by kernel_rfl) rfl rfl (fun _ _ _ h => AOp.move rfl rfl (ltb rfl) rfl h) (by kernel_rfl) ?_
          refine AS.op [3] [] [] [17] rfl rfl rfl (by kernel_rfl) (by kernel_rfl) rfl rfl (fun _ _ _ h => AOp.move rfl rfl (ltb rfl) rfl h) (by kernel_rfl) ?_
          refine AS.op [6] [] [] [17] rfl rfl rfl (by kernel_rfl) (by kernel_rfl) rfl rfl (fun _ _ _ h => AOp.move rfl rfl (ltb rfl) rfl h) (by kernel_rfl) ?_
          refine AS.op [2] [] [17] [] rfl rfl rfl (by kernel_rfl) (by kernel_rfl) rfl rfl (fun _ _ _ h => AOp.move rfl rfl (ltb rfl) rfl h) (by kernel_rfl) ?_
          refine AS.op [6] [] [17] [] rfl rfl rfl (by kernel_rfl) (by kernel_rfl) rfl rfl (fun _ _ _ h => AOp.move rfl rfl (ltb rfl) rfl h) (by kernel_rfl) ?_
          refine AS.op [34, 35] [] [17] [] rfl rfl rfl (by kernel_rfl) (by kernel_rfl) rfl rfl (fun _ _ _ h => AOp.indexOwn (cells := (List.map keS0 g15.2.1)) (n := g15.2.1.length) rfl rfl (ltb rfl) rfl rfl el23 rfl (by decide) (len1 _ _) q21.1 q21.2 h) (by kernel_rfl) ?_
          refine AS.op [36] [] [17] [] rfl rfl rfl (by kernel_rfl) (by kernel_rfl) rfl rfl (fun _ _ _ h => AOp.loadO1 rfl rfl (ltb rfl) rfl agg51 rfl (at1 q23.2) h) (by kernel_rfl) ?_
          refine AS.op [7] [] [17] [] rfl rfl rfl (by kernel_rfl) (by kernel_rfl) rfl rfl (fun _ _ _ h => AOp.move rfl rfl (ltb rfl) rfl h) (by kernel_rfl) ?_
          refine AS.op [37, 38] [] [17] [] rfl rfl rfl (by kernel_rfl) (by kernel_rfl) rfl rfl (fun _ _ _ h => AOp.fmin rfl rfl (ltb rfl) rfl rfl q24 h) (by kernel_rfl) ?_
          refine AS.op [3] [] [17] [] rfl rfl rfl (by kernel_rfl) (by kernel_rfl) rfl rfl (fun _ _ _ h => AOp.move rfl rfl (ltb rfl) rfl h) (by kernel_rfl) ?_
          refine AS.op [6] [] [17] [] rfl rfl rfl (by kernel_rfl) (by kernel_rfl) rfl rfl (fun _ _ _ h => AOp.move rfl rfl (ltb rfl) rfl h) (by kernel_rfl) ?_
          refine AS.op [40, 41] [] [17] [] rfl rfl rfl (by kernel_rfl) (by kernel_rfl) rfl rfl (fun _ _ _ h => AOp.indexOwn (cells := (List.map keS0 g15.2.2)) (n := g15.2.2.length) rfl rfl (ltb rfl) rfl rfl el23 rfl (by decide) (len1 _ _) q25.1 q25.2 h) (by kernel_rfl) ?_
          refine AS.op [42] [] [17] [] rfl rfl rfl (by kernel_rfl) (by kernel_rfl) rfl rfl (fun _ _ _ h => AOp.loadO1 rfl rfl (ltb rfl) rfl agg51 rfl (at1 q27.2) h) (by kernel_rfl) ?_
          refine AS.op [7] [] [] [17] rfl rfl rfl (by kernel_rfl) (by kernel_rfl) rfl rfl (fun _ _ _ h => AOp.move rfl rfl (ltb rfl) rfl h) (by kernel_rfl) ?_
          refine AS.op [43, 44] [] [] [17] rfl rfl rfl (by kernel_rfl) (by kernel_rfl) rfl rfl (fun _ _ _ h => AOp.fmax rfl rfl (ltb rfl) rfl rfl q28 h) (by kernel_rfl) ?_
          refine AS.op [30, 31] [] [17] [] rfl rfl rfl (by kernel_rfl) (by kernel_rfl) rfl rfl (fun _ _ _ h => AOp.indexOwn (cells := (List.map keS0 g15.2.1)) (n := g15.2.1.length) rfl rfl (ltb rfl) rfl rfl el23 rfl (by decide) (len1 _ _) q29.1 q29.2 h) (by kernel_rfl) ?_
          refine AS.mid0 [39, 46] [] [17] [] rfl rfl rfl rfl (by kernel_rfl) (by kernel_rfl) rfl rfl (fun _ _ _ h => AOp.storeOL (f := keS0) (l := g15.2.1) (i := (g15.1).toNat) (v := (bmin x22 x19)) rfl rfl rfl rfl size51 rfl rfl rfl q30 (AO.dropT h)) (by kernel_rfl) rfl ?_
          refine AS.done ?_
          refine AO.objs (obs' := [.grow 51 1 (List.map keS0 (g15.2.1.set (g15.1).toNat (bmin x22 x19))), .grow 51 1 (List.map keS0 g15.2.2)]) rfl ?_
          obtain ⟨q31, h2⟩ := need_elim h2
          refine AO.op rfl (AOp.indexOwn (cells := (List.map keS0 g15.2.2)) (n := g15.2.2.length) rfl rfl (ltb rfl) rfl rfl el23 rfl (by decide) (len1 _ _) q31.1 q31.2 ?_)
          obtain ⟨q32, h2⟩ := need_elim h2
          refine AO.op rfl (AOp.storeOL (f := keS0) (l := g15.2.2) (i := (g15.1).toNat) (v := (bmax x26 x19)) rfl rfl rfl rfl size51 rfl rfl rfl q32 ?_)
          refine AO.nil ?_
          change AC _ _ _ _
          refine AC.region ?_
          obtain ⟨q33, h2⟩ := need_elim h2
          refine AO.op rfl (AOp.iadd rfl rfl (ltb rfl) rfl rfl rfl q33.1 q33.2 ?_)
          refine AO.op rfl (AOp.move rfl rfl (ltb rfl) rfl ?_)
          refine AO.nil ?_
          exact ⟨((g15.1 + (1 : Int)), (g15.2.1.set (g15.1).toNat (bmin x22 x19)), (g15.2.2.set (g15.1).toNat (bmax x26 x19))), _, rfl, (LeL.refl _), rfl, rfl, h2⟩
        replace h2 := cF h2 q18
        refine AC.exit ?_
        obtain rfl := Option.some.inj h2
        exact ⟨(g15.2.1, g15.2.2), _, rfl, (LeL.refl _), rfl, rfl, aftL h1⟩
      intro g13 h1
      unfold p_LeastBox_k4 at h1
      change AC _ _ _ _
      refine AC.region ?_
      obtain ⟨q14, h1⟩ := need_elim h1
      refine AO.op rfl (AOp.iadd rfl rfl (ltb rfl) rfl rfl rfl q14.1 q14.2 ?_)
      refine AO.op rfl (AOp.move rfl rfl (ltb rfl) rfl ?_)
      refine AO.nil ?_
      exact ⟨((g4.1 + (1 : Int)), g13.1, g13.2), _, rfl, (LeL.refl _), rfl, rfl, h1⟩
    replace h1 := cF h1 q7
    refine AC.exit ?_
    obtain rfl := Option.some.inj h1
    exact ⟨(g4.2.1, g4.2.2), _, rfl, (LeL.refl _), rfl, rfl, aftL h0⟩
  intro g3 h0
  unfold p_LeastBox_k1 at h0
  change AC _ _ _ _
  refine AC.seq ?_
  refine AC.region ?_
  refine AO.op rfl (AOp.move rfl rfl (ltb rfl) rfl ?_)
  refine AO.op rfl (AOp.move rfl rfl (ltb rfl) rfl ?_)
  refine AO.op rfl (AOp.assign rfl rfl (ltb rfl) rfl ?_)
  refine AO.op rfl (AOp.assign rfl rfl (ltb rfl) rfl ?_)
  refine AO.nil ?_
  change AC _ _ _ _
  refine AC.ret ?_
  change RetQ _ _ _ .ret _
  obtain rfl := Option.some.inj h0
  refine retq rfl rfl

theorem callAMin (x y : Nat) (w : World) : (callFunc 101 #[.float .f64 x, .float .f64 y]).run Try.prog w = .ok (.value (.float .f64 (Flt.amin x y))) w := by
  rw [run_callFunc_extern Try.func101 (by kernel_rfl) (by kernel_rfl) (by kernel_rfl) (e := Extern.MathDim.pick "math.archMin" true .lt) (by kernel_rfl), Flt.run_archMin Try.prog x y]
  rfl

set_option maxRecDepth 100000 in
/-- math.Min -/
theorem mathMin (x y : Nat) : FnD Try.prog 78 [dfl x, dfl y] (fun r => r = dfl (Flt.amin x y)) := by
  refine FnD.of (by kernel_rfl) Try.func78 rfl Try.ntmps78 rfl (leb rfl) fun W ok => ?_
  refine AC.seq ?_
  refine AC.region ?_
  refine AO.op rfl (AOp.assign rfl rfl (ltb rfl) rfl ?_)
  refine AO.nil ?_
  change AC _ _ _ _
  refine AC.seq ?_
  refine AC.condT rfl rfl ?_
  refine AC.seq ?_
  refine AC.region ?_
  refine AO.op rfl (AOp.move rfl rfl (ltb rfl) rfl ?_)
  refine AO.op rfl (AOp.move rfl rfl (ltb rfl) rfl ?_)
  refine AO.op rfl (AOp.callX [.float .f64 x, .float .f64 y] rfl rfl (ltb rfl) rfl (callAMin x y) ?_)
  refine AO.op rfl (AOp.assign rfl rfl (ltb rfl) rfl ?_)
  refine AO.nil ?_
  change AC _ _ _ _
  refine AC.ret ?_
  change RetQ _ _ _ .ret _
  refine retq rfl ?_
  exact rfl

theorem callAMax (x y : Nat) (w : World) : (callFunc 103 #[.float .f64 x, .float .f64 y]).run Try.prog w = .ok (.value (.float .f64 (Flt.amax x y))) w := by
  rw [run_callFunc_extern Try.func103 (by kernel_rfl) (by kernel_rfl) (by kernel_rfl) (e := Extern.MathDim.pick "math.archMax" false .gt) (by kernel_rfl), Flt.run_archMax Try.prog x y]
  rfl

set_option maxRecDepth 100000 in
/-- math.Max -/
theorem mathMax (x y : Nat) : FnD Try.prog 79 [dfl x, dfl y] (fun r => r = dfl (Flt.amax x y)) := by
  refine FnD.of (by kernel_rfl) Try.func79 rfl Try.ntmps79 rfl (leb rfl) fun W ok => ?_
  refine AC.seq ?_
  refine AC.region ?_
  refine AO.op rfl (AOp.assign rfl rfl (ltb rfl) rfl ?_)
  refine AO.nil ?_
  change AC _ _ _ _
  refine AC.seq ?_
  refine AC.condT rfl rfl ?_
  refine AC.seq ?_
  refine AC.region ?_
  refine AO.op rfl (AOp.move rfl rfl (ltb rfl) rfl ?_)
  refine AO.op rfl (AOp.move rfl rfl (ltb rfl) rfl ?_)
  refine AO.op rfl (AOp.callX [.float .f64 x, .float .f64 y] rfl rfl (ltb rfl) rfl (callAMax x y) ?_)
  refine AO.op rfl (AOp.assign rfl rfl (ltb rfl) rfl ?_)
  refine AO.nil ?_
  change AC _ _ _ _
  refine AC.ret ?_
  change RetQ _ _ _ .ret _
  refine retq rfl ?_
  exact rfl

set_option maxRecDepth 100000 in
set_option maxHeartbeats 1000000 in
/-- pub-orthodrome/impl.floats -/
theorem w_floats (a0 : (List Nat)) (r0 : (List Nat)) (h0 : p_floats a0 = some r0) : FnD Try.prog 40 [eS0 a0] (fun r => r = eS0 r0) := by
  refine FnD.of (by kernel_rfl) Try.func40 rfl Try.ntmps40 rfl (leb rfl) fun W ok => ?_
  unfold p_floats at h0
  refine AC.seq ?_
  refine AC.region ?_
  refine AO.op rfl (AOp.assign rfl rfl (ltb rfl) rfl ?_)
  refine AO.nil ?_
  change AC _ _ _ _
  refine AC.seq ?_
  refine AC.region ?_
  refine AO.op rfl (AOp.move rfl rfl (ltb rfl) rfl ?_)
  obtain ⟨q1, h0⟩ := need_elim h0
  refine AO.op rfl (AOp.appendNil (m := a0.length) (news := (List.map keS0 a0)) rfl rfl (ltb rfl) rfl rfl el23 info51 rfl (by decide) (len1 _ _) (one1 _ (fun _ => rfl) _) (small63 q1) (small q1 (by decide)) ?_)
  refine AO.op rfl (AOp.assign rfl rfl (ltb rfl) rfl ?_)
  refine AO.nil ?_
  change AC _ _ _ _
  refine AC.ret ?_
  change RetQ _ _ _ .ret _
  obtain rfl := Option.some.inj h0
  refine retq rfl rfl

set_option maxRecDepth 100000 in
/-- pub-orthodrome/impl.floats: a new slice -/
theorem wn_floats (a0 : (List Nat)) (r0 : (List Nat)) (h0 : p_floats a0 = some r0) : FnN Try.prog 40 [eS0 a0] 51 1 (fun r => r = (List.map keS0 r0)) := by
  refine FnN.of (by kernel_rfl) Try.func40 rfl Try.ntmps40 rfl (leb rfl) fun W ok => ?_
  unfold p_floats at h0
  refine AC.seq ?_
  refine AC.region ?_
  refine AO.op rfl (AOp.assign rfl rfl (ltb rfl) rfl ?_)
  refine AO.nil ?_
  change AC _ _ _ _
  refine AC.seq ?_
  refine AC.region ?_
  refine AO.op rfl (AOp.move rfl rfl (ltb rfl) rfl ?_)
  obtain ⟨q1, h0⟩ := need_elim h0
  refine AO.op rfl (AOp.appendNew (m := a0.length) (news := (List.map keS0 a0)) rfl rfl (ltb rfl) rfl rfl el23 info51 rfl (by decide) (len1 _ _) (one1 _ (fun _ => rfl) _) (small63 q1) (small q1 (by decide)) ?_)
  refine AO.op rfl (AOp.assign rfl rfl (ltb rfl) rfl ?_)
  refine AO.nil ?_
  change AC _ _ _ _
  refine AC.ret ?_
  change RetN _ _ _ _ .ret _
  obtain rfl := Option.some.inj h0
  exact ⟨_, _, _, rfl, rfl, rfl, isV_map (fun _ => rfl) _, rfl⟩

set_option maxRecDepth 100000 in
set_option maxHeartbeats 1000000 in
/-- pub-orthodrome/impl.KExtend -/
theorem w_KExtend (F : Nat) (a0 : (List Nat)) (a1 : (List Nat)) (a2 : (List Nat)) (r0 : ((List Nat) × (List Nat) × Bool)) (h0 : p_KExtend F a0 a1 a2 = some r0) : FnD Try.prog 17 [eS0 a0, eS0 a1, eS0 a2] (fun r => r = .tu [eS0 r0.1, eS0 r0.2.1, dbool r0.2.2]) := by
  refine FnD.wrap (g := 41) (m := 3) (fun vs w h => idle41 vs w h) (by kernel_rfl) Try.func17 rfl Try.ntmps17 rfl (leb rfl) fun W ok => ?_
  unfold p_KExtend at h0
  refine AW.seq ?_
  refine AC.region ?_
  refine AO.op rfl (AOp.alloc rfl rfl (ltb rfl) zero23 rfl ?_)
  refine AO.op rfl (AOp.alloc rfl rfl (ltb rfl) zero23 rfl ?_)
  refine AO.op rfl (AOp.alloc rfl rfl (ltb rfl) zero4 rfl ?_)
  refine AO.nil ?_
  refine ⟨rfl, ?_⟩
  refine AW.defer (caps := [.tmp 6, .tmp 7, .tmp 8]) rfl rfl rfl (ltb rfl) rfl rfl rfl rfl (by kernel_rfl) rfl fun df => ?_
  refine AC.seq ?_
  refine AC.region ?_
  refine AO.op rfl (AOp.move rfl rfl (ltb rfl) rfl ?_)
  refine AO.op rfl (AOp.move rfl rfl (ltb rfl) rfl ?_)
  refine AO.op rfl (AOp.move rfl rfl (ltb rfl) rfl ?_)
  refine AO.op rfl (AOp.inl [6, 7, 8, 11] (by kernel_rfl) Try.func43 rfl Try.ntmps43 rfl rfl (ltb rfl) rfl (leb rfl) rfl ?_)
  intro fr1
  refine AC.seq ?_
  refine AC.region ?_
  refine AO.op rfl (AOp.assign rfl rfl (ltb rfl) rfl ?_)
  refine AO.nil ?_
  change AC _ _ _ _
  refine AC.seq ?_
  refine AC.seq ?_
  refine AC.region ?_
  refine AO.op rfl (AOp.move rfl rfl (ltb rfl) rfl ?_)
  refine AO.op rfl (AOp.lenDs (n := a0.length) (cells := (List.map keS0 a0)) rfl rfl (ltb rfl) rfl el23 (by decide) (len1 _ _) ?_)
  refine AO.op rfl (AOp.ieql rfl rfl (ltb rfl) rfl rfl ?_)
  refine AO.nil ?_
  change AC _ _ _ _
  refine AC.cond rfl (fun q2 => ?_) (fun q2 => ?_)
  · replace h0 := cT h0 q2
    refine AC.seq ?_
    refine AC.region ?_
    refine AO.op rfl (AOp.assign rfl rfl (ltb rfl) rfl ?_)
    refine AO.nil ?_
    change AC _ _ _ _
    refine AC.ret ?_
    refine inlret (ob' := [.fix 23 [.d (.v (.slice none 0 0))], .fix 23 [.d (.v (.slice none 0 0))], .fix 4 [.d (dbool false)], .dead]) (e' := [(6, .ptr 0 0), (7, .ptr 1 0), (8, .ptr 2 0), (11, .d (eS0 a2))]) (r := .d (.v (.pointer none))) rfl rfl rfl ?_
    change AO _ _ _ _ _
    refine AO.op rfl (AOp.inl [6, 7, 8] (by kernel_rfl) Try.func42 rfl Try.ntmps42 rfl rfl (ltb rfl) rfl (leb rfl) rfl ?_)
    intro fr3
    refine AC.seq ?_
    refine AC.region ?_
    refine AO.op rfl (AOp.assign rfl rfl (ltb rfl) rfl ?_)
    refine AO.nil ?_
    change AC _ _ _ _
    refine AC.seq ?_
    refine AC.seq ?_
    refine AC.region ?_
    refine AO.op rfl (AOp.move rfl rfl (ltb rfl) rfl ?_)
    refine AO.op rfl (AOp.ptrNilEql rfl rfl (ltb rfl) rfl rfl pmeth72 ?_)
    refine AO.nil ?_
    change AC _ _ _ _
    refine AC.condT rfl rfl ?_
    refine AC.region ?_
    refine AO.op rfl (AOp.move rfl rfl (ltb rfl) rfl ?_)
    obtain ⟨q4, h0⟩ := need_elim h0
    refine AO.op rfl (AOp.appendNew (m := a2.length) (news := (List.map keS0 a2)) rfl rfl (ltb rfl) rfl rfl el73 info51 rfl (by decide) (len1 _ _) (one1 _ (fun _ => rfl) _) (small63 q4) (small q4 (by decide)) ?_)
    refine AO.op rfl (AOp.makeIfc rfl rfl (ltb rfl) rfl conc73 ?_)
    refine AO.op rfl (AOp.move rfl rfl (ltb rfl) rfl ?_)
    obtain ⟨q5, h0⟩ := need_elim h0
    refine AO.op rfl (AOp.appendNew (m := a2.length) (news := (List.map keS0 a2)) rfl rfl (ltb rfl) rfl rfl el73 info51 rfl (by decide) (len1 _ _) (one1 _ (fun _ => rfl) _) (small63 q5) (small q5 (by decide)) ?_)
    refine AO.op rfl (AOp.makeIfc rfl rfl (ltb rfl) rfl conc73 ?_)
    refine AO.op rfl (AOp.build rfl rfl (ltb rfl) zero77 rfl places77 rfl rfl ?_)
    refine AO.op rfl (AOp.box rfl rfl (ltb rfl) rfl rfl ?_)
    refine AO.op rfl (AOp.assign rfl rfl (ltb rfl) rfl ?_)
    refine AO.nil ?_
    change AC _ _ _ _
    refine AC.seq ?_
    refine AC.region ?_
    refine AO.op rfl (AOp.move rfl rfl (ltb rfl) rfl ?_)
    refine AO.op rfl (AOp.nilCheck rfl rfl (ltb rfl) rfl rfl ?_)
    refine AO.op rfl (AOp.fieldAddr rfl rfl (ltb rfl) rfl fo77_0 ?_)
    refine AO.op rfl (AOp.load1 rfl rfl (ltb rfl) rfl agg75 rfl rfl ?_)
    refine AO.op rfl (AOp.assertYes rfl rfl (ltb rfl) rfl rfl pass73_73 rfl ?_)
    refine AO.op rfl (AOp.assign rfl rfl (ltb rfl) rfl ?_)
    refine AO.nil ?_
    change AC _ _ _ _
    refine AC.seq ?_
    refine AC.region ?_
    refine AO.op rfl (AOp.move rfl rfl (ltb rfl) rfl ?_)
    refine AO.op rfl (AOp.nilCheck rfl rfl (ltb rfl) rfl rfl ?_)
    refine AO.op rfl (AOp.fieldAddr rfl rfl (ltb rfl) rfl fo77_1 ?_)
    refine AO.op rfl (AOp.load1 rfl rfl (ltb rfl) rfl agg75 rfl rfl ?_)
    refine AO.op rfl (AOp.assertYes rfl rfl (ltb rfl) rfl rfl pass73_73 rfl ?_)
    refine AO.op rfl (AOp.assign rfl rfl (ltb rfl) rfl ?_)
    refine AO.nil ?_
    change AC _ _ _ _
    refine AC.seq ?_
    refine AC.seq ?_
    refine AC.region ?_
    refine AO.op rfl (AOp.move rfl rfl (ltb rfl) rfl ?_)
    refine AO.op rfl (AOp.lenDs (n := a2.length) (cells := (List.map keS0 a2)) rfl rfl (ltb rfl) rfl el73 (by decide) (len1 _ _) ?_)
    refine AO.op rfl (AOp.move rfl rfl (ltb rfl) rfl ?_)
    refine AO.nil ?_
    change AC _ _ _ _
    obtain ⟨o6, l7, h0⟩ := bind_elim h0
    refine AC.joinE (V := ((List Nat) × (List Nat))) [1, 5, 6] [] 8 (fun g8 => []) (fun g8 => [.fix 23 [.d (.v (.slice none 0 0))], .fix 23 [.d (.v (.slice none 0 0))], .fix 4 [.d (dbool false)], .dead, .frame fr3 [(6, .ptr 0 0), (7, .ptr 1 0), (8, .ptr 2 0)], .grow 51 1 (List.map keS0 g8.1), .grow 51 1 (List.map keS0 g8.2), .fix 77 [.ifc 73 (.own 5), .ifc 73 (.own 6)]]) (fun g8 => p_KExtend_k1 g8 = some r0) rfl ?_ ?_
    · refine AC.block ?_
      refine AC.loopP (V := (Int × (List Nat) × (List Nat))) (p_KExtend_l2 a2) o6 [1, 5, 6, 29, 30] [31] 8 (fun g13 => [(31, .d (di .i64 g13.1))]) (fun g13 => [.fix 23 [.d (.v (.slice none 0 0))], .fix 23 [.d (.v (.slice none 0 0))], .fix 4 [.d (dbool false)], .dead, .frame fr3 [(6, .ptr 0 0), (7, .ptr 1 0), (8, .ptr 2 0)], .grow 51 1 (List.map keS0 g13.2.1), .grow 51 1 (List.map keS0 g13.2.2), .fix 77 [.ifc 73 (.own 5), .ifc 73 (.own 6)]]) F ((0 : Int), a2, a2) l7 rfl rfl (LeL.refl _) rfl rfl ?_
      intro n15 g13 h1
      unfold p_KExtend_l2 at h1
      refine AC.seq ?_
      refine AC.region ?_
      refine AO.op rfl (AOp.ilss rfl rfl (ltb rfl) rfl rfl ?_)
      refine AO.nil ?_
      change AC _ _ _ _
      refine AC.seq ?_
      refine AC.cond rfl (fun q16 => ?_) (fun q16 => ?_)
      · replace h1 := cT h1 q16
        refine AC.skip ?_
        change AC _ _ _ _
        refine AC.seq ?_
        refine AC.block ?_
        refine AC.seq ?_
        refine AC.region ?_
        refine AO.op rfl (AOp.move rfl rfl (ltb rfl) rfl ?_)
        obtain ⟨x17, q18, h1⟩ := idx_elim h1
        refine AO.op rfl (AOp.indexDs (cells := (List.map keS0 a2)) rfl rfl (ltb rfl) rfl rfl el73 (by decide) q18.1 (lt1 q18.2) ?_)
        refine AO.op rfl (AOp.loadEp rfl rfl (ltb rfl) rfl agg51 (at1 q18.2) ?_)
        refine AO.op rfl (AOp.assign rfl rfl (ltb rfl) rfl ?_)
        refine AO.op rfl (AOp.assign rfl rfl (ltb rfl) rfl ?_)
        refine AO.nil ?_
        change AC _ _ _ _
        refine AC.seq ?_
        refine AC.region ?_
        refine AO.op rfl (AOp.move rfl rfl (ltb rfl) rfl ?_)
        refine AO.op rfl (AOp.move rfl rfl (ltb rfl) rfl ?_)
        refine AO.op rfl (AOp.move rfl rfl (ltb rfl) rfl ?_)
        refine AO.op rfl (AOp.move rfl rfl (ltb rfl) rfl ?_)
        obtain ⟨q19, h1⟩ := need_elim h1
        refine AO.op rfl (AOp.indexOwn (cells := (List.map keS0 g13.2.1)) (n := g13.2.1.length) rfl rfl (ltb rfl) rfl rfl el73 rfl (by decide) (len1 _ _) q19.1 q19.2 ?_)
        obtain ⟨x20, q21, h1⟩ := idx_elim h1
        refine AO.op rfl (AOp.loadO1 rfl rfl (ltb rfl) rfl agg51 rfl (at1 q21.2) ?_)
        refine AO.op rfl (AOp.move rfl rfl (ltb rfl) rfl ?_)
        refine AO.op rfl (AOp.callD rfl rfl (ltb rfl) rfl rfl (mathMin x20 x17) ?_)
        rintro _ rfl
        obtain ⟨q22, h1⟩ := need_elim h1
        refine AO.op rfl (AOp.indexOwn (cells := (List.map keS0 g13.2.1)) (n := g13.2.1.length) rfl rfl (ltb rfl) rfl rfl el73 rfl (by decide) (len1 _ _) q22.1 q22.2 ?_)
        obtain ⟨q23, h1⟩ := need_elim h1
        refine AO.op rfl (AOp.storeOL (f := keS0) (l := g13.2.1) (i := (g13.1).toNat) (v := (Flt.amin x20 x17)) rfl rfl rfl rfl size51 rfl rfl rfl q23 ?_)
        refine AO.nil ?_
        change AC _ _ _ _
        refine AC.region ?_
        refine AO.op rfl (AOp.move rfl rfl (ltb rfl) rfl ?_)
        refine AO.op rfl (AOp.move rfl rfl (ltb rfl) rfl ?_)
        refine AO.op rfl (AOp.move rfl rfl (ltb rfl) rfl ?_)
        refine AO.op rfl (AOp.move rfl rfl (ltb rfl) rfl ?_)
        obtain ⟨q24, h1⟩ := need_elim h1
        refine AO.op rfl (AOp.indexOwn (cells := (List.map keS0 g13.2.2)) (n := g13.2.2.length) rfl rfl (ltb rfl) rfl rfl el73 rfl (by decide) (len1 _ _) q24.1 q24.2 ?_)
        obtain ⟨x25, q26, h1⟩ := idx_elim h1
        refine AO.op rfl (AOp.loadO1 rfl rfl (ltb rfl) rfl agg51 rfl (at1 q26.2) ?_)
        refine AO.op rfl (AOp.move rfl rfl (ltb rfl) rfl ?_)
        refine AO.op rfl (AOp.callD rfl rfl (ltb rfl) rfl rfl (mathMax x25 x17) ?_)
        rintro _ rfl
        obtain ⟨q27, h1⟩ := need_elim h1
        refine AO.op rfl (AOp.indexOwn (cells := (List.map keS0 g13.2.2)) (n := g13.2.2.length) rfl rfl (ltb rfl) rfl rfl el73 rfl (by decide) (len1 _ _) q27.1 q27.2 ?_)
        obtain ⟨q28, h1⟩ := need_elim h1
        refine AO.op rfl (AOp.storeOL (f := keS0) (l := g13.2.2) (i := (g13.1).toNat) (v := (Flt.amax x25 x17)) rfl rfl rfl rfl size51 rfl rfl rfl q28 ?_)
        refine AO.nil ?_
        change AC _ _ _ _
        refine AC.region ?_
        obtain ⟨q29, h1⟩ := need_elim h1
        refine AO.op rfl (AOp.iadd rfl rfl (ltb rfl) rfl rfl rfl q29.1 q29.2 ?_)
        refine AO.op rfl (AOp.move rfl rfl (ltb rfl) rfl ?_)
        refine AO.nil ?_
        exact ⟨((g13.1 + (1 : Int)), (g13.2.1.set (g13.1).toNat (Flt.amin x20 x17)), (g13.2.2.set (g13.1).toNat (Flt.amax x25 x17))), _, rfl, (LeL.refl _), rfl, rfl, h1⟩
      replace h1 := cF h1 q16
      refine AC.exit ?_
      obtain rfl := Option.some.inj h1
      exact ⟨(g13.2.1, g13.2.2), _, rfl, (LeL.refl _), rfl, rfl, aftL h0⟩
    intro g8 h0
    unfold p_KExtend_k1 at h0
    change AC _ _ _ _
    refine AC.seq ?_
    refine AC.region ?_
    refine AO.op rfl (AOp.move rfl rfl (ltb rfl) rfl ?_)
    refine AO.op rfl (AOp.move rfl rfl (ltb rfl) rfl ?_)
    refine AO.op rfl (AOp.makeIfc rfl rfl (ltb rfl) rfl conc73 ?_)
    refine AO.op rfl (AOp.move rfl rfl (ltb rfl) rfl ?_)
    refine AO.op rfl (AOp.makeIfc rfl rfl (ltb rfl) rfl conc73 ?_)
    refine AO.op rfl (AOp.build rfl rfl (ltb rfl) zero77 rfl places77 rfl rfl ?_)
    refine AO.op rfl (AOp.nilCheck rfl rfl (ltb rfl) rfl rfl ?_)
    refine AO.op rfl (AOp.store rfl rfl rfl rfl size77 rfl rfl rfl (leb rfl) ?_)
    refine AO.nil ?_
    change AC _ _ _ _
    refine AC.seq ?_
    refine AC.region ?_
    refine AO.op rfl (AOp.move rfl rfl (ltb rfl) rfl ?_)
    refine AO.op rfl (AOp.assign rfl rfl (ltb rfl) rfl ?_)
    refine AO.nil ?_
    change AC _ _ _ _
    refine AC.ret ?_
    refine inlret (ob' := [.fix 23 [.d (.v (.slice none 0 0))], .fix 23 [.d (.v (.slice none 0 0))], .fix 4 [.d (dbool false)], .dead, .dead, .grow 51 1 (List.map keS0 g8.1), .grow 51 1 (List.map keS0 g8.2), .fix 77 [.ifc 73 (.own 5), .ifc 73 (.own 6)]]) (e' := [(6, .ptr 0 0), (7, .ptr 1 0), (8, .ptr 2 0)]) (r := .ptr 7 0) rfl rfl rfl ?_
    change AO _ _ _ _ _
    refine AO.op rfl (AOp.assign rfl rfl (ltb rfl) rfl ?_)
    refine AO.nil ?_
    change AC _ _ _ _
    refine AC.seq ?_
    obtain ⟨y9, q10, h0⟩ := bind_elim h0
    refine AC.drawS [0, 1, 2, 3, 4, 5, 6, 7, 8, 9, 10] [5] [11, 12, 13, 14] (fun L => [.fix 23 [.d (.v (.slice none 0 0))], .fix 23 [.d (.v (.slice none 0 0))], .fix 4 [.d (dbool false)], .dead, .dead, bif L 5 then .dead else .grow 51 1 (List.map keS0 g8.1), .grow 51 1 (List.map keS0 g8.2), .fix 77 [.ifc 73 (.own 5), .ifc 73 (.own 6)]]) [(5, SV.noO 5)] mixed (by kernel_rfl) (fun L L' h => by simp only [h 5 (by decide)]) rfl ?_
    refine AS.op [9] [] [5] [] rfl rfl rfl (by kernel_rfl) (by kernel_rfl) rfl rfl (fun _ _ _ h => AOp.move rfl rfl (ltb rfl) rfl h) (by kernel_rfl) ?_
    refine AS.op [16] [] [5] [] rfl rfl rfl (by kernel_rfl) (by kernel_rfl) rfl rfl (fun _ _ _ h => AOp.nilCheck rfl rfl (ltb rfl) rfl rfl h) (by kernel_rfl) ?_
    refine AS.op [17] [] [5] [] rfl rfl rfl (by kernel_rfl) (by kernel_rfl) rfl rfl (fun _ _ _ h => AOp.fieldAddr rfl rfl (ltb rfl) rfl fo77_0 h) (by kernel_rfl) ?_
    refine AS.op [18] [] [5] [] rfl rfl rfl (by kernel_rfl) (by kernel_rfl) rfl rfl (fun _ _ _ h => AOp.load1 rfl rfl (ltb rfl) rfl agg75 rfl rfl h) (by kernel_rfl) ?_
    refine AS.op [19] [] [5] [] rfl rfl rfl (by kernel_rfl) (by kernel_rfl) rfl rfl (fun _ _ _ h => AOp.assertYes rfl rfl (ltb rfl) rfl rfl pass73_73 rfl h) (by kernel_rfl) ?_
    refine AS.mid [20] [] [5] [] rfl rfl rfl rfl (by kernel_rfl) (by kernel_rfl) rfl rfl (fun _ _ _ h => AOp.freezeDrop 20 5 rfl rfl rfl (AOp.callD rfl rfl (ltb rfl) rfl rfl (w_floats g8.1 y9 q10) (by rintro _ rfl; exact AO.forget1 (.inr trivial) h (.inl (dropped_none rfl rfl))))) (by kernel_rfl) rfl ?_
    refine AS.op [9] [] [] [5] rfl rfl rfl (by kernel_rfl) (by kernel_rfl) rfl rfl (fun _ _ _ h => AOp.move rfl rfl (ltb rfl) rfl h) (by kernel_rfl) ?_
    refine AS.op [22] [] [] [5] rfl rfl rfl (by kernel_rfl) (by kernel_rfl) rfl rfl (fun _ _ _ h => AOp.nilCheck rfl rfl (ltb rfl) rfl rfl h) (by kernel_rfl) ?_
    refine AS.op [23] [] [] [5] rfl rfl rfl (by kernel_rfl) (by kernel_rfl) rfl rfl (fun _ _ _ h => AOp.fieldAddr rfl rfl (ltb rfl) rfl fo77_1 h) (by kernel_rfl) ?_
    refine AS.op [24] [] [] [5] rfl rfl rfl (by kernel_rfl) (by kernel_rfl) rfl rfl (fun _ _ _ h => AOp.load1 rfl rfl (ltb rfl) rfl agg75 rfl rfl h) (by kernel_rfl) ?_
    refine AS.op [25] [] [] [5] rfl rfl rfl (by kernel_rfl) (by kernel_rfl) rfl rfl (fun _ _ _ h => AOp.assertYes rfl rfl (ltb rfl) rfl rfl pass73_73 rfl h) (by kernel_rfl) ?_
    refine AS.done ?_
    refine AO.objs (obs' := [.fix 23 [.d (.v (.slice none 0 0))], .fix 23 [.d (.v (.slice none 0 0))], .fix 4 [.d (dbool false)], .dead, .dead, .dead, .grow 51 1 (List.map keS0 g8.2), .fix 77 [.ifc 73 (.own 5), .ifc 73 (.own 6)]]) rfl ?_
    refine AO.freezeG 6 rfl rfl rfl ?_
    obtain ⟨y11, q12, h0⟩ := bind_elim h0
    refine AO.op rfl (AOp.callD rfl rfl (ltb rfl) rfl rfl (w_floats g8.2 y11 q12) ?_)
    rintro _ rfl
    refine AO.op rfl (AOp.store rfl rfl rfl rfl size23 rfl rfl rfl (leb rfl) ?_)
    refine AO.op rfl (AOp.store rfl rfl rfl rfl size23 rfl rfl rfl (leb rfl) ?_)
    refine AO.op rfl (AOp.store rfl rfl rfl rfl size4 rfl rfl rfl (leb rfl) ?_)
    refine AO.nil ?_
    change AC _ _ _ _
    refine AC.ret ?_
    change RetQ _ _ _ .ret _
    obtain rfl := Option.some.inj h0
    refine retq rfl rfl
  replace h0 := cF h0 q2
  refine AC.skip ?_
  change AC _ _ _ _
  refine AC.seq ?_
  refine AC.region ?_
  refine AO.op rfl (AOp.move rfl rfl (ltb rfl) rfl ?_)
  obtain ⟨y30, q31, h0⟩ := bind_elim h0
  refine AO.op rfl (AOp.callNew rfl rfl (ltb rfl) rfl rfl (wn_floats a0 y30 q31) ?_)
  refine AO.op rfl (AOp.makeIfc rfl rfl (ltb rfl) rfl conc73 ?_)
  refine AO.op rfl (AOp.move rfl rfl (ltb rfl) rfl ?_)
  obtain ⟨y32, q33, h0⟩ := bind_elim h0
  refine AO.op rfl (AOp.callNew rfl rfl (ltb rfl) rfl rfl (wn_floats a1 y32 q33) ?_)
  refine AO.op rfl (AOp.makeIfc rfl rfl (ltb rfl) rfl conc73 ?_)
  refine AO.op rfl (AOp.build rfl rfl (ltb rfl) zero77 rfl places77 rfl rfl ?_)
  refine AO.op rfl (AOp.box rfl rfl (ltb rfl) rfl rfl ?_)
  refine AO.op rfl (AOp.assign rfl rfl (ltb rfl) rfl ?_)
  refine AO.nil ?_
  change AC _ _ _ _
  refine AC.ret ?_
  refine inlret (ob' := [.fix 23 [.d (.v (.slice none 0 0))], .fix 23 [.d (.v (.slice none 0 0))], .fix 4 [.d (dbool false)], .dead, .grow 51 1 (List.map keS0 y30), .grow 51 1 (List.map keS0 y32), .fix 77 [.ifc 73 (.own 4), .ifc 73 (.own 5)]]) (e' := [(6, .ptr 0 0), (7, .ptr 1 0), (8, .ptr 2 0), (11, .d (eS0 a2))]) (r := .ptr 6 0) rfl rfl rfl ?_
  change AO _ _ _ _ _
  refine AO.op rfl (AOp.inl [6, 7, 8] (by kernel_rfl) Try.func42 rfl Try.ntmps42 rfl rfl (ltb rfl) rfl (leb rfl) rfl ?_)
  intro fr34
  refine AC.seq ?_
  refine AC.region ?_
  refine AO.op rfl (AOp.assign rfl rfl (ltb rfl) rfl ?_)
  refine AO.nil ?_
  change AC _ _ _ _
  refine AC.seq ?_
  refine AC.seq ?_
  refine AC.region ?_
  refine AO.op rfl (AOp.move rfl rfl (ltb rfl) rfl ?_)
  refine AO.op rfl (AOp.ptrNilEql rfl rfl (ltb rfl) rfl rfl pmeth72 ?_)
  refine AO.nil ?_
  change AC _ _ _ _
  refine AC.condF rfl rfl ?_
  refine AC.skip ?_
  change AC _ _ _ _
  refine AC.seq ?_
  refine AC.region ?_
  refine AO.op rfl (AOp.move rfl rfl (ltb rfl) rfl ?_)
  refine AO.op rfl (AOp.nilCheck rfl rfl (ltb rfl) rfl rfl ?_)
  refine AO.op rfl (AOp.fieldAddr rfl rfl (ltb rfl) rfl fo77_0 ?_)
  refine AO.op rfl (AOp.load1 rfl rfl (ltb rfl) rfl agg75 rfl rfl ?_)
  refine AO.op rfl (AOp.assertYes rfl rfl (ltb rfl) rfl rfl pass73_73 rfl ?_)
  refine AO.op rfl (AOp.assign rfl rfl (ltb rfl) rfl ?_)
  refine AO.nil ?_
  change AC _ _ _ _
  refine AC.seq ?_
  refine AC.region ?_
  refine AO.op rfl (AOp.move rfl rfl (ltb rfl) rfl ?_)
  refine AO.op rfl (AOp.nilCheck rfl rfl (ltb rfl) rfl rfl ?_)
  refine AO.op rfl (AOp.fieldAddr rfl rfl (ltb rfl) rfl fo77_1 ?_)
  refine AO.op rfl (AOp.load1 rfl rfl (ltb rfl) rfl agg75 rfl rfl ?_)
  refine AO.op rfl (AOp.assertYes rfl rfl (ltb rfl) rfl rfl pass73_73 rfl ?_)
  refine AO.op rfl (AOp.assign rfl rfl (ltb rfl) rfl ?_)
  refine AO.nil ?_
  change AC _ _ _ _
  refine AC.seq ?_
  refine AC.seq ?_
  refine AC.region ?_
  refine AO.op rfl (AOp.move rfl rfl (ltb rfl) rfl ?_)
  refine AO.op rfl (AOp.lenDs (n := a2.length) (cells := (List.map keS0 a2)) rfl rfl (ltb rfl) rfl el73 (by decide) (len1 _ _) ?_)
  refine AO.op rfl (AOp.move rfl rfl (ltb rfl) rfl ?_)
  refine AO.nil ?_
  change AC _ _ _ _
  obtain ⟨o35, l36, h0⟩ := bind_elim h0
  refine AC.joinE (V := ((List Nat) × (List Nat))) [1, 5, 6] [] 8 (fun g37 => []) (fun g37 => [.fix 23 [.d (.v (.slice none 0 0))], .fix 23 [.d (.v (.slice none 0 0))], .fix 4 [.d (dbool false)], .dead, .grow 51 1 (List.map keS0 g37.1), .grow 51 1 (List.map keS0 g37.2), .fix 77 [.ifc 73 (.own 4), .ifc 73 (.own 5)], .frame fr34 [(6, .ptr 0 0), (7, .ptr 1 0), (8, .ptr 2 0)]]) (fun g37 => p_KExtend_k3 g37 = some r0) rfl ?_ ?_
  · refine AC.block ?_
    refine AC.loopP (V := (Int × (List Nat) × (List Nat))) (p_KExtend_l4 a2) o35 [1, 5, 6, 29, 30] [31] 8 (fun g42 => [(31, .d (di .i64 g42.1))]) (fun g42 => [.fix 23 [.d (.v (.slice none 0 0))], .fix 23 [.d (.v (.slice none 0 0))], .fix 4 [.d (dbool false)], .dead, .grow 51 1 (List.map keS0 g42.2.1), .grow 51 1 (List.map keS0 g42.2.2), .fix 77 [.ifc 73 (.own 4), .ifc 73 (.own 5)], .frame fr34 [(6, .ptr 0 0), (7, .ptr 1 0), (8, .ptr 2 0)]]) F ((0 : Int), y30, y32) l36 rfl rfl (LeL.refl _) rfl rfl ?_
    intro n44 g42 h1
    unfold p_KExtend_l4 at h1
    refine AC.seq ?_
    refine AC.region ?_
    refine AO.op rfl (AOp.ilss rfl rfl (ltb rfl) rfl rfl ?_)
    refine AO.nil ?_
    change AC _ _ _ _
    refine AC.seq ?_
    refine AC.cond rfl (fun q45 => ?_) (fun q45 => ?_)
    · replace h1 := cT h1 q45
      refine AC.skip ?_
      change AC _ _ _ _
      refine AC.seq ?_
      refine AC.block ?_
      refine AC.seq ?_
      refine AC.region ?_
      refine AO.op rfl (AOp.move rfl rfl (ltb rfl) rfl ?_)
      obtain ⟨x46, q47, h1⟩ := idx_elim h1
      refine AO.op rfl (AOp.indexDs (cells := (List.map keS0 a2)) rfl rfl (ltb rfl) rfl rfl el73 (by decide) q47.1 (lt1 q47.2) ?_)
      refine AO.op rfl (AOp.loadEp rfl rfl (ltb rfl) rfl agg51 (at1 q47.2) ?_)
      refine AO.op rfl (AOp.assign rfl rfl (ltb rfl) rfl ?_)
      refine AO.op rfl (AOp.assign rfl rfl (ltb rfl) rfl ?_)
      refine AO.nil ?_
      change AC _ _ _ _
      refine AC.seq ?_
      refine AC.region ?_
      refine AO.op rfl (AOp.move rfl rfl (ltb rfl) rfl ?_)
      refine AO.op rfl (AOp.move rfl rfl (ltb rfl) rfl ?_)
      refine AO.op rfl (AOp.move rfl rfl (ltb rfl) rfl ?_)
      refine AO.op rfl (AOp.move rfl rfl (ltb rfl) rfl ?_)
      obtain ⟨q48, h1⟩ := need_elim h1
      refine AO.op rfl (AOp.indexOwn (cells := (List.map keS0 g42.2.1)) (n := g42.2.1.length) rfl rfl (ltb rfl) rfl rfl el73 rfl (by decide) (len1 _ _) q48.1 q48.2 ?_)
      obtain ⟨x49, q50, h1⟩ := idx_elim h1
      refine AO.op rfl (AOp.loadO1 rfl rfl (ltb rfl) rfl agg51 rfl (at1 q50.2) ?_)
      refine AO.op rfl (AOp.move rfl rfl (ltb rfl) rfl ?_)
      refine AO.op rfl (AOp.callD rfl rfl (ltb rfl) rfl rfl (mathMin x49 x46) ?_)
      rintro _ rfl
      obtain ⟨q51, h1⟩ := need_elim h1
      refine AO.op rfl (AOp.indexOwn (cells := (List.map keS0 g42.2.1)) (n := g42.2.1.length) rfl rfl (ltb rfl) rfl rfl el73 rfl (by decide) (len1 _ _) q51.1 q51.2 ?_)
      obtain ⟨q52, h1⟩ := need_elim h1
      refine AO.op rfl (AOp.storeOL (f := keS0) (l := g42.2.1) (i := (g42.1).toNat) (v := (Flt.amin x49 x46)) rfl rfl rfl rfl size51 rfl rfl rfl q52 ?_)
      refine AO.nil ?_
      change AC _ _ _ _
      refine AC.region ?_
      refine AO.op rfl (AOp.move rfl rfl (ltb rfl) rfl ?_)
      refine AO.op rfl (AOp.move rfl rfl (ltb rfl) rfl ?_)
      refine AO.op rfl (AOp.move rfl rfl (ltb rfl) rfl ?_)
      refine AO.op rfl (AOp.move rfl rfl (ltb rfl) rfl ?_)
      obtain ⟨q53, h1⟩ := need_elim h1
      refine AO.op rfl (AOp.indexOwn (cells := (List.map keS0 g42.2.2)) (n := g42.2.2.length) rfl rfl (ltb rfl) rfl rfl el73 rfl (by decide) (len1 _ _) q53.1 q53.2 ?_)
      obtain ⟨x54, q55, h1⟩ := idx_elim h1
      refine AO.op rfl (AOp.loadO1 rfl rfl (ltb rfl) rfl agg51 rfl (at1 q55.2) ?_)
      refine AO.op rfl (AOp.move rfl rfl (ltb rfl) rfl ?_)
      refine AO.op rfl (AOp.callD rfl rfl (ltb rfl) rfl rfl (mathMax x54 x46) ?_)
      rintro _ rfl
      obtain ⟨q56, h1⟩ := need_elim h1
      refine AO.op rfl (AOp.indexOwn (cells := (List.map keS0 g42.2.2)) (n := g42.2.2.length) rfl rfl (ltb rfl) rfl rfl el73 rfl (by decide) (len1 _ _) q56.1 q56.2 ?_)
      obtain ⟨q57, h1⟩ := need_elim h1
      refine AO.op rfl (AOp.storeOL (f := keS0) (l := g42.2.2) (i := (g42.1).toNat) (v := (Flt.amax x54 x46)) rfl rfl rfl rfl size51 rfl rfl rfl q57 ?_)
      refine AO.nil ?_
      change AC _ _ _ _
      refine AC.region ?_
      obtain ⟨q58, h1⟩ := need_elim h1
      refine AO.op rfl (AOp.iadd rfl rfl (ltb rfl) rfl rfl rfl q58.1 q58.2 ?_)
      refine AO.op rfl (AOp.move rfl rfl (ltb rfl) rfl ?_)
      refine AO.nil ?_
      exact ⟨((g42.1 + (1 : Int)), (g42.2.1.set (g42.1).toNat (Flt.amin x49 x46)), (g42.2.2.set (g42.1).toNat (Flt.amax x54 x46))), _, rfl, (LeL.refl _), rfl, rfl, h1⟩
    replace h1 := cF h1 q45
    refine AC.exit ?_
    obtain rfl := Option.some.inj h1
    exact ⟨(g42.2.1, g42.2.2), _, rfl, (LeL.refl _), rfl, rfl, aftL h0⟩
  intro g37 h0
  unfold p_KExtend_k3 at h0
  change AC _ _ _ _
  refine AC.seq ?_
  refine AC.region ?_
  refine AO.op rfl (AOp.move rfl rfl (ltb rfl) rfl ?_)
  refine AO.op rfl (AOp.move rfl rfl (ltb rfl) rfl ?_)
  refine AO.op rfl (AOp.makeIfc rfl rfl (ltb rfl) rfl conc73 ?_)
  refine AO.op rfl (AOp.move rfl rfl (ltb rfl) rfl ?_)
  refine AO.op rfl (AOp.makeIfc rfl rfl (ltb rfl) rfl conc73 ?_)
  refine AO.op rfl (AOp.build rfl rfl (ltb rfl) zero77 rfl places77 rfl rfl ?_)
  refine AO.op rfl (AOp.nilCheck rfl rfl (ltb rfl) rfl rfl ?_)
  refine AO.op rfl (AOp.store rfl rfl rfl rfl size77 rfl rfl rfl (leb rfl) ?_)
  refine AO.nil ?_
  change AC _ _ _ _
  refine AC.seq ?_
  refine AC.region ?_
  refine AO.op rfl (AOp.move rfl rfl (ltb rfl) rfl ?_)
  refine AO.op rfl (AOp.assign rfl rfl (ltb rfl) rfl ?_)
  refine AO.nil ?_
  change AC _ _ _ _
  refine AC.ret ?_
  refine inlret (ob' := [.fix 23 [.d (.v (.slice none 0 0))], .fix 23 [.d (.v (.slice none 0 0))], .fix 4 [.d (dbool false)], .dead, .grow 51 1 (List.map keS0 g37.1), .grow 51 1 (List.map keS0 g37.2), .fix 77 [.ifc 73 (.own 4), .ifc 73 (.own 5)], .dead]) (e' := [(6, .ptr 0 0), (7, .ptr 1 0), (8, .ptr 2 0)]) (r := .ptr 6 0) rfl rfl rfl ?_
  change AO _ _ _ _ _
  refine AO.op rfl (AOp.assign rfl rfl (ltb rfl) rfl ?_)
  refine AO.nil ?_
  change AC _ _ _ _
  refine AC.seq ?_
  obtain ⟨y38, q39, h0⟩ := bind_elim h0
  refine AC.drawS [0, 1, 2, 3, 4, 5, 6, 7, 8, 9, 10] [5] [11, 12, 13, 14] (fun L => [.fix 23 [.d (.v (.slice none 0 0))], .fix 23 [.d (.v (.slice none 0 0))], .fix 4 [.d (dbool false)], .dead, bif L 5 then .dead else .grow 51 1 (List.map keS0 g37.1), .grow 51 1 (List.map keS0 g37.2), .fix 77 [.ifc 73 (.own 4), .ifc 73 (.own 5)], .dead]) [(5, SV.noO 4)] mixed (by kernel_rfl) (fun L L' h => by simp only [h 5 (by decide)]) rfl ?_
  refine AS.op [9] [] [5] [] rfl rfl rfl (by kernel_rfl) (by kernel_rfl) rfl rfl (fun _ _ _ h => AOp.move rfl rfl (ltb rfl) rfl h) (by kernel_rfl) ?_
  refine AS.op [16] [] [5] [] rfl rfl rfl (by kernel_rfl) (by kernel_rfl) rfl rfl (fun _ _ _ h => AOp.nilCheck rfl rfl (ltb rfl) rfl rfl h) (by kernel_rfl) ?_
  refine AS.op [17] [] [5] [] rfl rfl rfl (by kernel_rfl) (by kernel_rfl) rfl rfl (fun _ _ _ h => AOp.fieldAddr rfl rfl (ltb rfl) rfl fo77_0 h) (by kernel_rfl) ?_
  refine AS.op [18] [] [5] [] rfl rfl rfl (by kernel_rfl) (by kernel_rfl) rfl rfl (fun _ _ _ h => AOp.load1 rfl rfl (ltb rfl) rfl agg75 rfl rfl h) (by kernel_rfl) ?_
  refine AS.op [19] [] [5] [] rfl rfl rfl (by kernel_rfl) (by kernel_rfl) rfl rfl (fun _ _ _ h => AOp.assertYes rfl rfl (ltb rfl) rfl rfl pass73_73 rfl h) (by kernel_rfl) ?_
  refine AS.mid [20] [] [5] [] rfl rfl rfl rfl (by kernel_rfl) (by kernel_rfl) rfl rfl (fun _ _ _ h => AOp.freezeDrop 20 4 rfl rfl rfl (AOp.callD rfl rfl (ltb rfl) rfl rfl (w_floats g37.1 y38 q39) (by rintro _ rfl; exact AO.forget1 (.inr trivial) h (.inl (dropped_none rfl rfl))))) (by kernel_rfl) rfl ?_
  refine AS.op [9] [] [] [5] rfl rfl rfl (by kernel_rfl) (by kernel_rfl) rfl rfl (fun _ _ _ h => AOp.move rfl rfl (ltb rfl) rfl h) (by kernel_rfl) ?_
  refine AS.op [22] [] [] [5] rfl rfl rfl (by kernel_rfl) (by kernel_rfl) rfl rfl (fun _ _ _ h => AOp.nilCheck rfl rfl (ltb rfl) rfl rfl h) (by kernel_rfl) ?_
  refine AS.op [23] [] [] [5] rfl rfl rfl (by kernel_rfl) (by kernel_rfl) rfl rfl (fun _ _ _ h => AOp.fieldAddr rfl rfl (ltb rfl) rfl fo77_1 h) (by kernel_rfl) ?_
  refine AS.op [24] [] [] [5] rfl rfl rfl (by kernel_rfl) (by kernel_rfl) rfl rfl (fun _ _ _ h => AOp.load1 rfl rfl (ltb rfl) rfl agg75 rfl rfl h) (by kernel_rfl) ?_
  refine AS.op [25] [] [] [5] rfl rfl rfl (by kernel_rfl) (by kernel_rfl) rfl rfl (fun _ _ _ h => AOp.assertYes rfl rfl (ltb rfl) rfl rfl pass73_73 rfl h) (by kernel_rfl) ?_
  refine AS.done ?_
  refine AO.objs (obs' := [.fix 23 [.d (.v (.slice none 0 0))], .fix 23 [.d (.v (.slice none 0 0))], .fix 4 [.d (dbool false)], .dead, .dead, .grow 51 1 (List.map keS0 g37.2), .fix 77 [.ifc 73 (.own 4), .ifc 73 (.own 5)], .dead]) rfl ?_
  refine AO.freezeG 5 rfl rfl rfl ?_
  obtain ⟨y40, q41, h0⟩ := bind_elim h0
  refine AO.op rfl (AOp.callD rfl rfl (ltb rfl) rfl rfl (w_floats g37.2 y40 q41) ?_)
  rintro _ rfl
  refine AO.op rfl (AOp.store rfl rfl rfl rfl size23 rfl rfl rfl (leb rfl) ?_)
  refine AO.op rfl (AOp.store rfl rfl rfl rfl size23 rfl rfl rfl (leb rfl) ?_)
  refine AO.op rfl (AOp.store rfl rfl rfl rfl size4 rfl rfl rfl (leb rfl) ?_)
  refine AO.nil ?_
  change AC _ _ _ _
  refine AC.ret ?_
  change RetQ _ _ _ .ret _
  obtain rfl := Option.some.inj h0
  refine retq rfl rfl

set_option maxRecDepth 100000 in
set_option maxHeartbeats 1000000 in
/-- pub-orthodrome/spec.SamePoint -/
theorem w_SamePoint (F : Nat) (a0 : (List Nat)) (a1 : (List Nat)) (r0 : Bool) (h0 : p_SamePoint F a0 a1 = some r0) : FnD Try.prog 14 [eS0 a0, eS0 a1] (fun r => r = dbool r0) := by
  refine FnD.of (by kernel_rfl) Try.func14 rfl Try.ntmps14 rfl (leb rfl) fun W ok => ?_
  unfold p_SamePoint at h0
  refine AC.seq ?_
  refine AC.region ?_
  refine AO.op rfl (AOp.assign rfl rfl (ltb rfl) rfl ?_)
  refine AO.nil ?_
  change AC _ _ _ _
  refine AC.seq ?_
  refine AC.seq ?_
  refine AC.region ?_
  refine AO.op rfl (AOp.move rfl rfl (ltb rfl) rfl ?_)
  refine AO.op rfl (AOp.lenDs (n := a0.length) (cells := (List.map keS0 a0)) rfl rfl (ltb rfl) rfl el23 (by decide) (len1 _ _) ?_)
  refine AO.op rfl (AOp.move rfl rfl (ltb rfl) rfl ?_)
  refine AO.op rfl (AOp.lenDs (n := a1.length) (cells := (List.map keS0 a1)) rfl rfl (ltb rfl) rfl el23 (by decide) (len1 _ _) ?_)
  refine AO.op rfl (AOp.ineq rfl rfl (ltb rfl) rfl rfl ?_)
  refine AO.nil ?_
  change AC _ _ _ _
  refine AC.cond rfl (fun q1 => ?_) (fun q1 => ?_)
  · replace h0 := cT h0 q1
    refine AC.seq ?_
    refine AC.region ?_
    refine AO.op rfl (AOp.assign rfl rfl (ltb rfl) rfl ?_)
    refine AO.nil ?_
    change AC _ _ _ _
    refine AC.ret ?_
    change RetQ _ _ _ .ret _
    obtain rfl := Option.some.inj h0
    refine retq rfl rfl
  replace h0 := cF h0 q1
  refine AC.skip ?_
  change AC _ _ _ _
  refine AC.seq ?_
  refine AC.seq ?_
  refine AC.region ?_
  refine AO.op rfl (AOp.move rfl rfl (ltb rfl) rfl ?_)
  refine AO.op rfl (AOp.lenDs (n := a0.length) (cells := (List.map keS0 a0)) rfl rfl (ltb rfl) rfl el23 (by decide) (len1 _ _) ?_)
  refine AO.op rfl (AOp.move rfl rfl (ltb rfl) rfl ?_)
  refine AO.nil ?_
  change AC _ _ _ _
  obtain ⟨o2, l3, h0⟩ := bind_elim h0
  refine AC.joinE (V := Unit) [] [] 0 (fun g4 => []) (fun g4 => []) (fun g4 => p_SamePoint_k1 g4 = some r0) rfl ?_ ?_
  · refine AC.block ?_
    refine AC.loopP (V := Int) (p_SamePoint_l2 a0 a1) o2 [1, 12, 13] [14] 0 (fun g5 => [(14, .d (di .i64 g5))]) (fun g5 => []) F (0 : Int) l3 rfl rfl (LeL.refl _) rfl rfl ?_
    intro n7 g5 h1
    unfold p_SamePoint_l2 at h1
    refine AC.seq ?_
    refine AC.region ?_
    refine AO.op rfl (AOp.ilss rfl rfl (ltb rfl) rfl rfl ?_)
    refine AO.nil ?_
    change AC _ _ _ _
    refine AC.seq ?_
    refine AC.cond rfl (fun q8 => ?_) (fun q8 => ?_)
    · replace h1 := cT h1 q8
      refine AC.skip ?_
      change AC _ _ _ _
      refine AC.seq ?_
      refine AC.block ?_
      refine AC.seq ?_
      refine AC.region ?_
      refine AO.op rfl (AOp.move rfl rfl (ltb rfl) rfl ?_)
      obtain ⟨x9, q10, h1⟩ := idx_elim h1
      refine AO.op rfl (AOp.indexDs (cells := (List.map keS0 a0)) rfl rfl (ltb rfl) rfl rfl el23 (by decide) q10.1 (lt1 q10.2) ?_)
      refine AO.op rfl (AOp.loadEp rfl rfl (ltb rfl) rfl agg51 (at1 q10.2) ?_)
      refine AO.op rfl (AOp.assign rfl rfl (ltb rfl) rfl ?_)
      refine AO.op rfl (AOp.assign rfl rfl (ltb rfl) rfl ?_)
      refine AO.nil ?_
      change AC _ _ _ _
      refine AC.seq ?_
      refine AC.region ?_
      refine AO.op rfl (AOp.move rfl rfl (ltb rfl) rfl ?_)
      refine AO.op rfl (AOp.move rfl rfl (ltb rfl) rfl ?_)
      refine AO.op rfl (AOp.move rfl rfl (ltb rfl) rfl ?_)
      obtain ⟨x11, q12, h1⟩ := idx_elim h1
      refine AO.op rfl (AOp.indexDs (cells := (List.map keS0 a1)) rfl rfl (ltb rfl) rfl rfl el23 (by decide) q12.1 (lt1 q12.2) ?_)
      refine AO.op rfl (AOp.loadEp rfl rfl (ltb rfl) rfl agg51 (at1 q12.2) ?_)
      refine AO.op rfl (AOp.fneq rfl rfl (ltb rfl) rfl rfl ?_)
      refine AO.nil ?_
      change AC _ _ _ _
      refine AC.cond rfl (fun q13 => ?_) (fun q13 => ?_)
      · replace h1 := cT h1 q13
        refine AC.seq ?_
        refine AC.region ?_
        refine AO.op rfl (AOp.assign rfl rfl (ltb rfl) rfl ?_)
        refine AO.nil ?_
        change AC _ _ _ _
        refine AC.ret ?_
        change RetQ _ _ _ .ret _
        obtain rfl := Option.some.inj h1
        replace h0 := aftR h0
        obtain rfl := Option.some.inj h0
        refine retq rfl rfl
      replace h1 := cF h1 q13
      refine AC.skip ?_
      change AC _ _ _ _
      refine AC.region ?_
      obtain ⟨q14, h1⟩ := need_elim h1
      refine AO.op rfl (AOp.iadd rfl rfl (ltb rfl) rfl rfl rfl q14.1 q14.2 ?_)
      refine AO.op rfl (AOp.move rfl rfl (ltb rfl) rfl ?_)
      refine AO.nil ?_
      exact ⟨(g5 + (1 : Int)), _, rfl, (LeL.refl _), rfl, rfl, h1⟩
    replace h1 := cF h1 q8
    refine AC.exit ?_
    obtain rfl := Option.some.inj h1
    exact ⟨(), _, rfl, (LeL.refl _), rfl, rfl, aftL h0⟩
  intro g4 h0
  unfold p_SamePoint_k1 at h0
  change AC _ _ _ _
  refine AC.seq ?_
  refine AC.region ?_
  refine AO.op rfl (AOp.assign rfl rfl (ltb rfl) rfl ?_)
  refine AO.nil ?_
  change AC _ _ _ _
  refine AC.ret ?_
  change RetQ _ _ _ .ret _
  obtain rfl := Option.some.inj h0
  refine retq rfl rfl

set_option maxRecDepth 100000 in
set_option maxHeartbeats 1000000 in
/-- pub-orthodrome/laws.FnKExtend -/
theorem w_FnKExtend (F : Nat) (a0 : (List Nat)) (a1 : (List Nat)) (a2 : (List Nat)) (r0 : Bool) (h0 : p_FnKExtend F a0 a1 a2 = some r0) : FnD Try.prog 4 [eS0 a0, eS0 a1, eS0 a2] (fun r => r = dbool r0) := by
  refine FnD.of (by kernel_rfl) Try.func4 rfl Try.ntmps4 rfl (leb rfl) fun W ok => ?_
  unfold p_FnKExtend at h0
  refine AC.seq ?_
  refine AC.region ?_
  refine AO.op rfl (AOp.assign rfl rfl (ltb rfl) rfl ?_)
  refine AO.nil ?_
  change AC _ _ _ _
  refine AC.seq ?_
  refine AC.joinP (V := Bool) [0, 1, 2] [25] 0 (fun g1 => [(25, .d (dbool g1))]) (fun g1 => []) (fun g1 => (p_FnKExtend_k1 a0 a1 a2 F) g1 = some r0) rfl ?_ ?_
  · refine AC.region ?_
    refine AO.op rfl (AOp.move rfl rfl (ltb rfl) rfl ?_)
    refine AO.op rfl (AOp.lenDs (n := a0.length) (cells := (List.map keS0 a0)) rfl rfl (ltb rfl) rfl el23 (by decide) (len1 _ _) ?_)
    refine AO.op rfl (AOp.igtr rfl rfl (ltb rfl) rfl rfl ?_)
    refine AO.op rfl (AOp.move rfl rfl (ltb rfl) rfl ?_)
    refine AO.dec (decide ((2147483647 : Int) < ((a0.length : Nat) : Int))) (fun q28 => ?_) (fun q28 => ?_)
    · replace h0 := cT h0 q28
      refine AO.guardN rfl rfl rfl (ltb rfl) rfl q28 ?_
      refine AO.guardN rfl rfl rfl (ltb rfl) rfl q28 ?_
      refine AO.guardN rfl rfl rfl (ltb rfl) rfl q28 ?_
      refine AO.op rfl (AOp.pick rfl rfl (ltb rfl) rfl q28 rfl ?_)
      refine AO.op rfl (AOp.move rfl rfl (ltb rfl) rfl ?_)
      refine AO.guardN rfl rfl rfl (ltb rfl) rfl rfl ?_
      refine AO.guardN rfl rfl rfl (ltb rfl) rfl rfl ?_
      refine AO.guardN rfl rfl rfl (ltb rfl) rfl rfl ?_
      refine AO.op rfl (AOp.pick rfl rfl (ltb rfl) rfl rfl rfl ?_)
      refine AO.nil ?_
      exact ⟨true, _, rfl, (LeL.refl _), rfl, rfl, h0⟩
    replace h0 := cF h0 q28
    refine AO.guardY rfl rfl rfl q28 (AOp.move rfl rfl (ltb rfl) rfl ?_)
    refine AO.guardY rfl rfl rfl q28 (AOp.lenDs (n := a1.length) (cells := (List.map keS0 a1)) rfl rfl (ltb rfl) rfl el23 (by decide) (len1 _ _) ?_)
    refine AO.guardY rfl rfl rfl q28 (AOp.igtr rfl rfl (ltb rfl) rfl rfl ?_)
    refine AO.op rfl (AOp.pickN rfl rfl (ltb rfl) rfl q28 rfl ?_)
    refine AO.op rfl (AOp.move rfl rfl (ltb rfl) rfl ?_)
    refine AO.dec (decide ((2147483647 : Int) < ((a1.length : Nat) : Int))) (fun q29 => ?_) (fun q29 => ?_)
    · replace h0 := cT h0 q29
      refine AO.guardN rfl rfl rfl (ltb rfl) rfl q29 ?_
      refine AO.guardN rfl rfl rfl (ltb rfl) rfl q29 ?_
      refine AO.guardN rfl rfl rfl (ltb rfl) rfl q29 ?_
      refine AO.op rfl (AOp.pick rfl rfl (ltb rfl) rfl q29 rfl ?_)
      refine AO.nil ?_
      exact ⟨true, _, rfl, (LeL.refl _), rfl, rfl, h0⟩
    replace h0 := cF h0 q29
    refine AO.guardY rfl rfl rfl q29 (AOp.move rfl rfl (ltb rfl) rfl ?_)
    refine AO.guardY rfl rfl rfl q29 (AOp.lenDs (n := a2.length) (cells := (List.map keS0 a2)) rfl rfl (ltb rfl) rfl el23 (by decide) (len1 _ _) ?_)
    refine AO.guardY rfl rfl rfl q29 (AOp.igtr rfl rfl (ltb rfl) rfl rfl ?_)
    refine AO.op rfl (AOp.pickN rfl rfl (ltb rfl) rfl q29 rfl ?_)
    refine AO.nil ?_
    exact ⟨(decide ((2147483647 : Int) < ((a2.length : Nat) : Int))), _, rfl, (LeL.refl _), rfl, rfl, h0⟩
  intro g1 h0
  unfold p_FnKExtend_k1 at h0
  refine AC.cond rfl (fun q2 => ?_) (fun q2 => ?_)
  · replace h0 := cT h0 q2
    refine AC.seq ?_
    refine AC.region ?_
    refine AO.op rfl (AOp.assign rfl rfl (ltb rfl) rfl ?_)
    refine AO.nil ?_
    change AC _ _ _ _
    refine AC.ret ?_
    change RetQ _ _ _ .ret _
    obtain rfl := Option.some.inj h0
    refine retq rfl rfl
  replace h0 := cF h0 q2
  refine AC.skip ?_
  change AC _ _ _ _
  refine AC.joinP (V := Unit) [0, 1, 2] [] 0 (fun g3 => []) (fun g3 => []) (fun g3 => (p_FnKExtend_k2 a0 a1 a2 F) g3 = some r0) rfl ?_ ?_
  · refine AC.seq ?_
    refine AC.region ?_
    refine AO.op rfl (AOp.move rfl rfl (ltb rfl) rfl ?_)
    refine AO.op rfl (AOp.lenDs (n := a0.length) (cells := (List.map keS0 a0)) rfl rfl (ltb rfl) rfl el23 (by decide) (len1 _ _) ?_)
    refine AO.op rfl (AOp.move rfl rfl (ltb rfl) rfl ?_)
    refine AO.op rfl (AOp.lenDs (n := a1.length) (cells := (List.map keS0 a1)) rfl rfl (ltb rfl) rfl el23 (by decide) (len1 _ _) ?_)
    refine AO.op rfl (AOp.ineq rfl rfl (ltb rfl) rfl rfl ?_)
    refine AO.op rfl (AOp.move rfl rfl (ltb rfl) rfl ?_)
    refine AO.dec (!decide (((a0.length : Nat) : Int) = ((a1.length : Nat) : Int))) (fun q17 => ?_) (fun q17 => ?_)
    · replace h0 := cT h0 q17
      refine AO.guardN rfl rfl rfl (ltb rfl) rfl q17 ?_
      refine AO.guardN rfl rfl rfl (ltb rfl) rfl q17 ?_
      refine AO.guardN rfl rfl rfl (ltb rfl) rfl q17 ?_
      refine AO.guardN rfl rfl rfl (ltb rfl) rfl q17 ?_
      refine AO.guardN rfl rfl rfl (ltb rfl) rfl q17 ?_
      refine AO.op rfl (AOp.pick rfl rfl (ltb rfl) rfl q17 rfl ?_)
      refine AO.op rfl (AOp.move rfl rfl (ltb rfl) rfl ?_)
      refine AO.guardN rfl rfl rfl (ltb rfl) rfl rfl ?_
      refine AO.guardN rfl rfl rfl (ltb rfl) rfl rfl ?_
      refine AO.guardN rfl rfl rfl (ltb rfl) rfl rfl ?_
      refine AO.guardN rfl rfl rfl (ltb rfl) rfl rfl ?_
      refine AO.guardU rfl rfl rfl (ltb rfl) rfl ?_
      refine AO.guardU rfl rfl rfl (ltb rfl) rfl ?_
      refine AO.guardU rfl rfl rfl (ltb rfl) rfl ?_
      refine AO.guardU rfl rfl rfl (ltb rfl) rfl ?_
      refine AO.guardU rfl rfl rfl (ltb rfl) rfl ?_
      refine AO.guardU rfl rfl rfl (ltb rfl) rfl ?_
      refine AO.guardU rfl rfl rfl (ltb rfl) rfl ?_
      refine AO.guardU rfl rfl rfl (ltb rfl) rfl ?_
      refine AO.guardU rfl rfl rfl (ltb rfl) rfl ?_
      refine AO.guardU rfl rfl rfl (ltb rfl) rfl ?_
      refine AO.guardU rfl rfl rfl (ltb rfl) rfl ?_
      refine AO.guardU rfl rfl rfl (ltb rfl) rfl ?_
      refine AO.guardU rfl rfl rfl (ltb rfl) rfl ?_
      refine AO.guardN rfl rfl rfl (ltb rfl) rfl rfl ?_
      refine AO.op rfl (AOp.pick rfl rfl (ltb rfl) rfl rfl rfl ?_)
      refine AO.nil ?_
      change AC _ _ _ _
      refine AC.condT rfl rfl ?_
      refine AC.seq ?_
      refine AC.region ?_
      refine AO.op rfl (AOp.assign rfl rfl (ltb rfl) rfl ?_)
      refine AO.nil ?_
      change AC _ _ _ _
      refine AC.ret ?_
      change RetQ _ _ _ .ret _
      obtain rfl := Option.some.inj h0
      refine retq rfl rfl
    replace h0 := cF h0 q17
    refine AO.guardY rfl rfl rfl q17 (AOp.move rfl rfl (ltb rfl) rfl ?_)
    refine AO.guardY rfl rfl rfl q17 (AOp.buildSliceD rfl rfl (ltb rfl) el27 zero23 rfl (leb rfl) rfl rfl rfl rfl ?_)
    refine AO.guardY rfl rfl rfl q17 (AOp.move rfl rfl (ltb rfl) rfl ?_)
    obtain ⟨y18, q19, h0⟩ := bind_elim h0
    refine AO.guardY rfl rfl rfl q17 (AOp.callD rfl rfl (ltb rfl) rfl rfl (w_some F [a2] a2 y18 q19) ?_)
    rintro _ rfl
    refine AO.guardY rfl rfl rfl q17 (AOp.bnot rfl rfl (ltb rfl) rfl ?_)
    refine AO.op rfl (AOp.pickN rfl rfl (ltb rfl) rfl q17 rfl ?_)
    refine AO.op rfl (AOp.move rfl rfl (ltb rfl) rfl ?_)
    refine AO.dec (!y18) (fun q20 => ?_) (fun q20 => ?_)
    · replace h0 := cT h0 q20
      refine AO.guardN rfl rfl rfl (ltb rfl) rfl q20 ?_
      refine AO.guardN rfl rfl rfl (ltb rfl) rfl q20 ?_
      refine AO.guardN rfl rfl rfl (ltb rfl) rfl q20 ?_
      refine AO.guardN rfl rfl rfl (ltb rfl) rfl q20 ?_
      refine AO.guardU rfl rfl rfl (ltb rfl) rfl ?_
      refine AO.guardU rfl rfl rfl (ltb rfl) rfl ?_
      refine AO.guardU rfl rfl rfl (ltb rfl) rfl ?_
      refine AO.guardU rfl rfl rfl (ltb rfl) rfl ?_
      refine AO.guardU rfl rfl rfl (ltb rfl) rfl ?_
      refine AO.guardU rfl rfl rfl (ltb rfl) rfl ?_
      refine AO.guardU rfl rfl rfl (ltb rfl) rfl ?_
      refine AO.guardU rfl rfl rfl (ltb rfl) rfl ?_
      refine AO.guardU rfl rfl rfl (ltb rfl) rfl ?_
      refine AO.guardU rfl rfl rfl (ltb rfl) rfl ?_
      refine AO.guardU rfl rfl rfl (ltb rfl) rfl ?_
      refine AO.guardU rfl rfl rfl (ltb rfl) rfl ?_
      refine AO.guardU rfl rfl rfl (ltb rfl) rfl ?_
      refine AO.guardN rfl rfl rfl (ltb rfl) rfl q20 ?_
      refine AO.op rfl (AOp.pick rfl rfl (ltb rfl) rfl q20 rfl ?_)
      refine AO.nil ?_
      change AC _ _ _ _
      refine AC.condT rfl rfl ?_
      refine AC.seq ?_
      refine AC.region ?_
      refine AO.op rfl (AOp.assign rfl rfl (ltb rfl) rfl ?_)
      refine AO.nil ?_
      change AC _ _ _ _
      refine AC.ret ?_
      change RetQ _ _ _ .ret _
      obtain rfl := Option.some.inj h0
      refine retq rfl rfl
    replace h0 := cF h0 q20
    refine AO.guardY rfl rfl rfl q20 (AOp.move rfl rfl (ltb rfl) rfl ?_)
    refine AO.guardY rfl rfl rfl q20 (AOp.lenDs (n := a0.length) (cells := (List.map keS0 a0)) rfl rfl (ltb rfl) rfl el23 (by decide) (len1 _ _) ?_)
    refine AO.guardY rfl rfl rfl q20 (AOp.igtr rfl rfl (ltb rfl) rfl rfl ?_)
    refine AO.guardY rfl rfl rfl q20 (AOp.move rfl rfl (ltb rfl) rfl ?_)
    refine AO.dec (decide ((0 : Int) < ((a0.length : Nat) : Int))) (fun q21 => ?_) (fun q21 => ?_)
    · replace h0 := cT h0 q21
      refine AO.guardY rfl rfl rfl q21 (AOp.move rfl rfl (ltb rfl) rfl ?_)
      refine AO.guardY rfl rfl rfl q21 (AOp.move rfl rfl (ltb rfl) rfl ?_)
      refine AO.guardY rfl rfl rfl q21 (AOp.buildSliceD rfl rfl (ltb rfl) el27 zero23 rfl (leb rfl) rfl rfl rfl rfl ?_)
      refine AO.guardY rfl rfl rfl q21 (AOp.move rfl rfl (ltb rfl) rfl ?_)
      obtain ⟨y22, q23, h0⟩ := bind_elim h0
      refine AO.guardY rfl rfl rfl q21 (AOp.callD rfl rfl (ltb rfl) rfl rfl (w_some F [a0, a1] a2 y22 q23) ?_)
      rintro _ rfl
      refine AO.guardY rfl rfl rfl q21 (AOp.bnot rfl rfl (ltb rfl) rfl ?_)
      refine AO.guardY rfl rfl rfl q21 (AOp.move rfl rfl (ltb rfl) rfl ?_)
      refine AO.dec (!y22) (fun q24 => ?_) (fun q24 => ?_)
      · replace h0 := cT h0 q24
        refine AO.guardN rfl rfl rfl (ltb rfl) rfl q24 ?_
        refine AO.guardN rfl rfl rfl (ltb rfl) rfl q24 ?_
        refine AO.guardN rfl rfl rfl (ltb rfl) rfl q24 ?_
        refine AO.guardN rfl rfl rfl (ltb rfl) rfl q24 ?_
        refine AO.guardN rfl rfl rfl (ltb rfl) rfl q24 ?_
        refine AO.guardY rfl rfl rfl q21 (AOp.pick rfl rfl (ltb rfl) rfl q24 rfl ?_)
        refine AO.guardY rfl rfl rfl q20 (AOp.pick rfl rfl (ltb rfl) rfl q21 rfl ?_)
        refine AO.op rfl (AOp.pickN rfl rfl (ltb rfl) rfl q20 rfl ?_)
        refine AO.nil ?_
        change AC _ _ _ _
        refine AC.condT rfl rfl ?_
        refine AC.seq ?_
        refine AC.region ?_
        refine AO.op rfl (AOp.assign rfl rfl (ltb rfl) rfl ?_)
        refine AO.nil ?_
        change AC _ _ _ _
        refine AC.ret ?_
        change RetQ _ _ _ .ret _
        obtain rfl := Option.some.inj h0
        refine retq rfl rfl
      replace h0 := cF h0 q24
      refine AO.guardY rfl rfl rfl q24 (AOp.move rfl rfl (ltb rfl) rfl ?_)
      refine AO.guardY rfl rfl rfl q24 (AOp.move rfl rfl (ltb rfl) rfl ?_)
      refine AO.guardY rfl rfl rfl q24 (AOp.move rfl rfl (ltb rfl) rfl ?_)
      obtain ⟨y25, q26, h0⟩ := bind_elim h0
      refine AO.guardY rfl rfl rfl q24 (AOp.callD rfl rfl (ltb rfl) rfl rfl (w_Within F a0 a1 a0 y25 q26) ?_)
      rintro _ rfl
      refine AO.guardY rfl rfl rfl q24 (AOp.bnot rfl rfl (ltb rfl) rfl ?_)
      refine AO.guardY rfl rfl rfl q21 (AOp.pickN rfl rfl (ltb rfl) rfl q24 rfl ?_)
      refine AO.guardY rfl rfl rfl q20 (AOp.pick rfl rfl (ltb rfl) rfl q21 rfl ?_)
      refine AO.op rfl (AOp.pickN rfl rfl (ltb rfl) rfl q20 rfl ?_)
      refine AO.nil ?_
      change AC _ _ _ _
      refine AC.cond rfl (fun q27 => ?_) (fun q27 => ?_)
      · replace h0 := cT h0 q27
        refine AC.seq ?_
        refine AC.region ?_
        refine AO.op rfl (AOp.assign rfl rfl (ltb rfl) rfl ?_)
        refine AO.nil ?_
        change AC _ _ _ _
        refine AC.ret ?_
        change RetQ _ _ _ .ret _
        obtain rfl := Option.some.inj h0
        refine retq rfl rfl
      replace h0 := cF h0 q27
      refine AC.skip ?_
      exact ⟨(), _, rfl, (LeL.refl _), rfl, rfl, h0⟩
    replace h0 := cF h0 q21
    refine AO.guardN rfl rfl rfl (ltb rfl) rfl q21 ?_
    refine AO.guardN rfl rfl rfl (ltb rfl) rfl q21 ?_
    refine AO.guardN rfl rfl rfl (ltb rfl) rfl q21 ?_
    refine AO.guardN rfl rfl rfl (ltb rfl) rfl q21 ?_
    refine AO.guardN rfl rfl rfl (ltb rfl) rfl q21 ?_
    refine AO.guardN rfl rfl rfl (ltb rfl) rfl q21 ?_
    refine AO.guardN rfl rfl rfl (ltb rfl) rfl q21 ?_
    refine AO.guardU rfl rfl rfl (ltb rfl) rfl ?_
    refine AO.guardU rfl rfl rfl (ltb rfl) rfl ?_
    refine AO.guardU rfl rfl rfl (ltb rfl) rfl ?_
    refine AO.guardU rfl rfl rfl (ltb rfl) rfl ?_
    refine AO.guardU rfl rfl rfl (ltb rfl) rfl ?_
    refine AO.guardN rfl rfl rfl (ltb rfl) rfl q21 ?_
    refine AO.guardY rfl rfl rfl q20 (AOp.pickN rfl rfl (ltb rfl) rfl q21 rfl ?_)
    refine AO.op rfl (AOp.pickN rfl rfl (ltb rfl) rfl q20 rfl ?_)
    refine AO.nil ?_
    change AC _ _ _ _
    refine AC.condF rfl rfl ?_
    refine AC.skip ?_
    exact ⟨(), _, rfl, (LeL.refl _), rfl, rfl, h0⟩
  intro g3 h0
  unfold p_FnKExtend_k2 at h0
  refine AC.seq ?_
  refine AC.region ?_
  refine AO.op rfl (AOp.move rfl rfl (ltb rfl) rfl ?_)
  refine AO.op rfl (AOp.buildOwn rfl rfl (ltb rfl) el27 zero23 rfl (leb rfl) rfl rfl rfl rfl ?_)
  refine AO.op rfl (AOp.assign rfl rfl (ltb rfl) rfl ?_)
  refine AO.nil ?_
  change AC _ _ _ _
  refine AC.joinP (V := (List (List Nat))) [0, 1, 2] [7] 1 (fun g4 => [(7, .own 0)]) (fun g4 => [.grow 23 1 (List.map keS1 g4)]) (fun g4 => (p_FnKExtend_k3 a0 a1 a2 F) g4 = some r0) rfl ?_ ?_
  · refine AC.seq ?_
    refine AC.region ?_
    refine AO.op rfl (AOp.move rfl rfl (ltb rfl) rfl ?_)
    refine AO.op rfl (AOp.lenDs (n := a0.length) (cells := (List.map keS0 a0)) rfl rfl (ltb rfl) rfl el23 (by decide) (len1 _ _) ?_)
    refine AO.op rfl (AOp.igtr rfl rfl (ltb rfl) rfl rfl ?_)
    refine AO.nil ?_
    change AC _ _ _ _
    refine AC.cond rfl (fun q15 => ?_) (fun q15 => ?_)
    · replace h0 := cT h0 q15
      refine AC.region ?_
      refine AO.op rfl (AOp.move rfl rfl (ltb rfl) rfl ?_)
      refine AO.op rfl (AOp.move rfl rfl (ltb rfl) rfl ?_)
      refine AO.op rfl (AOp.move rfl rfl (ltb rfl) rfl ?_)
      refine AO.op rfl (AOp.buildSliceD rfl rfl (ltb rfl) el27 zero23 rfl (leb rfl) rfl rfl rfl rfl ?_)
      obtain ⟨q16, h0⟩ := need_elim h0
      refine AO.op rfl (AOp.appendOwn' (n := [a2].length) (m := [a0, a1].length) (news := (List.map keS1 [a0, a1])) rfl rfl (ltb rfl) rfl rfl el27 info23 rfl (by decide) rfl rfl (len1 _ _) (one1 _ (fun _ => rfl) _) q16 (by decide) rfl rfl (cat1 keS1 [a2] _) ?_)
      refine AO.op rfl (AOp.assign rfl rfl (ltb rfl) rfl ?_)
      refine AO.nil ?_
      exact ⟨([a2] ++ [a0, a1]), _, rfl, (LeL.refl _), rfl, rfl, h0⟩
    replace h0 := cF h0 q15
    refine AC.skip ?_
    exact ⟨[a2], _, rfl, (LeL.refl _), rfl, rfl, h0⟩
  intro g4 h0
  unfold p_FnKExtend_k3 at h0
  refine AC.seq ?_
  refine AC.region ?_
  refine AO.op rfl (AOp.move rfl rfl (ltb rfl) rfl ?_)
  refine AO.freezeG 0 rfl rfl rfl ?_
  obtain ⟨y5, q6, h0⟩ := bind_elim h0
  refine AO.op rfl (AOp.callD rfl rfl (ltb rfl) rfl rfl (w_LeastBox F g4 y5 q6) ?_)
  rintro _ rfl
  refine AO.op rfl (AOp.move rfl rfl (ltb rfl) rfl ?_)
  first | refine AO.op rfl (AOp.extractD rfl rfl (ltb rfl) rfl rfl ?_) | refine AO.op rfl (AOp.extract rfl rfl (ltb rfl) rfl rfl ?_)
  first | refine AO.op rfl (AOp.extractD rfl rfl (ltb rfl) rfl rfl ?_) | refine AO.op rfl (AOp.extract rfl rfl (ltb rfl) rfl rfl ?_)
  refine AO.op rfl (AOp.assign rfl rfl (ltb rfl) rfl ?_)
  refine AO.op rfl (AOp.assign rfl rfl (ltb rfl) rfl ?_)
  refine AO.nil ?_
  change AC _ _ _ _
  refine AC.seq ?_
  refine AC.region ?_
  refine AO.op rfl (AOp.move rfl rfl (ltb rfl) rfl ?_)
  refine AO.op rfl (AOp.move rfl rfl (ltb rfl) rfl ?_)
  refine AO.op rfl (AOp.move rfl rfl (ltb rfl) rfl ?_)
  obtain ⟨y7, q8, h0⟩ := bind_elim h0
  refine AO.op rfl (AOp.callD rfl rfl (ltb rfl) rfl rfl (w_KExtend F a0 a1 a2 y7 q8) ?_)
  rintro _ rfl
  refine AO.op rfl (AOp.move rfl rfl (ltb rfl) rfl ?_)
  first | refine AO.op rfl (AOp.extractD rfl rfl (ltb rfl) rfl rfl ?_) | refine AO.op rfl (AOp.extract rfl rfl (ltb rfl) rfl rfl ?_)
  first | refine AO.op rfl (AOp.extractD rfl rfl (ltb rfl) rfl rfl ?_) | refine AO.op rfl (AOp.extract rfl rfl (ltb rfl) rfl rfl ?_)
  first | refine AO.op rfl (AOp.extractD rfl rfl (ltb rfl) rfl rfl ?_) | refine AO.op rfl (AOp.extract rfl rfl (ltb rfl) rfl rfl ?_)
  refine AO.op rfl (AOp.assign rfl rfl (ltb rfl) rfl ?_)
  refine AO.op rfl (AOp.assign rfl rfl (ltb rfl) rfl ?_)
  refine AO.op rfl (AOp.assign rfl rfl (ltb rfl) rfl ?_)
  refine AO.nil ?_
  change AC _ _ _ _
  refine AC.seq ?_
  refine AC.region ?_
  refine AO.op rfl (AOp.move rfl rfl (ltb rfl) rfl ?_)
  refine AO.op rfl (AOp.move rfl rfl (ltb rfl) rfl ?_)
  refine AO.dec y7.2.2 (fun q9 => ?_) (fun q9 => ?_)
  · replace h0 := cT h0 q9
    refine AO.guardY rfl rfl rfl q9 (AOp.move rfl rfl (ltb rfl) rfl ?_)
    refine AO.guardY rfl rfl rfl q9 (AOp.move rfl rfl (ltb rfl) rfl ?_)
    obtain ⟨y10, q11, h0⟩ := bind_elim h0
    refine AO.guardY rfl rfl rfl q9 (AOp.callD rfl rfl (ltb rfl) rfl rfl (w_SamePoint F y7.1 y5.1 y10 q11) ?_)
    rintro _ rfl
    refine AO.op rfl (AOp.pick rfl rfl (ltb rfl) rfl q9 rfl ?_)
    refine AO.op rfl (AOp.move rfl rfl (ltb rfl) rfl ?_)
    refine AO.dec y10 (fun q12 => ?_) (fun q12 => ?_)
    · replace h0 := cT h0 q12
      refine AO.guardY rfl rfl rfl q12 (AOp.move rfl rfl (ltb rfl) rfl ?_)
      refine AO.guardY rfl rfl rfl q12 (AOp.move rfl rfl (ltb rfl) rfl ?_)
      obtain ⟨y13, q14, h0⟩ := bind_elim h0
      refine AO.guardY rfl rfl rfl q12 (AOp.callD rfl rfl (ltb rfl) rfl rfl (w_SamePoint F y7.2.1 y5.2 y13 q14) ?_)
      rintro _ rfl
      refine AO.op rfl (AOp.pick rfl rfl (ltb rfl) rfl q12 rfl ?_)
      refine AO.op rfl (AOp.assign rfl rfl (ltb rfl) rfl ?_)
      refine AO.nil ?_
      change AC _ _ _ _
      refine AC.ret ?_
      change RetQ _ _ _ .ret _
      obtain rfl := Option.some.inj h0
      refine retq rfl rfl
    replace h0 := cF h0 q12
    refine AO.guardN rfl rfl rfl (ltb rfl) rfl q12 ?_
    refine AO.guardN rfl rfl rfl (ltb rfl) rfl q12 ?_
    refine AO.guardN rfl rfl rfl (ltb rfl) rfl q12 ?_
    refine AO.op rfl (AOp.pickN rfl rfl (ltb rfl) rfl q12 rfl ?_)
    refine AO.op rfl (AOp.assign rfl rfl (ltb rfl) rfl ?_)
    refine AO.nil ?_
    change AC _ _ _ _
    refine AC.ret ?_
    change RetQ _ _ _ .ret _
    obtain rfl := Option.some.inj h0
    refine retq rfl rfl
  replace h0 := cF h0 q9
  refine AO.guardN rfl rfl rfl (ltb rfl) rfl q9 ?_
  refine AO.guardN rfl rfl rfl (ltb rfl) rfl q9 ?_
  refine AO.guardN rfl rfl rfl (ltb rfl) rfl q9 ?_
  refine AO.op rfl (AOp.pickN rfl rfl (ltb rfl) rfl q9 rfl ?_)
  refine AO.op rfl (AOp.move rfl rfl (ltb rfl) rfl ?_)
  refine AO.guardN rfl rfl rfl (ltb rfl) rfl rfl ?_
  refine AO.guardN rfl rfl rfl (ltb rfl) rfl rfl ?_
  refine AO.guardN rfl rfl rfl (ltb rfl) rfl rfl ?_
  refine AO.op rfl (AOp.pickN rfl rfl (ltb rfl) rfl rfl rfl ?_)
  refine AO.op rfl (AOp.assign rfl rfl (ltb rfl) rfl ?_)
  refine AO.nil ?_
  change AC _ _ _ _
  refine AC.ret ?_
  change RetQ _ _ _ .ret _
  obtain rfl := Option.some.inj h0
  refine retq rfl rfl

end Go.Proofs.Ytcckkfdlhakkmaa.Wk
