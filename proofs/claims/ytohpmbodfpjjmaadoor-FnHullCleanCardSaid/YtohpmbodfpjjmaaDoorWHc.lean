/- Proved: functions of the program compute what the printed functions say, wherever these say something. -/
import Derived.Test.YtohpmbodfpjjmaaDoorPHc
import Derived.Test.YtohpmbodfpjjmaaDoorVmDraw4
import Derived.Test.YtohpmbodfpjjmaaDoorVmNaN
import Derived.Test.YtohpmbodfpjjmaaDoorFltDy
import Derived.Test.YtohpmbodfpjjmaaDoorFltMin
import Derived.Test.YtohpmbodfpjjmaaDoorVmFin
import Derived.Test.YtohpmbodfpjjmaaDoorProg
namespace Go.Proofs.YtohpmbodfpjjmaaDoor.Wk
open Go.Vm
set_option linter.unusedVariables false
set_option linter.unusedSimpArgs false
theorem agg22 : aggT Tryd.prog 22 = some false := by kernel_rfl
theorem agg24 : aggT Tryd.prog 24 = some true := by kernel_rfl
theorem agg26 : aggT Tryd.prog 26 = some false := by kernel_rfl
theorem agg28 : aggT Tryd.prog 28 = some true := by kernel_rfl
theorem agg3 : aggT Tryd.prog 3 = some false := by kernel_rfl
theorem agg30 : aggT Tryd.prog 30 = some true := by kernel_rfl
theorem agg32 : aggT Tryd.prog 32 = some true := by kernel_rfl
theorem agg4 : aggT Tryd.prog 4 = some false := by kernel_rfl
theorem agg42 : aggT Tryd.prog 42 = some false := by kernel_rfl
theorem agg90 : aggT Tryd.prog 90 = some false := by kernel_rfl
theorem eg24 : Tryd.prog.eqGuardType Tryd.prog.depth 24 = false := by kernel_rfl
theorem el26 : elemT Tryd.prog 26 = some (90, 1) := by kernel_rfl
theorem el42 : elemT Tryd.prog 42 = some (22, 1) := by kernel_rfl
theorem el43 : elemT Tryd.prog 43 = some (24, 2) := by kernel_rfl
theorem el46 : elemT Tryd.prog 46 = some (42, 1) := by kernel_rfl
theorem el65 : elemT Tryd.prog 65 = some (22, 1) := by kernel_rfl
theorem eq24 (a0 : Nat) (a1 : Nat) (b0 : Nat) (b1 : Nat) : eqT Tryd.prog 9 24 [.float .f64 a0, .float .f64 a1] [.float .f64 b0, .float .f64 b1] = some (feq a0 b0 && (feq a1 b1 && true)) := by kernel_rfl
theorem fo101_1 : fieldOff Tryd.prog 101 1 = some 1 := by kernel_rfl
theorem fo24_0 : fieldOff Tryd.prog 24 0 = some 0 := by kernel_rfl
theorem fo24_1 : fieldOff Tryd.prog 24 1 = some 1 := by kernel_rfl
theorem fo28_0 : fieldOff Tryd.prog 28 0 = some 0 := by kernel_rfl
theorem fo28_1 : fieldOff Tryd.prog 28 1 = some 1 := by kernel_rfl
theorem fo30_0 : fieldOff Tryd.prog 30 0 = some 0 := by kernel_rfl
theorem fo30_1 : fieldOff Tryd.prog 30 1 = some 2 := by kernel_rfl
theorem fo32_0 : fieldOff Tryd.prog 32 0 = some 0 := by kernel_rfl
theorem fo32_1 : fieldOff Tryd.prog 32 1 = some 3 := by kernel_rfl
theorem idle39 (vs : Array Value) (w : World) (h : vs.size = 2) : CallsD Tryd.prog 39 vs .returning w fun e u' w' => e = .returned (.tuple #[]) ∧ u' = .returning ∧ w' = w := by
  obtain ⟨x0, x1, rfl⟩ : ∃ x0 x1, vs = #[x0, x1] := by
    obtain ⟨l⟩ := vs
    match l, h with
    | [x0, x1], _ => exact ⟨x0, x1, rfl⟩
  refine callsD_of_wpS Tryd.func39 rfl fun c₀ cs hu => ?_
  apply wpS_seq
  apply wpS_region
  simp [wpOpsS, go_sem, recoverD, hu, Tryd.ntmps39, Exit.thenS]
  refine wpS_cond (t := false) (by simp [Act.eval, Array.replicate]) ?_
  simp only [Bool.false_eq_true, if_false]
  refine wpS_of_wp (wp_skip ?_)
  cases c₀
  simp_all [bodyPostS, results, Tryd.results39]
theorem info22 : (Tryd.prog.info? 22).map (fun i => (i.zero, i.size, i.bytes)) = some (some (.float .f64 0), 1, 8) := by kernel_rfl
theorem info24 : (Tryd.prog.info? 24).map (fun i => (i.zero, i.size, i.bytes)) = some (some (.agg #[.float .f64 0, .float .f64 0]), 2, 16) := by kernel_rfl
theorem info42 : (Tryd.prog.info? 42).map (fun i => (i.zero, i.size, i.bytes)) = some (some (.slice none 0 0), 1, 24) := by kernel_rfl
theorem info90 : (Tryd.prog.info? 90).map (fun i => (i.zero, i.size, i.bytes)) = some (some (.int .u32 0), 1, 4) := by kernel_rfl
theorem mixed : Tryd.prog.follows .mixedOrders = true := by kernel_rfl
def pl101 : Nat → Option (Nat × Nat) := fun i => ([(0, 1), (1, 1), (2, 1)] : List (Nat × Nat))[i]?
theorem places101 : placesT Tryd.prog 101 = some pl101 := by kernel_rfl
def pl24 : Nat → Option (Nat × Nat) := fun i => ([(0, 1), (1, 1)] : List (Nat × Nat))[i]?
theorem places24 : placesT Tryd.prog 24 = some pl24 := by kernel_rfl
def pl28 : Nat → Option (Nat × Nat) := fun i => ([(0, 1), (1, 1)] : List (Nat × Nat))[i]?
theorem places28 : placesT Tryd.prog 28 = some pl28 := by kernel_rfl
def pl30 : Nat → Option (Nat × Nat) := fun i => ([(0, 2), (2, 1)] : List (Nat × Nat))[i]?
theorem places30 : placesT Tryd.prog 30 = some pl30 := by kernel_rfl
def pl32 : Nat → Option (Nat × Nat) := fun i => ([(0, 3), (3, 3)] : List (Nat × Nat))[i]?
theorem places32 : placesT Tryd.prog 32 = some pl32 := by kernel_rfl
theorem size24 : sizeT Tryd.prog 24 = some 2 := by kernel_rfl
theorem size28 : sizeT Tryd.prog 28 = some 2 := by kernel_rfl
theorem size30 : sizeT Tryd.prog 30 = some 3 := by kernel_rfl
theorem size32 : sizeT Tryd.prog 32 = some 6 := by kernel_rfl
theorem size4 : sizeT Tryd.prog 4 = some 1 := by kernel_rfl
theorem size42 : sizeT Tryd.prog 42 = some 1 := by kernel_rfl
theorem size90 : sizeT Tryd.prog 90 = some 1 := by kernel_rfl
theorem zero101 : (Tryd.prog.info? 101).map (·.zero) = some (some (.agg #[.int .i64 0, .int .i64 0, .slice none 0 0])) := by kernel_rfl
theorem zero22 : (Tryd.prog.info? 22).map (·.zero) = some (some (.float .f64 0)) := by kernel_rfl
theorem zero24 : (Tryd.prog.info? 24).map (·.zero) = some (some (.agg #[.float .f64 0, .float .f64 0])) := by kernel_rfl
theorem zero28 : (Tryd.prog.info? 28).map (·.zero) = some (some (.agg #[.bool false, .slice none 0 0])) := by kernel_rfl
theorem zero30 : (Tryd.prog.info? 30).map (·.zero) = some (some (.agg #[.bool false, .slice none 0 0, .int .i64 0])) := by kernel_rfl
theorem zero32 : (Tryd.prog.info? 32).map (·.zero) = some (some (.agg #[.bool false, .slice none 0 0, .int .i64 0, .bool false, .slice none 0 0, .int .i64 0])) := by kernel_rfl
theorem zero4 : (Tryd.prog.info? 4).map (·.zero) = some (some (.bool false)) := by kernel_rfl
theorem zero42 : (Tryd.prog.info? 42).map (·.zero) = some (some (.slice none 0 0)) := by kernel_rfl
theorem zero90 : (Tryd.prog.info? 90).map (·.zero) = some (some (.int .u32 0)) := by kernel_rfl
set_option maxRecDepth 100000 in
set_option maxHeartbeats 1000000 in
/-- pub-orthodrome/spec.Stride -/
theorem w_Stride (a0 : Int) (r0 : Int) (h0 : p_Stride a0 = some r0) : FnD Tryd.prog 38 [di .i64 a0] (fun r => r = di .i64 r0) := by
  refine FnD.of (by kernel_rfl) Tryd.func38 rfl Tryd.ntmps38 rfl (leb rfl) fun W ok => ?_
  unfold p_Stride at h0
  refine AC.seq ?_
  refine AC.region ?_
  refine AO.op rfl (AOp.assign rfl rfl (ltb rfl) rfl ?_)
  refine AO.nil ?_
  change AC _ _ _ _
  refine AC.seq ?_
  refine AC.block ?_
  refine AC.seq ?_
  refine AC.region ?_
  refine AO.op rfl (AOp.move rfl rfl (ltb rfl) rfl ?_)
  refine AO.op rfl (AOp.ilss rfl rfl (ltb rfl) rfl rfl ?_)
  refine AO.op rfl (AOp.assign rfl rfl (ltb rfl) rfl ?_)
  refine AO.nil ?_
  change AC _ _ _ _
  refine AC.cond rfl (fun q1 => ?_) (fun q1 => ?_)
  · replace h0 := cT h0 q1
    refine AC.seq ?_
    refine AC.region ?_
    refine AO.op rfl (AOp.assign rfl rfl (ltb rfl) rfl ?_)
    refine AO.nil ?_
    change AC _ _ _ _
    refine AC.ret ?_
    change RetQ _ _ _ .ret _
    obtain rfl := Option.some.inj h0
    refine retq rfl rfl
  · replace h0 := cF h0 q1
    refine AC.seq ?_
    refine AC.region ?_
    refine AO.op rfl (AOp.move rfl rfl (ltb rfl) rfl ?_)
    refine AO.op rfl (AOp.ieql rfl rfl (ltb rfl) rfl rfl ?_)
    refine AO.op rfl (AOp.assign rfl rfl (ltb rfl) rfl ?_)
    refine AO.nil ?_
    change AC _ _ _ _
    refine AC.cond rfl (fun q2 => ?_) (fun q2 => ?_)
    · replace h0 := cT h0 q2
      refine AC.seq ?_
      refine AC.region ?_
      refine AO.op rfl (AOp.assign rfl rfl (ltb rfl) rfl ?_)
      refine AO.nil ?_
      change AC _ _ _ _
      refine AC.ret ?_
      change RetQ _ _ _ .ret _
      obtain rfl := Option.some.inj h0
      refine retq rfl rfl
    · replace h0 := cF h0 q2
      refine AC.seq ?_
      refine AC.region ?_
      refine AO.op rfl (AOp.move rfl rfl (ltb rfl) rfl ?_)
      refine AO.op rfl (AOp.ieql rfl rfl (ltb rfl) rfl rfl ?_)
      refine AO.op rfl (AOp.move rfl rfl (ltb rfl) rfl ?_)
      refine AO.dec (decide (a0 = (2 : Int))) (fun q3 => ?_) (fun q3 => ?_)
      · replace h0 := cT h0 q3
        refine AO.guardN rfl rfl rfl (ltb rfl) rfl q3 ?_
        refine AO.guardN rfl rfl rfl (ltb rfl) rfl q3 ?_
        refine AO.op rfl (AOp.pick rfl rfl (ltb rfl) rfl q3 rfl ?_)
        refine AO.op rfl (AOp.assign rfl rfl (ltb rfl) rfl ?_)
        refine AO.nil ?_
        change AC _ _ _ _
        refine AC.condT rfl rfl ?_
        refine AC.seq ?_
        refine AC.region ?_
        refine AO.op rfl (AOp.assign rfl rfl (ltb rfl) rfl ?_)
        refine AO.nil ?_
        change AC _ _ _ _
        refine AC.ret ?_
        change RetQ _ _ _ .ret _
        obtain rfl := Option.some.inj h0
        refine retq rfl rfl
      · replace h0 := cF h0 q3
        refine AO.guardY rfl rfl rfl q3 (AOp.move rfl rfl (ltb rfl) rfl ?_)
        refine AO.guardY rfl rfl rfl q3 (AOp.ieql rfl rfl (ltb rfl) rfl rfl ?_)
        refine AO.op rfl (AOp.pickN rfl rfl (ltb rfl) rfl q3 rfl ?_)
        refine AO.op rfl (AOp.assign rfl rfl (ltb rfl) rfl ?_)
        refine AO.nil ?_
        change AC _ _ _ _
        refine AC.cond rfl (fun q4 => ?_) (fun q4 => ?_)
        · replace h0 := cT h0 q4
          refine AC.seq ?_
          refine AC.region ?_
          refine AO.op rfl (AOp.assign rfl rfl (ltb rfl) rfl ?_)
          refine AO.nil ?_
          change AC _ _ _ _
          refine AC.ret ?_
          change RetQ _ _ _ .ret _
          obtain rfl := Option.some.inj h0
          refine retq rfl rfl
        · replace h0 := cF h0 q4
          refine AC.skip ?_
          change AC _ _ _ _
          refine AC.seq ?_
          refine AC.region ?_
          refine AO.op rfl (AOp.move rfl rfl (ltb rfl) rfl ?_)
          refine AO.op rfl (AOp.assign rfl rfl (ltb rfl) rfl ?_)
          refine AO.nil ?_
          change AC _ _ _ _
          refine AC.ret ?_
          change RetQ _ _ _ .ret _
          obtain rfl := Option.some.inj h0
          refine retq rfl rfl

open Flt (truncD okF inR K20)
def notNan (x : Nat) : Prop := (FloatKind.f64.decode x).isNaN = false
def truncS (x : Nat) (d : Ieee.Datum) : Sem Value :=
  match d with
  | .nan s t =>
    if FloatKind.f64.format.quiet t = t then pure (.float .f64 x) else do
      let kept ← choose (.extern "math.Floor,Ceil,Trunc,RoundToEven.signallingNaN kept" 2)
      pure (.float .f64 (if kept == 1 then x else FloatKind.f64.encode (.nan s (FloatKind.f64.format.quiet t))))
  | d => pure (.float .f64 (FloatKind.f64.encode (d.integral .zero)))
theorem run_trunc (P : Program) (x : Nat) (h : notNan x) (w : World) : (Extern.MathFloor.toIntegral "math.archTrunc" .zero #[.float .f64 x]).run P w = .ok (.float .f64 (truncD x)) w := by
  unfold notNan at h
  have e : Extern.MathFloor.toIntegral "math.archTrunc" .zero #[.float .f64 x] = truncS x (FloatKind.f64.decode x) := rfl
  have e2 : ∀ d : Ieee.Datum, d.isNaN = false → truncS x d = pure (.float .f64 (FloatKind.f64.encode (d.integral .zero))) := by
    intro d hd
    cases d with
    | nan s t => cases hd
    | number s m e => rfl
    | infinity s => rfl
  rw [e, e2 _ h]
  rfl

theorem callTrunc (x : Nat) (h : notNan x) (w : World) : (callFunc 65 #[.float .f64 x]).run Tryd.prog w = .ok (.value (.float .f64 (truncD x))) w := by
  rw [run_callFunc_extern Tryd.func65 (by kernel_rfl) (by kernel_rfl) (by kernel_rfl) (e := Extern.MathFloor.toIntegral "math.archTrunc" .zero) (by kernel_rfl), run_trunc Tryd.prog x h]
  rfl

theorem inR_nn (m x : Nat) (h : fle x m = true) : notNan x := by
  unfold fle at h
  unfold notNan
  unfold Ieee.Format.order at h
  show (Ieee.double.read x).isNaN = false
  generalize Ieee.double.read x = d at *
  cases d with
  | nan s t => simp [Ieee.Datum.order] at h
  | number s m e => rfl
  | infinity s => rfl

set_option maxRecDepth 100000 in
/-- math.Trunc -/
theorem trunc (x : Nat) (h : notNan x) : FnD Tryd.prog 49 [dfl x] (fun r => r = dfl (truncD x)) := by
  refine FnD.of (by kernel_rfl) Tryd.func49 rfl Tryd.ntmps49 rfl (leb rfl) fun W ok => ?_
  refine AC.seq ?_
  refine AC.region ?_
  refine AO.op rfl (AOp.assign rfl rfl (ltb rfl) rfl ?_)
  refine AO.nil ?_
  change AC _ _ _ _
  refine AC.seq ?_
  refine AC.condT rfl rfl ?_
  refine AC.seq ?_
  refine AC.region ?_
  refine AO.op rfl (AOp.move rfl rfl (ltb rfl) rfl ?_)
  refine AO.op rfl (AOp.callX [.float .f64 x] rfl rfl (ltb rfl) rfl (callTrunc x h) ?_)
  refine AO.op rfl (AOp.assign rfl rfl (ltb rfl) rfl ?_)
  refine AO.nil ?_
  change AC _ _ _ _
  refine AC.ret ?_
  change RetQ _ _ _ .ret _
  refine retq rfl ?_
  exact rfl

theorem notNan_of {x : Nat} (h : Flt.isNan x = false) : notNan x := h
theorem callTruncA (x : Nat) (h : Flt.isNan x = true) (w : World) : ∃ r w', (callFunc 65 #[.float .f64 x]).run Tryd.prog w = .ok (.value r) w' ∧ (w' = w ∨ w' = w.drew) ∧ ∃ z, r = .float .f64 z ∧ Flt.isNan z = true := by
  obtain ⟨r, w', h1, h2, h3⟩ := Flt.run_truncA Tryd.prog x h w
  refine ⟨r, w', ?_, h2, h3⟩
  rw [run_callFunc_extern Tryd.func65 (by kernel_rfl) (by kernel_rfl) (by kernel_rfl) (e := Extern.MathFloor.toIntegral "math.archTrunc" .zero) (by kernel_rfl), h1]
  rfl
set_option maxRecDepth 100000 in
theorem truncNN (x : Nat) (h : Flt.isNan x = true) : FnD Tryd.prog 49 [dfl x] (fun r => ∃ z, r = dfl z ∧ Flt.isNan z = true) := by
  refine FnD.of (by kernel_rfl) Tryd.func49 rfl Tryd.ntmps49 rfl (leb rfl) fun W ok => ?_
  refine AC.seq ?_
  refine AC.region ?_
  refine AO.op rfl (AOp.assign rfl rfl (ltb rfl) rfl ?_)
  refine AO.nil ?_
  change AC _ _ _ _
  refine AC.seq ?_
  refine AC.condT rfl rfl ?_
  refine AC.seq ?_
  refine AC.region ?_
  refine AO.op rfl (AOp.move rfl rfl (ltb rfl) rfl ?_)
  refine AO.op rfl (AOp.callXA [.float .f64 x] rfl rfl (ltb rfl) rfl (callTruncA x h) ?_)
  rintro _ ⟨z, rfl, hz⟩
  refine AO.op rfl (AOp.assign rfl rfl (ltb rfl) rfl ?_)
  refine AO.nil ?_
  change AC _ _ _ _
  refine AC.ret ?_
  change RetQ _ _ _ .ret _
  refine retq rfl ?_
  exact ⟨z, rfl, hz⟩

theorem truncA (x : Nat) : FnD Tryd.prog 49 [dfl x] (fun r => ∃ z, r = dfl z ∧ Flt.TruncR x z) := by
  cases h : Flt.isNan x with
  | false => exact (trunc x h).mono fun r hr => ⟨_, hr, fun _ => rfl, fun h2 => by rw [h] at h2; cases h2⟩
  | true => exact (truncNN x h).mono fun r ⟨z, h1, h2⟩ => ⟨z, h1, fun h3 => by (rw [h] at h3; cases h3), fun _ => h2⟩

theorem callBitsA (x : Nat) (w : World) : (callFunc 68 #[.float .f64 x]).run Tryd.prog w = .ok (.value (.int .u64 x)) w := by
  rw [run_callFunc_extern Tryd.func68 (by kernel_rfl) (by kernel_rfl) (by kernel_rfl) (e := Extern.MathFloatBits.float64bits) (by kernel_rfl), run_f64bits Tryd.prog x]
  rfl
theorem callFromBitsA (x : Nat) (w : World) : (callFunc 67 #[.int .u64 x]).run Tryd.prog w = .ok (.value (.float .f64 x)) w := by
  rw [run_callFunc_extern Tryd.func67 (by kernel_rfl) (by kernel_rfl) (by kernel_rfl) (e := Extern.MathFloatBits.float64frombits) (by kernel_rfl), run_f64frombits Tryd.prog x]
  rfl

set_option maxRecDepth 100000 in
/-- math.Abs -/
theorem mathAbs (x : Nat) : FnD Tryd.prog 50 [dfl x] (fun r => r = dfl (Flt.fabs x)) := by
  refine FnD.of (by kernel_rfl) Tryd.func50 rfl Tryd.ntmps50 rfl (leb rfl) fun W ok => ?_
  refine AC.seq ?_
  refine AC.region ?_
  refine AO.op rfl (AOp.assign rfl rfl (ltb rfl) rfl ?_)
  refine AO.nil ?_
  change AC _ _ _ _
  refine AC.seq ?_
  refine AC.region ?_
  refine AO.op rfl (AOp.move rfl rfl (ltb rfl) rfl ?_)
  refine AO.op rfl (AOp.callX [.float .f64 x] rfl rfl (ltb rfl) rfl (callBitsA x) ?_)
  refine AO.op rfl (AOp.ibits (by simp) rfl rfl (ltb rfl) rfl rfl (andNot_abs x) ?_)
  refine AO.op rfl (AOp.callX [.int .u64 ((Flt.fabs x : Nat) : Int)] rfl rfl (ltb rfl) rfl (callFromBitsA _) ?_)
  refine AO.op rfl (AOp.assign rfl rfl (ltb rfl) rfl ?_)
  refine AO.nil ?_
  change AC _ _ _ _
  refine AC.ret ?_
  change RetQ _ _ _ .ret _
  refine retq rfl ?_
  exact rfl

set_option maxRecDepth 100000 in
set_option maxHeartbeats 1000000 in
/-- pub-orthodrome/laws.wholeTo -/
theorem w_wholeTo (F : Nat) (a0 : Nat) (a1 : (List Nat)) (r0 : Bool) (h0 : p_wholeTo F a0 a1 = some r0) : FnD Tryd.prog 27 [dfl a0, eS0 a1] (fun r => r = dbool r0) := by
  refine FnD.of (by kernel_rfl) Tryd.func27 rfl Tryd.ntmps27 rfl (leb rfl) fun W ok => ?_
  unfold p_wholeTo at h0
  refine AC.seq ?_
  refine AC.region ?_
  refine AO.op rfl (AOp.assign rfl rfl (ltb rfl) rfl ?_)
  refine AO.nil ?_
  change AC _ _ _ _
  refine AC.seq ?_
  refine AC.seq ?_
  refine AC.region ?_
  refine AO.op rfl (AOp.move rfl rfl (ltb rfl) rfl ?_)
  refine AO.op rfl (AOp.lenDs (n := a1.length) (cells := (List.map keS0 a1)) rfl rfl (ltb rfl) rfl el42 (by decide) (len1 _ _) ?_)
  refine AO.op rfl (AOp.move rfl rfl (ltb rfl) rfl ?_)
  refine AO.nil ?_
  change AC _ _ _ _
  obtain ⟨o1, l2, h0⟩ := bind_elim h0
  refine AC.joinE (V := Unit) [] [] 0 (fun g3 => []) (fun g3 => []) (fun g3 => p_wholeTo_k1 g3 = some r0) rfl ?_ ?_
  · refine AC.block ?_
    refine AC.loopP (V := Int) (p_wholeTo_l2 a0 a1) o1 [0, 7, 8] [9] 0 (fun g4 => [(9, .d (di .i64 g4))]) (fun g4 => []) F (0 : Int) l2 rfl rfl (LeL.refl _) rfl rfl ?_
    intro n6 g4 h1
    unfold p_wholeTo_l2 at h1
    refine AC.seq ?_
    refine AC.region ?_
    refine AO.op rfl (AOp.ilss rfl rfl (ltb rfl) rfl rfl ?_)
    refine AO.nil ?_
    change AC _ _ _ _
    refine AC.seq ?_
    refine AC.cond rfl (fun q7 => ?_) (fun q7 => ?_)
    · replace h1 := cT h1 q7
      refine AC.skip ?_
      change AC _ _ _ _
      refine AC.seq ?_
      refine AC.block ?_
      refine AC.seq ?_
      refine AC.region ?_
      obtain ⟨x8, q9, h1⟩ := idx_elim h1
      refine AO.op rfl (AOp.indexDs (cells := (List.map keS0 a1)) rfl rfl (ltb rfl) rfl rfl el42 (by decide) q9.1 (lt1 q9.2) ?_)
      refine AO.op rfl (AOp.loadEp rfl rfl (ltb rfl) rfl agg22 (at1 q9.2) ?_)
      refine AO.op rfl (AOp.assign rfl rfl (ltb rfl) rfl ?_)
      refine AO.nil ?_
      change AC _ _ _ _
      refine AC.seq ?_
      refine AC.region ?_
      refine AO.op rfl (AOp.move rfl rfl (ltb rfl) rfl ?_)
      refine AO.op rfl (AOp.move rfl rfl (ltb rfl) rfl ?_)
      refine AO.op rfl (AOp.callD rfl rfl (ltb rfl) rfl rfl (truncA x8) ?_)
      rintro _ ⟨z10, rfl, hz11⟩
      refine AO.op rfl (AOp.fneq rfl rfl (ltb rfl) rfl rfl ?_)
      rw [hz11.feq]
      refine AO.op rfl (AOp.move rfl rfl (ltb rfl) rfl ?_)
      refine AO.dec (!feq x8 (Flt.truncN x8)) (fun q12 => ?_) (fun q12 => ?_)
      · replace h1 := cT h1 q12
        refine AO.guardN rfl rfl rfl (ltb rfl) rfl q12 ?_
        refine AO.guardN rfl rfl rfl (ltb rfl) rfl q12 ?_
        refine AO.guardN rfl rfl rfl (ltb rfl) rfl q12 ?_
        refine AO.guardN rfl rfl rfl (ltb rfl) rfl q12 ?_
        refine AO.op rfl (AOp.pick rfl rfl (ltb rfl) rfl q12 rfl ?_)
        refine AO.nil ?_
        change AC _ _ _ _
        refine AC.condT rfl rfl ?_
        refine AC.seq ?_
        refine AC.region ?_
        refine AO.op rfl (AOp.assign rfl rfl (ltb rfl) rfl ?_)
        refine AO.nil ?_
        change AC _ _ _ _
        refine AC.ret ?_
        change RetQ _ _ _ .ret _
        obtain rfl := Option.some.inj h1
        replace h0 := aftR h0
        obtain rfl := Option.some.inj h0
        refine retq rfl rfl
      · replace h1 := cF h1 q12
        refine AO.guardY rfl rfl rfl q12 (AOp.move rfl rfl (ltb rfl) rfl ?_)
        refine AO.guardY rfl rfl rfl q12 (AOp.callD rfl rfl (ltb rfl) rfl rfl (mathAbs x8) ?_)
        rintro _ rfl
        refine AO.guardY rfl rfl rfl q12 (AOp.move rfl rfl (ltb rfl) rfl ?_)
        refine AO.guardY rfl rfl rfl q12 (AOp.fgtr rfl rfl (ltb rfl) rfl rfl ?_)
        refine AO.op rfl (AOp.pickN rfl rfl (ltb rfl) rfl q12 rfl ?_)
        refine AO.nil ?_
        change AC _ _ _ _
        refine AC.cond rfl (fun q13 => ?_) (fun q13 => ?_)
        · replace h1 := cT h1 q13
          refine AC.seq ?_
          refine AC.region ?_
          refine AO.op rfl (AOp.assign rfl rfl (ltb rfl) rfl ?_)
          refine AO.nil ?_
          change AC _ _ _ _
          refine AC.ret ?_
          change RetQ _ _ _ .ret _
          obtain rfl := Option.some.inj h1
          replace h0 := aftR h0
          obtain rfl := Option.some.inj h0
          refine retq rfl rfl
        · replace h1 := cF h1 q13
          refine AC.skip ?_
          change AC _ _ _ _
          refine AC.region ?_
          obtain ⟨q14, h1⟩ := need_elim h1
          refine AO.op rfl (AOp.iadd rfl rfl (ltb rfl) rfl rfl rfl q14.1 q14.2 ?_)
          refine AO.op rfl (AOp.move rfl rfl (ltb rfl) rfl ?_)
          refine AO.nil ?_
          exact ⟨(g4 + (1 : Int)), _, rfl, (LeL.refl _), rfl, rfl, h1⟩
    · replace h1 := cF h1 q7
      refine AC.exit ?_
      obtain rfl := Option.some.inj h1
      exact ⟨(), _, rfl, (LeL.refl _), rfl, rfl, aftL h0⟩
  · intro g3 h0
    unfold p_wholeTo_k1 at h0
    change AC _ _ _ _
    refine AC.seq ?_
    refine AC.region ?_
    refine AO.op rfl (AOp.assign rfl rfl (ltb rfl) rfl ?_)
    refine AO.nil ?_
    change AC _ _ _ _
    refine AC.ret ?_
    change RetQ _ _ _ .ret _
    obtain rfl := Option.some.inj h0
    refine retq rfl rfl

set_option maxRecDepth 100000 in
set_option maxHeartbeats 1000000 in
/-- pub-orthodrome/laws.planeTo -/
theorem w_planeTo (F : Nat) (a0 : Nat) (a1 : (List TImpl_P2)) (r0 : Bool) (h0 : p_planeTo F a0 a1 = some r0) : FnD Tryd.prog 7 [dfl a0, eS1 a1] (fun r => r = dbool r0) := by
  refine FnD.of (by kernel_rfl) Tryd.func7 rfl Tryd.ntmps7 rfl (leb rfl) fun W ok => ?_
  unfold p_planeTo at h0
  refine AC.seq ?_
  refine AC.region ?_
  refine AO.op rfl (AOp.assign rfl rfl (ltb rfl) rfl ?_)
  refine AO.nil ?_
  change AC _ _ _ _
  refine AC.seq ?_
  refine AC.seq ?_
  refine AC.region ?_
  refine AO.op rfl (AOp.move rfl rfl (ltb rfl) rfl ?_)
  refine AO.op rfl (AOp.lenDs (n := a1.length) (cells := (List.flatMap c_TImpl_P2 a1)) rfl rfl (ltb rfl) rfl el43 (by decide) (lenN _ 2 (fun _ => rfl) _) ?_)
  refine AO.op rfl (AOp.move rfl rfl (ltb rfl) rfl ?_)
  refine AO.nil ?_
  change AC _ _ _ _
  obtain ⟨o1, l2, h0⟩ := bind_elim h0
  refine AC.joinE (V := Unit) [] [] 0 (fun g3 => []) (fun g3 => []) (fun g3 => p_planeTo_k1 g3 = some r0) rfl ?_ ?_
  · refine AC.block ?_
    refine AC.loopP (V := Int) (p_planeTo_l2 a0 a1 F) o1 [0, 7, 8] [9] 0 (fun g4 => [(9, .d (di .i64 g4))]) (fun g4 => []) F (0 : Int) l2 rfl rfl (LeL.refl _) rfl rfl ?_
    intro n6 g4 h1
    unfold p_planeTo_l2 at h1
    refine AC.seq ?_
    refine AC.region ?_
    refine AO.op rfl (AOp.ilss rfl rfl (ltb rfl) rfl rfl ?_)
    refine AO.nil ?_
    change AC _ _ _ _
    refine AC.seq ?_
    refine AC.cond rfl (fun q7 => ?_) (fun q7 => ?_)
    · replace h1 := cT h1 q7
      refine AC.skip ?_
      change AC _ _ _ _
      refine AC.seq ?_
      refine AC.block ?_
      refine AC.seq ?_
      refine AC.region ?_
      obtain ⟨x8, q9, h1⟩ := idx_elim h1
      refine AO.op rfl (AOp.indexDs (cells := (List.flatMap c_TImpl_P2 a1)) rfl rfl (ltb rfl) rfl rfl el43 (by decide) q9.1 (ltN 2 (fun _ => rfl) (by decide) q9.2) ?_)
      refine AO.op rfl (AOp.loadEpN rfl rfl (ltb rfl) rfl agg24 size24 (leN 2 (fun _ => rfl) q9.2) (atN 2 (fun _ => rfl) q9.2) ?_)
      refine AO.op rfl (AOp.alloc rfl rfl (ltb rfl) zero24 rfl ?_)
      refine AO.op rfl (AOp.store rfl rfl rfl rfl size24 rfl rfl rfl (leb rfl) ?_)
      refine AO.nil ?_
      change AC _ _ _ _
      refine AC.seq ?_
      refine AC.region ?_
      refine AO.op rfl (AOp.move rfl rfl (ltb rfl) rfl ?_)
      refine AO.op rfl (AOp.fieldAddr rfl rfl (ltb rfl) rfl fo24_0 ?_)
      refine AO.op rfl (AOp.load1 rfl rfl (ltb rfl) rfl agg22 rfl rfl ?_)
      refine AO.op rfl (AOp.fieldAddr rfl rfl (ltb rfl) rfl fo24_1 ?_)
      refine AO.op rfl (AOp.load1 rfl rfl (ltb rfl) rfl agg22 rfl rfl ?_)
      refine AO.op rfl (AOp.buildSliceD rfl rfl (ltb rfl) el42 zero22 rfl (leb rfl) rfl rfl rfl rfl ?_)
      obtain ⟨y10, q11, h1⟩ := bind_elim h1
      refine AO.op rfl (AOp.callD rfl rfl (ltb rfl) rfl rfl (w_wholeTo F a0 [x8.X, x8.Y] y10 q11) ?_)
      rintro _ rfl
      refine AO.op rfl (AOp.bnot rfl rfl (ltb rfl) rfl ?_)
      refine AO.nil ?_
      change AC _ _ _ _
      refine AC.cond rfl (fun q12 => ?_) (fun q12 => ?_)
      · replace h1 := cT h1 q12
        refine AC.seq ?_
        refine AC.region ?_
        refine AO.op rfl (AOp.assign rfl rfl (ltb rfl) rfl ?_)
        refine AO.nil ?_
        change AC _ _ _ _
        refine AC.ret ?_
        change RetQ _ _ _ .ret _
        obtain rfl := Option.some.inj h1
        replace h0 := aftR h0
        obtain rfl := Option.some.inj h0
        refine retq rfl rfl
      · replace h1 := cF h1 q12
        refine AC.skip ?_
        change AC _ _ _ _
        refine AC.region ?_
        obtain ⟨q13, h1⟩ := need_elim h1
        refine AO.op rfl (AOp.iadd rfl rfl (ltb rfl) rfl rfl rfl q13.1 q13.2 ?_)
        refine AO.op rfl (AOp.move rfl rfl (ltb rfl) rfl ?_)
        refine AO.nil ?_
        exact ⟨(g4 + (1 : Int)), _, rfl, (LeL.refl _), rfl, rfl, h1⟩
    · replace h1 := cF h1 q7
      refine AC.exit ?_
      obtain rfl := Option.some.inj h1
      exact ⟨(), _, rfl, (LeL.refl _), rfl, rfl, aftL h0⟩
  · intro g3 h0
    unfold p_planeTo_k1 at h0
    change AC _ _ _ _
    refine AC.seq ?_
    refine AC.region ?_
    refine AO.op rfl (AOp.assign rfl rfl (ltb rfl) rfl ?_)
    refine AO.nil ?_
    change AC _ _ _ _
    refine AC.ret ?_
    change RetQ _ _ _ .ret _
    obtain rfl := Option.some.inj h0
    refine retq rfl rfl

set_option maxRecDepth 100000 in
set_option maxHeartbeats 1000000 in
/-- pub-orthodrome/laws.flatTo -/
theorem w_flatTo (F : Nat) (a0 : Int) (a1 : (List Nat)) (a2 : Nat) (a3 : Int) (r0 : ((List TImpl_P2) × Bool)) (h0 : p_flatTo F a0 a1 a2 a3 = some r0) : FnD Tryd.prog 17 [di .i64 a0, eS0 a1, dfl a2, di .i64 a3] (fun r => r = .tu [eS1 r0.1, dbool r0.2]) := by
  refine FnD.of (by kernel_rfl) Tryd.func17 rfl Tryd.ntmps17 rfl (leb rfl) fun W ok => ?_
  unfold p_flatTo at h0
  refine AC.seq ?_
  refine AC.region ?_
  refine AO.op rfl (AOp.assign rfl rfl (ltb rfl) rfl ?_)
  refine AO.op rfl (AOp.assign rfl rfl (ltb rfl) rfl ?_)
  refine AO.nil ?_
  change AC _ _ _ _
  refine AC.seq ?_
  refine AC.joinP (V := Bool) [0, 1, 2, 3, 8] [17] 0 (fun g1 => [(17, .d (dbool g1))]) (fun g1 => []) (fun g1 => (p_flatTo_k1 a0 a1 a2 a3 F) g1 = some r0) rfl ?_ ?_
  · refine AC.region ?_
    refine AO.op rfl (AOp.move rfl rfl (ltb rfl) rfl ?_)
    refine AO.op rfl (AOp.ilss rfl rfl (ltb rfl) rfl rfl ?_)
    refine AO.op rfl (AOp.move rfl rfl (ltb rfl) rfl ?_)
    refine AO.dec (decide (a0 < (1 : Int))) (fun q26 => ?_) (fun q26 => ?_)
    · replace h0 := cT h0 q26
      refine AO.guardN rfl rfl rfl (ltb rfl) rfl q26 ?_
      refine AO.guardN rfl rfl rfl (ltb rfl) rfl q26 ?_
      refine AO.op rfl (AOp.pick rfl rfl (ltb rfl) rfl q26 rfl ?_)
      refine AO.nil ?_
      exact ⟨true, _, rfl, (LeL.refl _), rfl, rfl, h0⟩
    · replace h0 := cF h0 q26
      refine AO.guardY rfl rfl rfl q26 (AOp.move rfl rfl (ltb rfl) rfl ?_)
      refine AO.guardY rfl rfl rfl q26 (AOp.igtr rfl rfl (ltb rfl) rfl rfl ?_)
      refine AO.op rfl (AOp.pickN rfl rfl (ltb rfl) rfl q26 rfl ?_)
      refine AO.nil ?_
      exact ⟨(decide ((8 : Int) < a0)), _, rfl, (LeL.refl _), rfl, rfl, h0⟩
  · intro g1 h0
    unfold p_flatTo_k1 at h0
    refine AC.cond rfl (fun q2 => ?_) (fun q2 => ?_)
    · replace h0 := cT h0 q2
      refine AC.seq ?_
      refine AC.region ?_
      refine AO.op rfl (AOp.assign rfl rfl (ltb rfl) rfl ?_)
      refine AO.op rfl (AOp.assign rfl rfl (ltb rfl) rfl ?_)
      refine AO.nil ?_
      change AC _ _ _ _
      refine AC.sub 8 rfl (SVLe.nil 2) ?_
      refine AC.ret ?_
      change RetQ _ _ _ .ret _
      obtain rfl := Option.some.inj h0
      refine retq rfl rfl
    · replace h0 := cF h0 q2
      refine AC.skip ?_
      change AC _ _ _ _
      refine AC.seq ?_
      refine AC.region ?_
      refine AO.op rfl (AOp.move rfl rfl (ltb rfl) rfl ?_)
      obtain ⟨y3, q4, h0⟩ := bind_elim h0
      refine AO.op rfl (AOp.callD rfl rfl (ltb rfl) rfl rfl (w_Stride a0 y3 q4) ?_)
      rintro _ rfl
      refine AO.op rfl (AOp.assign rfl rfl (ltb rfl) rfl ?_)
      refine AO.nil ?_
      change AC _ _ _ _
      refine AC.seq ?_
      refine AC.joinP (V := Bool) [1, 2, 8, 10] [32] 0 (fun g5 => [(32, .d (dbool g5))]) (fun g5 => []) (fun g5 => (p_flatTo_k2 a1 a2 F y3) g5 = some r0) rfl ?_ ?_
      · refine AC.region ?_
        refine AO.op rfl (AOp.move rfl rfl (ltb rfl) rfl ?_)
        refine AO.op rfl (AOp.lenDs (n := a1.length) (cells := (List.map keS0 a1)) rfl rfl (ltb rfl) rfl el42 (by decide) (len1 _ _) ?_)
        refine AO.op rfl (AOp.move rfl rfl (ltb rfl) rfl ?_)
        obtain ⟨q23, h0⟩ := need_elim h0
        refine AO.op rfl (AOp.irem rfl rfl (ltb rfl) rfl rfl q23 rfl ?_)
        refine AO.op rfl (AOp.ineq rfl rfl (ltb rfl) rfl rfl ?_)
        refine AO.op rfl (AOp.move rfl rfl (ltb rfl) rfl ?_)
        refine AO.dec (!decide ((Int.tmod ((a1.length : Nat) : Int) y3) = (0 : Int))) (fun q24 => ?_) (fun q24 => ?_)
        · replace h0 := cT h0 q24
          refine AO.guardN rfl rfl rfl (ltb rfl) rfl q24 ?_
          refine AO.guardN rfl rfl rfl (ltb rfl) rfl q24 ?_
          refine AO.guardN rfl rfl rfl (ltb rfl) rfl q24 ?_
          refine AO.guardN rfl rfl rfl (ltb rfl) rfl q24 ?_
          refine AO.guardN rfl rfl rfl (ltb rfl) rfl q24 ?_
          refine AO.guardN rfl rfl rfl (ltb rfl) rfl q24 ?_
          refine AO.op rfl (AOp.pick rfl rfl (ltb rfl) rfl q24 rfl ?_)
          refine AO.nil ?_
          exact ⟨true, _, rfl, (LeL.refl _), rfl, rfl, h0⟩
        · replace h0 := cF h0 q24
          refine AO.guardY rfl rfl rfl q24 (AOp.move rfl rfl (ltb rfl) rfl ?_)
          refine AO.guardY rfl rfl rfl q24 (AOp.lenDs (n := a1.length) (cells := (List.map keS0 a1)) rfl rfl (ltb rfl) rfl el42 (by decide) (len1 _ _) ?_)
          refine AO.guardY rfl rfl rfl q24 (AOp.move rfl rfl (ltb rfl) rfl ?_)
          refine AO.guardY rfl rfl rfl q24 (AOp.move rfl rfl (ltb rfl) rfl ?_)
          obtain ⟨q25, h0⟩ := need_elim h0
          refine AO.guardY rfl rfl rfl q24 (AOp.imul rfl rfl (ltb rfl) rfl rfl rfl q25.1 q25.2 ?_)
          refine AO.guardY rfl rfl rfl q24 (AOp.igtr rfl rfl (ltb rfl) rfl rfl ?_)
          refine AO.op rfl (AOp.pickN rfl rfl (ltb rfl) rfl q24 rfl ?_)
          refine AO.nil ?_
          exact ⟨(decide ((y3 * a3) < ((a1.length : Nat) : Int))), _, rfl, (LeL.refl _), rfl, rfl, h0⟩
      · intro g5 h0
        unfold p_flatTo_k2 at h0
        refine AC.cond rfl (fun q6 => ?_) (fun q6 => ?_)
        · replace h0 := cT h0 q6
          refine AC.seq ?_
          refine AC.region ?_
          refine AO.op rfl (AOp.assign rfl rfl (ltb rfl) rfl ?_)
          refine AO.op rfl (AOp.assign rfl rfl (ltb rfl) rfl ?_)
          refine AO.nil ?_
          change AC _ _ _ _
          refine AC.sub 8 rfl (SVLe.nil 2) ?_
          refine AC.ret ?_
          change RetQ _ _ _ .ret _
          obtain rfl := Option.some.inj h0
          refine retq rfl rfl
        · replace h0 := cF h0 q6
          refine AC.skip ?_
          change AC _ _ _ _
          refine AC.seq ?_
          refine AC.seq ?_
          refine AC.region ?_
          refine AO.op rfl (AOp.assign rfl rfl (ltb rfl) rfl ?_)
          refine AO.nil ?_
          change AC _ _ _ _
          refine AC.adopt 8 24 2 rfl ?_
          obtain ⟨o7, l8, h0⟩ := bind_elim h0
          refine AC.joinE (V := (List TImpl_P2)) [2] [8] 1 (fun g9 => [(8, .own 0)]) (fun g9 => [.grow 24 2 (List.flatMap c_TImpl_P2 g9)]) (fun g9 => (p_flatTo_k3 a2 F) g9 = some r0) rfl ?_ ?_
          · refine AC.block ?_
            refine AC.loopP (V := (Int × (List TImpl_P2))) (p_flatTo_l4 a1 y3) o7 [1, 2, 10] [8, 11] 1 (fun g12 => [(8, .own 0), (11, .d (di .i64 g12.1))]) (fun g12 => [.grow 24 2 (List.flatMap c_TImpl_P2 g12.2)]) F ((0 : Int), []) l8 rfl rfl (LeL.refl _) rfl rfl ?_
            intro n14 g12 h1
            unfold p_flatTo_l4 at h1
            refine AC.seq ?_
            refine AC.seq ?_
            refine AC.region ?_
            refine AO.op rfl (AOp.move rfl rfl (ltb rfl) rfl ?_)
            refine AO.op rfl (AOp.move rfl rfl (ltb rfl) rfl ?_)
            refine AO.op rfl (AOp.lenDs (n := a1.length) (cells := (List.map keS0 a1)) rfl rfl (ltb rfl) rfl el42 (by decide) (len1 _ _) ?_)
            refine AO.op rfl (AOp.ilss rfl rfl (ltb rfl) rfl rfl ?_)
            refine AO.nil ?_
            change AC _ _ _ _
            refine AC.cond rfl (fun q15 => ?_) (fun q15 => ?_)
            · replace h1 := cT h1 q15
              refine AC.skip ?_
              change AC _ _ _ _
              refine AC.seq ?_
              refine AC.block ?_
              refine AC.draw 12 mixed (by kernel_rfl) ?_
              refine AD.op [8] rfl (by kernel_rfl) rfl rfl (fun _ _ h => AOp.move rfl rfl (ltb rfl) rfl h) ?_
              refine AD.op [1] rfl (by kernel_rfl) rfl rfl (fun _ _ h => AOp.move rfl rfl (ltb rfl) rfl h) ?_
              refine AD.op [11] rfl (by kernel_rfl) rfl rfl (fun _ _ h => AOp.move rfl rfl (ltb rfl) rfl h) ?_
              obtain ⟨x16, q17, h1⟩ := idx_elim h1
              refine AD.op [41, 42] rfl (by kernel_rfl) rfl rfl (fun _ _ h => AOp.indexDs (cells := (List.map keS0 a1)) rfl rfl (ltb rfl) rfl rfl el42 (by decide) q17.1 (lt1 q17.2) h) ?_
              refine AD.op [43] rfl (by kernel_rfl) rfl rfl (fun _ _ h => AOp.loadEp rfl rfl (ltb rfl) rfl agg22 (at1 q17.2) h) ?_
              refine AD.op [1] rfl (by kernel_rfl) rfl rfl (fun _ _ h => AOp.move rfl rfl (ltb rfl) rfl h) ?_
              refine AD.op [11] rfl (by kernel_rfl) rfl rfl (fun _ _ h => AOp.move rfl rfl (ltb rfl) rfl h) ?_
              obtain ⟨q18, h1⟩ := need_elim h1
              refine AD.op [46] rfl (by kernel_rfl) rfl rfl (fun _ _ h => AOp.iadd rfl rfl (ltb rfl) rfl rfl rfl q18.1 q18.2 h) ?_
              obtain ⟨x19, q20, h1⟩ := idx_elim h1
              refine AD.op [45, 47] rfl (by kernel_rfl) rfl rfl (fun _ _ h => AOp.indexDs (cells := (List.map keS0 a1)) rfl rfl (ltb rfl) rfl rfl el42 (by decide) q20.1 (lt1 q20.2) h) ?_
              refine AD.op [48] rfl (by kernel_rfl) rfl rfl (fun _ _ h => AOp.loadEp rfl rfl (ltb rfl) rfl agg22 (at1 q20.2) h) ?_
              refine AD.op [44, 49] rfl (by kernel_rfl) rfl rfl (fun _ _ h => AOp.build rfl rfl (ltb rfl) zero24 rfl places24 rfl rfl h) ?_
              refine AD.op [50] rfl (by kernel_rfl) rfl rfl (fun _ _ h => AOp.buildSliceD rfl rfl (ltb rfl) el43 zero24 rfl (leb rfl) rfl rfl rfl rfl h) ?_
              refine AD.done ?_
              obtain ⟨q21, h1⟩ := need_elim h1
              refine AO.op rfl (AOp.appendOwn' (n := g12.2.length) (m := [(TImpl_P2.mk x16 x19)].length) (news := (List.flatMap c_TImpl_P2 [(TImpl_P2.mk x16 x19)])) rfl rfl (ltb rfl) rfl rfl el43 info24 rfl (by decide) rfl (lenN _ 2 (fun _ => rfl) _) (lenN _ 2 (fun _ => rfl) _) (oneN _ (fun _ => rfl) _) q21 (by decide) rfl rfl (catN _ _ _) ?_)
              refine AO.op rfl (AOp.assign rfl rfl (ltb rfl) rfl ?_)
              refine AO.nil ?_
              change AC _ _ _ _
              refine AC.region ?_
              refine AO.op rfl (AOp.move rfl rfl (ltb rfl) rfl ?_)
              refine AO.op rfl (AOp.move rfl rfl (ltb rfl) rfl ?_)
              obtain ⟨q22, h1⟩ := need_elim h1
              refine AO.op rfl (AOp.iadd rfl rfl (ltb rfl) rfl rfl rfl q22.1 q22.2 ?_)
              refine AO.op rfl (AOp.assign rfl rfl (ltb rfl) rfl ?_)
              refine AO.nil ?_
              exact ⟨((g12.1 + y3), (g12.2 ++ [(TImpl_P2.mk x16 x19)])), _, rfl, (LeL.refl _), rfl, rfl, h1⟩
            · replace h1 := cF h1 q15
              refine AC.exit ?_
              obtain rfl := Option.some.inj h1
              exact ⟨g12.2, _, rfl, (LeL.refl _), rfl, rfl, aftL h0⟩
          · intro g9 h0
            unfold p_flatTo_k3 at h0
            change AC _ _ _ _
            refine AC.seq ?_
            refine AC.region ?_
            refine AO.op rfl (AOp.move rfl rfl (ltb rfl) rfl ?_)
            refine AO.op rfl (AOp.move rfl rfl (ltb rfl) rfl ?_)
            refine AO.op rfl (AOp.move rfl rfl (ltb rfl) rfl ?_)
            refine AO.freezeG 0 rfl rfl rfl ?_
            obtain ⟨y10, q11, h0⟩ := bind_elim h0
            refine AO.op rfl (AOp.callD rfl rfl (ltb rfl) rfl rfl (w_planeTo F a2 g9 y10 q11) ?_)
            rintro _ rfl
            refine AO.op rfl (AOp.assign rfl rfl (ltb rfl) rfl ?_)
            refine AO.op rfl (AOp.assign rfl rfl (ltb rfl) rfl ?_)
            refine AO.nil ?_
            change AC _ _ _ _
            refine AC.ret ?_
            change RetQ _ _ _ .ret _
            obtain rfl := Option.some.inj h0
            refine retq rfl rfl

set_option maxRecDepth 100000 in
set_option maxHeartbeats 1000000 in
/-- pub-orthodrome/laws.rowsOf -/
theorem w_rowsOf (F : Nat) (a0 : Int) (a1 : (List Nat)) (r0 : (List (List Nat))) (h0 : p_rowsOf F a0 a1 = some r0) : FnD Tryd.prog 18 [di .i64 a0, eS0 a1] (fun r => r = eS2 r0) := by
  refine FnD.of (by kernel_rfl) Tryd.func18 rfl Tryd.ntmps18 rfl (leb rfl) fun W ok => ?_
  unfold p_rowsOf at h0
  refine AC.seq ?_
  refine AC.region ?_
  refine AO.op rfl (AOp.assign rfl rfl (ltb rfl) rfl ?_)
  refine AO.nil ?_
  change AC _ _ _ _
  refine AC.seq ?_
  refine AC.region ?_
  refine AO.op rfl (AOp.assign rfl rfl (ltb rfl) rfl ?_)
  refine AO.nil ?_
  change AC _ _ _ _
  refine AC.seq ?_
  refine AC.region ?_
  refine AO.op rfl (AOp.move rfl rfl (ltb rfl) rfl ?_)
  obtain ⟨y1, q2, h0⟩ := bind_elim h0
  refine AO.op rfl (AOp.callD rfl rfl (ltb rfl) rfl rfl (w_Stride a0 y1 q2) ?_)
  rintro _ rfl
  refine AO.op rfl (AOp.assign rfl rfl (ltb rfl) rfl ?_)
  refine AO.nil ?_
  change AC _ _ _ _
  refine AC.seq ?_
  refine AC.seq ?_
  refine AC.region ?_
  refine AO.op rfl (AOp.assign rfl rfl (ltb rfl) rfl ?_)
  refine AO.nil ?_
  change AC _ _ _ _
  refine AC.adopt 5 42 1 rfl ?_
  obtain ⟨o3, l4, h0⟩ := bind_elim h0
  refine AC.joinE (V := (List (List Nat))) [] [5] 1 (fun g5 => [(5, .own 0)]) (fun g5 => [.grow 42 1 (List.map keS2 g5)]) (fun g5 => p_rowsOf_k1 g5 = some r0) rfl ?_ ?_
  · refine AC.block ?_
    refine AC.loopP (V := (Int × (List (List Nat)))) (p_rowsOf_l2 a1 y1) o3 [1, 6] [5, 7] 1 (fun g6 => [(5, .own 0), (7, .d (di .i64 g6.1))]) (fun g6 => [.grow 42 1 (List.map keS2 g6.2)]) F ((0 : Int), []) l4 rfl rfl (LeL.refl _) rfl rfl ?_
    intro n8 g6 h1
    unfold p_rowsOf_l2 at h1
    refine AC.seq ?_
    refine AC.seq ?_
    refine AC.region ?_
    refine AO.op rfl (AOp.move rfl rfl (ltb rfl) rfl ?_)
    refine AO.op rfl (AOp.move rfl rfl (ltb rfl) rfl ?_)
    obtain ⟨q9, h1⟩ := need_elim h1
    refine AO.op rfl (AOp.iadd rfl rfl (ltb rfl) rfl rfl rfl q9.1 q9.2 ?_)
    refine AO.op rfl (AOp.move rfl rfl (ltb rfl) rfl ?_)
    refine AO.op rfl (AOp.lenDs (n := a1.length) (cells := (List.map keS0 a1)) rfl rfl (ltb rfl) rfl el42 (by decide) (len1 _ _) ?_)
    refine AO.op rfl (AOp.ileq rfl rfl (ltb rfl) rfl rfl ?_)
    refine AO.nil ?_
    change AC _ _ _ _
    refine AC.cond rfl (fun q10 => ?_) (fun q10 => ?_)
    · replace h1 := cT h1 q10
      refine AC.skip ?_
      change AC _ _ _ _
      refine AC.seq ?_
      refine AC.block ?_
      refine AC.region ?_
      refine AO.op rfl (AOp.move rfl rfl (ltb rfl) rfl ?_)
      refine AO.op rfl (AOp.move rfl rfl (ltb rfl) rfl ?_)
      refine AO.op rfl (AOp.move rfl rfl (ltb rfl) rfl ?_)
      refine AO.op rfl (AOp.move rfl rfl (ltb rfl) rfl ?_)
      refine AO.op rfl (AOp.move rfl rfl (ltb rfl) rfl ?_)
      obtain ⟨q11, h1⟩ := need_elim h1
      refine AO.op rfl (AOp.iadd rfl rfl (ltb rfl) rfl rfl rfl q11.1 q11.2 ?_)
      obtain ⟨q12, h1⟩ := need_elim h1
      refine AO.op rfl (AOp.sliceD (cells := (List.map keS0 a1)) (n := a1.length) (l := (g6.1).toNat) (hh := ((g6.1 + y1)).toNat) rfl rfl (ltb rfl) rfl (.inr ⟨_, _, _, rfl, rfl, q12.1.1, rfl⟩) (.inr ⟨_, _, _, rfl, rfl, q12.1.2, rfl⟩) el42 (by decide) (len1 _ _) q12.2.1 q12.2.2 (sub1 _ _ _ _) ?_)
      refine AO.op rfl (AOp.buildSliceD rfl rfl (ltb rfl) el46 zero42 rfl (leb rfl) rfl rfl rfl rfl ?_)
      obtain ⟨q13, h1⟩ := need_elim h1
      refine AO.op rfl (AOp.appendOwn' (n := g6.2.length) (m := [((a1.drop (g6.1).toNat).take (((g6.1 + y1)).toNat - (g6.1).toNat))].length) (news := (List.map keS2 [((a1.drop (g6.1).toNat).take (((g6.1 + y1)).toNat - (g6.1).toNat))])) rfl rfl (ltb rfl) rfl rfl el46 info42 rfl (by decide) rfl (len1 _ _) (len1 _ _) (one1 _ (fun _ => rfl) _) q13 (by decide) rfl rfl (cat1 _ _ _) ?_)
      refine AO.op rfl (AOp.assign rfl rfl (ltb rfl) rfl ?_)
      refine AO.nil ?_
      change AC _ _ _ _
      refine AC.region ?_
      refine AO.op rfl (AOp.move rfl rfl (ltb rfl) rfl ?_)
      refine AO.op rfl (AOp.move rfl rfl (ltb rfl) rfl ?_)
      obtain ⟨q14, h1⟩ := need_elim h1
      refine AO.op rfl (AOp.iadd rfl rfl (ltb rfl) rfl rfl rfl q14.1 q14.2 ?_)
      refine AO.op rfl (AOp.assign rfl rfl (ltb rfl) rfl ?_)
      refine AO.nil ?_
      exact ⟨((g6.1 + y1), (g6.2 ++ [((a1.drop (g6.1).toNat).take (((g6.1 + y1)).toNat - (g6.1).toNat))])), _, rfl, (LeL.refl _), rfl, rfl, h1⟩
    · replace h1 := cF h1 q10
      refine AC.exit ?_
      obtain rfl := Option.some.inj h1
      exact ⟨g6.2, _, rfl, (LeL.refl _), rfl, rfl, aftL h0⟩
  · intro g5 h0
    unfold p_rowsOf_k1 at h0
    change AC _ _ _ _
    refine AC.seq ?_
    refine AC.region ?_
    refine AO.op rfl (AOp.move rfl rfl (ltb rfl) rfl ?_)
    refine AO.op rfl (AOp.assign rfl rfl (ltb rfl) rfl ?_)
    refine AO.nil ?_
    change AC _ _ _ _
    refine AC.ret ?_
    change RetQ _ _ _ .ret _
    obtain rfl := Option.some.inj h0
    refine retq rfl rfl

theorem callBits (x : Nat) (w : World) : (callFunc 68 #[.float .f64 x]).run Tryd.prog w = .ok (.value (.int .u64 x)) w := by
  rw [run_callFunc_extern Tryd.func68 (by kernel_rfl) (by kernel_rfl) (by kernel_rfl) (e := Extern.MathFloatBits.float64bits) (by kernel_rfl), run_f64bits Tryd.prog x]
  rfl

set_option maxRecDepth 100000 in
set_option maxHeartbeats 1000000 in
/-- pub-orthodrome/spec.trim -/
theorem w_trim (F : Nat) (a0 : (List Int)) (r0 : (List Int)) (h0 : p_trim F a0 = some r0) : FnD Tryd.prog 57 [eS3 a0] (fun r => r = eS3 r0) := by
  refine FnD.of (by kernel_rfl) Tryd.func57 rfl Tryd.ntmps57 rfl (leb rfl) fun W ok => ?_
  unfold p_trim at h0
  refine AC.seq ?_
  refine AC.region ?_
  refine AO.op rfl (AOp.assign rfl rfl (ltb rfl) rfl ?_)
  refine AO.nil ?_
  change AC _ _ _ _
  obtain ⟨o1, l2, h0⟩ := bind_elim h0
  refine AC.joinP (V := (List Int)) [] [0] 0 (fun g3 => [(0, .d (eS3 g3))]) (fun g3 => []) (fun g3 => p_trim_k1 g3 = some r0) rfl ?_ ?_
  · refine AC.block ?_
    refine AC.loopP (V := (List Int)) p_trim_l2 o1 [] [0] 0 (fun g4 => [(0, .d (eS3 g4))]) (fun g4 => []) F a0 l2 rfl rfl (LeL.refl _) rfl rfl ?_
    intro n6 g4 h1
    unfold p_trim_l2 at h1
    refine AC.seq ?_
    refine AC.seq ?_
    refine AC.region ?_
    refine AO.op rfl (AOp.move rfl rfl (ltb rfl) rfl ?_)
    refine AO.op rfl (AOp.lenDs (n := g4.length) (cells := (List.map keS3 g4)) rfl rfl (ltb rfl) rfl el26 (by decide) (len1 _ _) ?_)
    refine AO.op rfl (AOp.igtr rfl rfl (ltb rfl) rfl rfl ?_)
    refine AO.op rfl (AOp.move rfl rfl (ltb rfl) rfl ?_)
    refine AO.dec (decide ((0 : Int) < ((g4.length : Nat) : Int))) (fun q7 => ?_) (fun q7 => ?_)
    · replace h1 := cT h1 q7
      refine AO.guardY rfl rfl rfl q7 (AOp.move rfl rfl (ltb rfl) rfl ?_)
      refine AO.guardY rfl rfl rfl q7 (AOp.move rfl rfl (ltb rfl) rfl ?_)
      refine AO.guardY rfl rfl rfl q7 (AOp.lenDs (n := g4.length) (cells := (List.map keS3 g4)) rfl rfl (ltb rfl) rfl el26 (by decide) (len1 _ _) ?_)
      obtain ⟨q8, h1⟩ := need_elim h1
      refine AO.guardY rfl rfl rfl q7 (AOp.isub rfl rfl (ltb rfl) rfl rfl rfl q8.1 q8.2 ?_)
      obtain ⟨x9, q10, h1⟩ := idx_elim h1
      refine AO.guardY rfl rfl rfl q7 (AOp.indexDs (cells := (List.map keS3 g4)) rfl rfl (ltb rfl) rfl rfl el26 (by decide) q10.1 (lt1 q10.2) ?_)
      refine AO.guardY rfl rfl rfl q7 (AOp.loadEp rfl rfl (ltb rfl) rfl agg90 (at1 q10.2) ?_)
      refine AO.guardY rfl rfl rfl q7 (AOp.ieql rfl rfl (ltb rfl) rfl rfl ?_)
      refine AO.op rfl (AOp.pick rfl rfl (ltb rfl) rfl q7 rfl ?_)
      refine AO.nil ?_
      change AC _ _ _ _
      refine AC.cond rfl (fun q11 => ?_) (fun q11 => ?_)
      · replace h1 := cT h1 q11
        refine AC.skip ?_
        change AC _ _ _ _
        refine AC.block ?_
        refine AC.region ?_
        refine AO.op rfl (AOp.move rfl rfl (ltb rfl) rfl ?_)
        refine AO.op rfl (AOp.move rfl rfl (ltb rfl) rfl ?_)
        refine AO.op rfl (AOp.lenDs (n := g4.length) (cells := (List.map keS3 g4)) rfl rfl (ltb rfl) rfl el26 (by decide) (len1 _ _) ?_)
        obtain ⟨q12, h1⟩ := need_elim h1
        refine AO.op rfl (AOp.isub rfl rfl (ltb rfl) rfl rfl rfl q12.1 q12.2 ?_)
        obtain ⟨q13, h1⟩ := need_elim h1
        refine AO.op rfl (AOp.sliceD (cells := (List.map keS3 g4)) (n := g4.length) (l := 0) (hh := ((((g4.length : Nat) : Int) - (1 : Int))).toNat) rfl rfl (ltb rfl) rfl (.inl ⟨rfl, rfl⟩) (.inr ⟨_, _, _, rfl, rfl, q13.1.2, rfl⟩) el26 (by decide) (len1 _ _) q13.2.1 q13.2.2 (sub1 _ _ _ _) ?_)
        refine AO.op rfl (AOp.assign rfl rfl (ltb rfl) rfl ?_)
        refine AO.nil ?_
        exact ⟨((g4.drop 0).take (((((g4.length : Nat) : Int) - (1 : Int))).toNat - 0)), _, rfl, (LeL.refl _), rfl, rfl, h1⟩
      · replace h1 := cF h1 q11
        refine AC.exit ?_
        obtain rfl := Option.some.inj h1
        exact ⟨g4, _, rfl, (LeL.refl _), rfl, rfl, aftL h0⟩
    · replace h1 := cF h1 q7
      refine AO.guardN rfl rfl rfl (ltb rfl) rfl q7 ?_
      refine AO.guardN rfl rfl rfl (ltb rfl) rfl q7 ?_
      refine AO.guardN rfl rfl rfl (ltb rfl) rfl q7 ?_
      refine AO.guardN rfl rfl rfl (ltb rfl) rfl q7 ?_
      refine AO.guardN rfl rfl rfl (ltb rfl) rfl q7 ?_
      refine AO.guardN rfl rfl rfl (ltb rfl) rfl q7 ?_
      refine AO.guardN rfl rfl rfl (ltb rfl) rfl q7 ?_
      refine AO.op rfl (AOp.pickN rfl rfl (ltb rfl) rfl q7 rfl ?_)
      refine AO.nil ?_
      change AC _ _ _ _
      refine AC.condF rfl rfl ?_
      refine AC.exit ?_
      obtain rfl := Option.some.inj h1
      exact ⟨g4, _, rfl, (LeL.refl _), rfl, rfl, aftL h0⟩
  · intro g3 h0
    unfold p_trim_k1 at h0
    refine AC.seq ?_
    refine AC.region ?_
    refine AO.op rfl (AOp.move rfl rfl (ltb rfl) rfl ?_)
    refine AO.op rfl (AOp.assign rfl rfl (ltb rfl) rfl ?_)
    refine AO.nil ?_
    change AC _ _ _ _
    refine AC.ret ?_
    change RetQ _ _ _ .ret _
    obtain rfl := Option.some.inj h0
    refine retq rfl rfl

set_option maxRecDepth 100000 in
set_option maxHeartbeats 1000000 in
/-- pub-orthodrome/spec.WholeOf -/
theorem w_WholeOf (F : Nat) (a0 : Int) (r0 : TSpec_Whole) (h0 : p_WholeOf F a0 = some r0) : FnD Tryd.prog 35 [di .i64 a0] (fun r => r = e_TSpec_Whole r0) := by
  refine FnD.of (by kernel_rfl) Tryd.func35 rfl Tryd.ntmps35 rfl (leb rfl) fun W ok => ?_
  unfold p_WholeOf at h0
  refine AC.seq ?_
  refine AC.region ?_
  refine AO.op rfl (AOp.alloc rfl rfl (ltb rfl) zero28 rfl ?_)
  refine AO.nil ?_
  change AC _ _ _ _
  refine AC.seq ?_
  refine AC.region ?_
  refine AO.op rfl (AOp.move rfl rfl (ltb rfl) rfl ?_)
  refine AO.op rfl (AOp.i2i rfl rfl (ltb rfl) rfl Tryd.underlying2 Tryd.underlying88 rfl ?_)
  refine AO.op rfl (AOp.assign rfl rfl (ltb rfl) rfl ?_)
  refine AO.nil ?_
  change AC _ _ _ _
  refine AC.joinP (V := Int) [0, 2] [3] 1 (fun g1 => [(3, .d (di .u64 g1))]) (fun g1 => [.fix 28 [.d (dbool false), .d (.v (.slice none 0 0))]]) (fun g1 => (p_WholeOf_k1 a0 F) g1 = some r0) rfl ?_ ?_
  · refine AC.seq ?_
    refine AC.region ?_
    refine AO.op rfl (AOp.move rfl rfl (ltb rfl) rfl ?_)
    refine AO.op rfl (AOp.ilss rfl rfl (ltb rfl) rfl rfl ?_)
    refine AO.nil ?_
    change AC _ _ _ _
    refine AC.cond rfl (fun q5 => ?_) (fun q5 => ?_)
    · replace h0 := cT h0 q5
      refine AC.region ?_
      refine AO.op rfl (AOp.move rfl rfl (ltb rfl) rfl ?_)
      refine AO.op rfl (AOp.inegW rfl rfl (ltb rfl) rfl ?_)
      refine AO.op rfl (AOp.assign rfl rfl (ltb rfl) rfl ?_)
      refine AO.nil ?_
      exact ⟨(IntKind.u64.wrap (-(IntKind.u64.wrap a0))), _, rfl, (LeL.refl _), rfl, rfl, h0⟩
    · replace h0 := cF h0 q5
      refine AC.skip ?_
      exact ⟨(IntKind.u64.wrap a0), _, rfl, (LeL.refl _), rfl, rfl, h0⟩
  · intro g1 h0
    unfold p_WholeOf_k1 at h0
    refine AC.seq ?_
    refine AC.region ?_
    refine AO.op rfl (AOp.move rfl rfl (ltb rfl) rfl ?_)
    refine AO.op rfl (AOp.ilss rfl rfl (ltb rfl) rfl rfl ?_)
    refine AO.op rfl (AOp.move rfl rfl (ltb rfl) rfl ?_)
    refine AO.op rfl (AOp.i2i rfl rfl (ltb rfl) rfl Tryd.underlying88 Tryd.underlying90 rfl ?_)
    refine AO.op rfl (AOp.move rfl rfl (ltb rfl) rfl ?_)
    obtain ⟨q2, h0⟩ := need_elim h0
    refine AO.op rfl (AOp.ishr (n := 32) rfl rfl (ltb rfl) rfl rfl (by decide) q2 rfl ?_)
    refine AO.op rfl (AOp.i2i rfl rfl (ltb rfl) rfl Tryd.underlying88 Tryd.underlying90 rfl ?_)
    refine AO.op rfl (AOp.buildSliceD rfl rfl (ltb rfl) el26 zero90 rfl (leb rfl) rfl rfl rfl rfl ?_)
    obtain ⟨y3, q4, h0⟩ := bind_elim h0
    refine AO.op rfl (AOp.callD rfl rfl (ltb rfl) rfl rfl (w_trim F [(IntKind.u32.wrap g1), (IntKind.u32.wrap (g1 / 2 ^ 32))] y3 q4) ?_)
    rintro _ rfl
    refine AO.op rfl (AOp.build rfl rfl (ltb rfl) zero28 rfl places28 rfl rfl ?_)
    refine AO.op rfl (AOp.store rfl rfl rfl rfl size28 rfl rfl rfl (leb rfl) ?_)
    refine AO.nil ?_
    change AC _ _ _ _
    refine AC.ret ?_
    change RetQ _ _ _ .ret _
    obtain rfl := Option.some.inj h0
    refine retq rfl rfl

set_option maxRecDepth 100000 in
set_option maxHeartbeats 1000000 in
/-- pub-orthodrome/spec.DyadicOf -/
theorem w_DyadicOf (F : Nat) (a0 : Nat) (r0 : TSpec_Dyadic) (h0 : p_DyadicOf F a0 = some r0) : FnD Tryd.prog 51 [dfl a0] (fun r => r = e_TSpec_Dyadic r0) := by
  refine FnD.of (by kernel_rfl) Tryd.func51 rfl Tryd.ntmps51 rfl (leb rfl) fun W ok => ?_
  unfold p_DyadicOf at h0
  refine AC.seq ?_
  refine AC.region ?_
  refine AO.op rfl (AOp.alloc rfl rfl (ltb rfl) zero30 rfl ?_)
  refine AO.nil ?_
  change AC _ _ _ _
  refine AC.seq ?_
  refine AC.region ?_
  refine AO.op rfl (AOp.move rfl rfl (ltb rfl) rfl ?_)
  refine AO.op rfl (AOp.callX [.float .f64 a0] rfl rfl (ltb rfl) rfl (callBits a0) ?_)
  refine AO.op rfl (AOp.assign rfl rfl (ltb rfl) rfl ?_)
  refine AO.nil ?_
  change AC _ _ _ _
  refine AC.seq ?_
  refine AC.region ?_
  refine AO.op rfl (AOp.move rfl rfl (ltb rfl) rfl ?_)
  refine AO.op rfl (AOp.ibits (by simp) rfl rfl (ltb rfl) rfl rfl rfl ?_)
  refine AO.op rfl (AOp.i2i rfl rfl (ltb rfl) rfl Tryd.underlying88 Tryd.underlying2 rfl ?_)
  refine AO.op rfl (AOp.move rfl rfl (ltb rfl) rfl ?_)
  obtain ⟨q1, h0⟩ := need_elim h0
  refine AO.op rfl (AOp.ishr (n := 52) rfl rfl (ltb rfl) rfl rfl (by decide) q1 rfl ?_)
  refine AO.op rfl (AOp.ibits (by simp) rfl rfl (ltb rfl) rfl rfl rfl ?_)
  refine AO.op rfl (AOp.i2i rfl rfl (ltb rfl) rfl Tryd.underlying88 Tryd.underlying3 rfl ?_)
  refine AO.op rfl (AOp.assign rfl rfl (ltb rfl) rfl ?_)
  refine AO.op rfl (AOp.assign rfl rfl (ltb rfl) rfl ?_)
  refine AO.nil ?_
  change AC _ _ _ _
  refine AC.joinP (V := (Int × Int)) [2, 3] [4, 5] 1 (fun g2 => [(4, .d (di .i64 g2.1)), (5, .d (di .i64 g2.2))]) (fun g2 => [.fix 30 [.d (dbool false), .d (.v (.slice none 0 0)), .d (di .i64 (0 : Int))]]) (fun g2 => (p_DyadicOf_k1 a0 F) g2 = some r0) rfl ?_ ?_
  · refine AC.seq ?_
    refine AC.region ?_
    refine AO.op rfl (AOp.move rfl rfl (ltb rfl) rfl ?_)
    refine AO.nil ?_
    change AC _ _ _ _
    refine AC.block ?_
    refine AC.seq ?_
    refine AC.region ?_
    refine AO.op rfl (AOp.ieql rfl rfl (ltb rfl) rfl rfl ?_)
    refine AO.op rfl (AOp.assign rfl rfl (ltb rfl) rfl ?_)
    refine AO.nil ?_
    change AC _ _ _ _
    refine AC.cond rfl (fun q12 => ?_) (fun q12 => ?_)
    · replace h0 := cT h0 q12
      refine AC.seq ?_
      refine AC.region ?_
      refine AO.op rfl (AOp.build rfl rfl (ltb rfl) zero30 rfl places30 rfl rfl ?_)
      refine AO.op rfl (AOp.store rfl rfl rfl rfl size30 rfl rfl rfl (leb rfl) ?_)
      refine AO.nil ?_
      change AC _ _ _ _
      refine AC.subO 0 rfl (.cons (SVLe.refl _) (.cons (SVLe.nil 1) (.cons (SVLe.refl _) .nil))) ?_
      refine AC.ret ?_
      change RetQ _ _ _ .ret _
      obtain rfl := Option.some.inj h0
      refine retq rfl rfl
    · replace h0 := cF h0 q12
      refine AC.seq ?_
      refine AC.region ?_
      refine AO.op rfl (AOp.ieql rfl rfl (ltb rfl) rfl rfl ?_)
      refine AO.op rfl (AOp.assign rfl rfl (ltb rfl) rfl ?_)
      refine AO.nil ?_
      change AC _ _ _ _
      refine AC.cond rfl (fun q13 => ?_) (fun q13 => ?_)
      · replace h0 := cT h0 q13
        refine AC.region ?_
        refine AO.op rfl (AOp.assign rfl rfl (ltb rfl) rfl ?_)
        refine AO.nil ?_
        exact ⟨((IntKind.i64.wrap (bits .and .u64 ((a0 : Nat) : Int) (4503599627370495 : Int))), (1 : Int)), _, rfl, (LeL.refl _), rfl, rfl, h0⟩
      · replace h0 := cF h0 q13
        refine AC.region ?_
        refine AO.op rfl (AOp.move rfl rfl (ltb rfl) rfl ?_)
        obtain ⟨q14, h0⟩ := need_elim h0
        refine AO.op rfl (AOp.iadd rfl rfl (ltb rfl) rfl rfl rfl q14.1 q14.2 ?_)
        refine AO.op rfl (AOp.assign rfl rfl (ltb rfl) rfl ?_)
        refine AO.nil ?_
        exact ⟨(((IntKind.i64.wrap (bits .and .u64 ((a0 : Nat) : Int) (4503599627370495 : Int))) + (4503599627370496 : Int)), (IntKind.i64.wrap (bits .and .u64 (((a0 : Nat) : Int) / 2 ^ 52) (2047 : Int)))), _, rfl, (LeL.refl _), rfl, rfl, h0⟩
  · intro g2 h0
    unfold p_DyadicOf_k1 at h0
    refine AC.seq ?_
    refine AC.seq ?_
    refine AC.region ?_
    refine AO.op rfl (AOp.move rfl rfl (ltb rfl) rfl ?_)
    obtain ⟨q3, h0⟩ := need_elim h0
    refine AO.op rfl (AOp.ishr (n := 63) rfl rfl (ltb rfl) rfl rfl (by decide) q3 rfl ?_)
    refine AO.op rfl (AOp.ieql rfl rfl (ltb rfl) rfl rfl ?_)
    refine AO.nil ?_
    change AC _ _ _ _
    refine AC.cond rfl (fun q4 => ?_) (fun q4 => ?_)
    · replace h0 := cT h0 q4
      refine AC.region ?_
      refine AO.op rfl (AOp.move rfl rfl (ltb rfl) rfl ?_)
      obtain ⟨q5, h0⟩ := need_elim h0
      refine AO.op rfl (AOp.ineg rfl rfl (ltb rfl) rfl rfl q5.1 q5.2 ?_)
      refine AO.op rfl (AOp.assign rfl rfl (ltb rfl) rfl ?_)
      refine AO.nil ?_
      change AC _ _ _ _
      refine AC.seq ?_
      refine AC.region ?_
      refine AO.op rfl (AOp.move rfl rfl (ltb rfl) rfl ?_)
      obtain ⟨y6, q7, h0⟩ := bind_elim h0
      refine AO.op rfl (AOp.callD rfl rfl (ltb rfl) rfl rfl (w_WholeOf F (-g2.1) y6 q7) ?_)
      rintro _ rfl
      refine AO.op rfl (AOp.move rfl rfl (ltb rfl) rfl ?_)
      obtain ⟨q8, h0⟩ := need_elim h0
      refine AO.op rfl (AOp.isub rfl rfl (ltb rfl) rfl rfl rfl q8.1 q8.2 ?_)
      refine AO.op rfl (AOp.build rfl rfl (ltb rfl) zero30 rfl places30 rfl rfl ?_)
      refine AO.op rfl (AOp.store rfl rfl rfl rfl size30 rfl rfl rfl (leb rfl) ?_)
      refine AO.nil ?_
      change AC _ _ _ _
      refine AC.ret ?_
      change RetQ _ _ _ .ret _
      obtain rfl := Option.some.inj h0
      refine retq rfl rfl
    · replace h0 := cF h0 q4
      refine AC.skip ?_
      change AC _ _ _ _
      refine AC.seq ?_
      refine AC.region ?_
      refine AO.op rfl (AOp.move rfl rfl (ltb rfl) rfl ?_)
      obtain ⟨y9, q10, h0⟩ := bind_elim h0
      refine AO.op rfl (AOp.callD rfl rfl (ltb rfl) rfl rfl (w_WholeOf F g2.1 y9 q10) ?_)
      rintro _ rfl
      refine AO.op rfl (AOp.move rfl rfl (ltb rfl) rfl ?_)
      obtain ⟨q11, h0⟩ := need_elim h0
      refine AO.op rfl (AOp.isub rfl rfl (ltb rfl) rfl rfl rfl q11.1 q11.2 ?_)
      refine AO.op rfl (AOp.build rfl rfl (ltb rfl) zero30 rfl places30 rfl rfl ?_)
      refine AO.op rfl (AOp.store rfl rfl rfl rfl size30 rfl rfl rfl (leb rfl) ?_)
      refine AO.nil ?_
      change AC _ _ _ _
      refine AC.ret ?_
      change RetQ _ _ _ .ret _
      obtain rfl := Option.some.inj h0
      refine retq rfl rfl

set_option maxRecDepth 100000 in
set_option maxHeartbeats 1000000 in
/-- pub-orthodrome/spec.PointOf -/
theorem w_PointOf (F : Nat) (a0 : Nat) (a1 : Nat) (r0 : TSpec_Point) (h0 : p_PointOf F a0 a1 = some r0) : FnD Tryd.prog 28 [dfl a0, dfl a1] (fun r => r = e_TSpec_Point r0) := by
  refine FnD.of (by kernel_rfl) Tryd.func28 rfl Tryd.ntmps28 rfl (leb rfl) fun W ok => ?_
  unfold p_PointOf at h0
  refine AC.seq ?_
  refine AC.region ?_
  refine AO.op rfl (AOp.alloc rfl rfl (ltb rfl) zero32 rfl ?_)
  refine AO.nil ?_
  change AC _ _ _ _
  refine AC.seq ?_
  refine AC.region ?_
  refine AO.op rfl (AOp.move rfl rfl (ltb rfl) rfl ?_)
  obtain ⟨y1, q2, h0⟩ := bind_elim h0
  refine AO.op rfl (AOp.callD rfl rfl (ltb rfl) rfl rfl (w_DyadicOf F a0 y1 q2) ?_)
  rintro _ rfl
  refine AO.op rfl (AOp.move rfl rfl (ltb rfl) rfl ?_)
  obtain ⟨y3, q4, h0⟩ := bind_elim h0
  refine AO.op rfl (AOp.callD rfl rfl (ltb rfl) rfl rfl (w_DyadicOf F a1 y3 q4) ?_)
  rintro _ rfl
  refine AO.op rfl (AOp.build rfl rfl (ltb rfl) zero32 rfl places32 rfl rfl ?_)
  refine AO.op rfl (AOp.store rfl rfl rfl rfl size32 rfl rfl rfl (leb rfl) ?_)
  refine AO.nil ?_
  change AC _ _ _ _
  refine AC.ret ?_
  change RetQ _ _ _ .ret _
  obtain rfl := Option.some.inj h0
  refine retq rfl rfl

set_option maxRecDepth 100000 in
set_option maxHeartbeats 1000000 in
/-- pub-orthodrome/laws.exactly -/
theorem w_exactly (F : Nat) (a0 : TImpl_P2) (r0 : TSpec_Point) (h0 : p_exactly F a0 = some r0) : FnD Tryd.prog 8 [e_TImpl_P2 a0] (fun r => r = e_TSpec_Point r0) := by
  refine FnD.of (by kernel_rfl) Tryd.func8 rfl Tryd.ntmps8 rfl (leb rfl) fun W ok => ?_
  unfold p_exactly at h0
  refine AC.seq ?_
  refine AC.region ?_
  refine AO.op rfl (AOp.box rfl rfl (ltb rfl) rfl rfl ?_)
  refine AO.op rfl (AOp.alloc rfl rfl (ltb rfl) zero32 rfl ?_)
  refine AO.nil ?_
  change AC _ _ _ _
  refine AC.seq ?_
  refine AC.region ?_
  refine AO.op rfl (AOp.fieldAddr rfl rfl (ltb rfl) rfl fo24_0 ?_)
  refine AO.op rfl (AOp.load1 rfl rfl (ltb rfl) rfl agg22 rfl rfl ?_)
  refine AO.op rfl (AOp.fieldAddr rfl rfl (ltb rfl) rfl fo24_1 ?_)
  refine AO.op rfl (AOp.load1 rfl rfl (ltb rfl) rfl agg22 rfl rfl ?_)
  obtain ⟨y1, q2, h0⟩ := bind_elim h0
  refine AO.op rfl (AOp.callD rfl rfl (ltb rfl) rfl rfl (w_PointOf F a0.X a0.Y y1 q2) ?_)
  rintro _ rfl
  refine AO.op rfl (AOp.store rfl rfl rfl rfl size32 rfl rfl rfl (leb rfl) ?_)
  refine AO.nil ?_
  change AC _ _ _ _
  refine AC.ret ?_
  change RetQ _ _ _ .ret _
  obtain rfl := Option.some.inj h0
  refine retq rfl rfl

set_option maxRecDepth 100000 in
set_option maxHeartbeats 1000000 in
/-- (pub-orthodrome/spec.Whole).Minus -/
theorem w_Whole_Minus (a0 : TSpec_Whole) (r0 : TSpec_Whole) (h0 : p_Whole_Minus a0 = some r0) : FnD Tryd.prog 56 [e_TSpec_Whole a0] (fun r => r = e_TSpec_Whole r0) := by
  refine FnD.of (by kernel_rfl) Tryd.func56 rfl Tryd.ntmps56 rfl (leb rfl) fun W ok => ?_
  unfold p_Whole_Minus at h0
  refine AC.seq ?_
  refine AC.region ?_
  refine AO.op rfl (AOp.box rfl rfl (ltb rfl) rfl rfl ?_)
  refine AO.op rfl (AOp.alloc rfl rfl (ltb rfl) zero28 rfl ?_)
  refine AO.nil ?_
  change AC _ _ _ _
  refine AC.seq ?_
  refine AC.region ?_
  refine AO.op rfl (AOp.fieldAddr rfl rfl (ltb rfl) rfl fo28_0 ?_)
  refine AO.op rfl (AOp.load1 rfl rfl (ltb rfl) rfl agg4 rfl rfl ?_)
  refine AO.op rfl (AOp.bnot rfl rfl (ltb rfl) rfl ?_)
  refine AO.op rfl (AOp.move rfl rfl (ltb rfl) rfl ?_)
  refine AO.dec (!a0.Neg) (fun q1 => ?_) (fun q1 => ?_)
  · replace h0 := cT h0 q1
    refine AO.guardY rfl rfl rfl q1 (AOp.fieldAddr rfl rfl (ltb rfl) rfl fo28_1 ?_)
    refine AO.guardY rfl rfl rfl q1 (AOp.load1 rfl rfl (ltb rfl) rfl agg26 rfl rfl ?_)
    refine AO.guardY rfl rfl rfl q1 (AOp.lenDs (n := a0.L.length) (cells := (List.map keS3 a0.L)) rfl rfl (ltb rfl) rfl el26 (by decide) (len1 _ _) ?_)
    refine AO.guardY rfl rfl rfl q1 (AOp.igtr rfl rfl (ltb rfl) rfl rfl ?_)
    refine AO.op rfl (AOp.pick rfl rfl (ltb rfl) rfl q1 rfl ?_)
    refine AO.op rfl (AOp.fieldAddr rfl rfl (ltb rfl) rfl fo28_1 ?_)
    refine AO.op rfl (AOp.load1 rfl rfl (ltb rfl) rfl agg26 rfl rfl ?_)
    refine AO.op rfl (AOp.build rfl rfl (ltb rfl) zero28 rfl places28 rfl rfl ?_)
    refine AO.op rfl (AOp.store rfl rfl rfl rfl size28 rfl rfl rfl (leb rfl) ?_)
    refine AO.nil ?_
    change AC _ _ _ _
    refine AC.ret ?_
    change RetQ _ _ _ .ret _
    obtain rfl := Option.some.inj h0
    refine retq rfl rfl
  · replace h0 := cF h0 q1
    refine AO.guardN rfl rfl rfl (ltb rfl) rfl q1 ?_
    refine AO.guardN rfl rfl rfl (ltb rfl) rfl q1 ?_
    refine AO.guardN rfl rfl rfl (ltb rfl) rfl q1 ?_
    refine AO.guardN rfl rfl rfl (ltb rfl) rfl q1 ?_
    refine AO.op rfl (AOp.pickN rfl rfl (ltb rfl) rfl q1 rfl ?_)
    refine AO.op rfl (AOp.fieldAddr rfl rfl (ltb rfl) rfl fo28_1 ?_)
    refine AO.op rfl (AOp.load1 rfl rfl (ltb rfl) rfl agg26 rfl rfl ?_)
    refine AO.op rfl (AOp.build rfl rfl (ltb rfl) zero28 rfl places28 rfl rfl ?_)
    refine AO.op rfl (AOp.store rfl rfl rfl rfl size28 rfl rfl rfl (leb rfl) ?_)
    refine AO.nil ?_
    change AC _ _ _ _
    refine AC.ret ?_
    change RetQ _ _ _ .ret _
    obtain rfl := Option.some.inj h0
    refine retq rfl rfl

set_option maxRecDepth 100000 in
set_option maxHeartbeats 1000000 in
/-- (pub-orthodrome/spec.Dyadic).Minus -/
theorem w_Dyadic_Minus (a0 : TSpec_Dyadic) (r0 : TSpec_Dyadic) (h0 : p_Dyadic_Minus a0 = some r0) : FnD Tryd.prog 34 [e_TSpec_Dyadic a0] (fun r => r = e_TSpec_Dyadic r0) := by
  refine FnD.of (by kernel_rfl) Tryd.func34 rfl Tryd.ntmps34 rfl (leb rfl) fun W ok => ?_
  unfold p_Dyadic_Minus at h0
  refine AC.seq ?_
  refine AC.region ?_
  refine AO.op rfl (AOp.box rfl rfl (ltb rfl) rfl rfl ?_)
  refine AO.op rfl (AOp.alloc rfl rfl (ltb rfl) zero30 rfl ?_)
  refine AO.nil ?_
  change AC _ _ _ _
  refine AC.seq ?_
  refine AC.draw 6 mixed (by kernel_rfl) ?_
  refine AD.op [1] rfl (by kernel_rfl) rfl rfl (fun _ _ h => AOp.fieldAddr rfl rfl (ltb rfl) rfl fo30_0 h) ?_
  refine AD.op [3] rfl (by kernel_rfl) rfl rfl (fun _ _ h => AOp.loadN rfl rfl (ltb rfl) rfl agg28 size28 rfl (leb rfl) rfl h) ?_
  obtain ⟨y1, q2, h0⟩ := bind_elim h0
  refine AD.op [4] rfl (by kernel_rfl) rfl rfl (fun _ _ h => AOp.callD rfl rfl (ltb rfl) rfl rfl (w_Whole_Minus a0.N y1 q2) (by rintro _ rfl; exact h)) ?_
  refine AD.op [1] rfl (by kernel_rfl) rfl rfl (fun _ _ h => AOp.fieldAddr rfl rfl (ltb rfl) rfl fo30_1 h) ?_
  refine AD.op [6] rfl (by kernel_rfl) rfl rfl (fun _ _ h => AOp.load1 rfl rfl (ltb rfl) rfl agg3 rfl rfl h) ?_
  refine AD.op [5, 7] rfl (by kernel_rfl) rfl rfl (fun _ _ h => AOp.build rfl rfl (ltb rfl) zero30 rfl places30 rfl rfl h) ?_
  refine AD.done ?_
  refine AO.op rfl (AOp.store rfl rfl rfl rfl size30 rfl rfl rfl (leb rfl) ?_)
  refine AO.nil ?_
  change AC _ _ _ _
  refine AC.ret ?_
  change RetQ _ _ _ .ret _
  obtain rfl := Option.some.inj h0
  refine retq rfl rfl

set_option maxRecDepth 100000 in
set_option maxHeartbeats 1000000 in
/-- (pub-orthodrome/spec.Whole).Sign -/
theorem w_Whole_Sign (a0 : TSpec_Whole) (r0 : Int) (h0 : p_Whole_Sign a0 = some r0) : FnD Tryd.prog 53 [e_TSpec_Whole a0] (fun r => r = di .i64 r0) := by
  refine FnD.of (by kernel_rfl) Tryd.func53 rfl Tryd.ntmps53 rfl (leb rfl) fun W ok => ?_
  unfold p_Whole_Sign at h0
  refine AC.seq ?_
  refine AC.region ?_
  refine AO.op rfl (AOp.box rfl rfl (ltb rfl) rfl rfl ?_)
  refine AO.op rfl (AOp.assign rfl rfl (ltb rfl) rfl ?_)
  refine AO.nil ?_
  change AC _ _ _ _
  refine AC.seq ?_
  refine AC.block ?_
  refine AC.seq ?_
  refine AC.region ?_
  refine AO.op rfl (AOp.fieldAddr rfl rfl (ltb rfl) rfl fo28_1 ?_)
  refine AO.op rfl (AOp.load1 rfl rfl (ltb rfl) rfl agg26 rfl rfl ?_)
  refine AO.op rfl (AOp.lenDs (n := a0.L.length) (cells := (List.map keS3 a0.L)) rfl rfl (ltb rfl) rfl el26 (by decide) (len1 _ _) ?_)
  refine AO.op rfl (AOp.ieql rfl rfl (ltb rfl) rfl rfl ?_)
  refine AO.op rfl (AOp.assign rfl rfl (ltb rfl) rfl ?_)
  refine AO.nil ?_
  change AC _ _ _ _
  refine AC.cond rfl (fun q1 => ?_) (fun q1 => ?_)
  · replace h0 := cT h0 q1
    refine AC.seq ?_
    refine AC.region ?_
    refine AO.op rfl (AOp.assign rfl rfl (ltb rfl) rfl ?_)
    refine AO.nil ?_
    change AC _ _ _ _
    refine AC.ret ?_
    change RetQ _ _ _ .ret _
    obtain rfl := Option.some.inj h0
    refine retq rfl rfl
  · replace h0 := cF h0 q1
    refine AC.seq ?_
    refine AC.region ?_
    refine AO.op rfl (AOp.fieldAddr rfl rfl (ltb rfl) rfl fo28_0 ?_)
    refine AO.op rfl (AOp.load1 rfl rfl (ltb rfl) rfl agg4 rfl rfl ?_)
    refine AO.op rfl (AOp.assign rfl rfl (ltb rfl) rfl ?_)
    refine AO.nil ?_
    change AC _ _ _ _
    refine AC.cond rfl (fun q2 => ?_) (fun q2 => ?_)
    · replace h0 := cT h0 q2
      refine AC.seq ?_
      refine AC.region ?_
      refine AO.op rfl (AOp.assign rfl rfl (ltb rfl) rfl ?_)
      refine AO.nil ?_
      change AC _ _ _ _
      refine AC.ret ?_
      change RetQ _ _ _ .ret _
      obtain rfl := Option.some.inj h0
      refine retq rfl rfl
    · replace h0 := cF h0 q2
      refine AC.skip ?_
      change AC _ _ _ _
      refine AC.seq ?_
      refine AC.region ?_
      refine AO.op rfl (AOp.assign rfl rfl (ltb rfl) rfl ?_)
      refine AO.nil ?_
      change AC _ _ _ _
      refine AC.ret ?_
      change RetQ _ _ _ .ret _
      obtain rfl := Option.some.inj h0
      refine retq rfl rfl

set_option maxRecDepth 100000 in
set_option maxHeartbeats 1000000 in
/-- (pub-orthodrome/spec.Dyadic).Sign -/
theorem w_Dyadic_Sign (a0 : TSpec_Dyadic) (r0 : Int) (h0 : p_Dyadic_Sign a0 = some r0) : FnD Tryd.prog 31 [e_TSpec_Dyadic a0] (fun r => r = di .i64 r0) := by
  refine FnD.of (by kernel_rfl) Tryd.func31 rfl Tryd.ntmps31 rfl (leb rfl) fun W ok => ?_
  unfold p_Dyadic_Sign at h0
  refine AC.seq ?_
  refine AC.region ?_
  refine AO.op rfl (AOp.box rfl rfl (ltb rfl) rfl rfl ?_)
  refine AO.op rfl (AOp.assign rfl rfl (ltb rfl) rfl ?_)
  refine AO.nil ?_
  change AC _ _ _ _
  refine AC.seq ?_
  refine AC.region ?_
  refine AO.op rfl (AOp.fieldAddr rfl rfl (ltb rfl) rfl fo30_0 ?_)
  refine AO.op rfl (AOp.loadN rfl rfl (ltb rfl) rfl agg28 size28 rfl (leb rfl) rfl ?_)
  obtain ⟨y1, q2, h0⟩ := bind_elim h0
  refine AO.op rfl (AOp.callD rfl rfl (ltb rfl) rfl rfl (w_Whole_Sign a0.N y1 q2) ?_)
  rintro _ rfl
  refine AO.op rfl (AOp.assign rfl rfl (ltb rfl) rfl ?_)
  refine AO.nil ?_
  change AC _ _ _ _
  refine AC.ret ?_
  change RetQ _ _ _ .ret _
  obtain rfl := Option.some.inj h0
  refine retq rfl rfl

set_option maxRecDepth 100000 in
set_option maxHeartbeats 1000000 in
/-- (pub-orthodrome/spec.Whole).Up -/
theorem w_Whole_Up (F : Nat) (a0 : TSpec_Whole) (a1 : Int) (r0 : TSpec_Whole) (h0 : p_Whole_Up F a0 a1 = some r0) : FnD Tryd.prog 70 [e_TSpec_Whole a0, di .i64 a1] (fun r => r = e_TSpec_Whole r0) := by
  refine FnD.of (by kernel_rfl) Tryd.func70 rfl Tryd.ntmps70 rfl (leb rfl) fun W ok => ?_
  unfold p_Whole_Up at h0
  refine AC.seq ?_
  refine AC.region ?_
  refine AO.op rfl (AOp.box rfl rfl (ltb rfl) rfl rfl ?_)
  refine AO.op rfl (AOp.alloc rfl rfl (ltb rfl) zero28 rfl ?_)
  refine AO.nil ?_
  change AC _ _ _ _
  refine AC.seq ?_
  refine AC.seq ?_
  refine AC.region ?_
  refine AO.op rfl (AOp.fieldAddr rfl rfl (ltb rfl) rfl fo28_1 ?_)
  refine AO.op rfl (AOp.load1 rfl rfl (ltb rfl) rfl agg26 rfl rfl ?_)
  refine AO.op rfl (AOp.lenDs (n := a0.L.length) (cells := (List.map keS3 a0.L)) rfl rfl (ltb rfl) rfl el26 (by decide) (len1 _ _) ?_)
  refine AO.op rfl (AOp.ieql rfl rfl (ltb rfl) rfl rfl ?_)
  refine AO.nil ?_
  change AC _ _ _ _
  refine AC.cond rfl (fun q1 => ?_) (fun q1 => ?_)
  · replace h0 := cT h0 q1
    refine AC.seq ?_
    refine AC.region ?_
    refine AO.op rfl (AOp.loadN rfl rfl (ltb rfl) rfl agg28 size28 rfl (leb rfl) rfl ?_)
    refine AO.op rfl (AOp.store rfl rfl rfl rfl size28 rfl rfl rfl (leb rfl) ?_)
    refine AO.nil ?_
    change AC _ _ _ _
    refine AC.ret ?_
    change RetQ _ _ _ .ret _
    obtain rfl := Option.some.inj h0
    refine retq rfl rfl
  · replace h0 := cF h0 q1
    refine AC.skip ?_
    change AC _ _ _ _
    refine AC.seq ?_
    refine AC.region ?_
    refine AO.op rfl (AOp.move rfl rfl (ltb rfl) rfl ?_)
    obtain ⟨q2, h0⟩ := need_elim h0
    refine AO.op rfl (AOp.iquo rfl rfl (ltb rfl) rfl rfl q2.1 rfl q2.2.1 q2.2.2 ?_)
    refine AO.op rfl (AOp.move rfl rfl (ltb rfl) rfl ?_)
    obtain ⟨q3, h0⟩ := need_elim h0
    refine AO.op rfl (AOp.iquo rfl rfl (ltb rfl) rfl rfl q3.1 rfl q3.2.1 q3.2.2 ?_)
    refine AO.op rfl (AOp.fieldAddr rfl rfl (ltb rfl) rfl fo28_1 ?_)
    refine AO.op rfl (AOp.load1 rfl rfl (ltb rfl) rfl agg26 rfl rfl ?_)
    refine AO.op rfl (AOp.lenDs (n := a0.L.length) (cells := (List.map keS3 a0.L)) rfl rfl (ltb rfl) rfl el26 (by decide) (len1 _ _) ?_)
    obtain ⟨q4, h0⟩ := need_elim h0
    refine AO.op rfl (AOp.iadd rfl rfl (ltb rfl) rfl rfl rfl q4.1 q4.2 ?_)
    obtain ⟨q5, h0⟩ := need_elim h0
    refine AO.op rfl (AOp.iadd rfl rfl (ltb rfl) rfl rfl rfl q5.1 q5.2 ?_)
    obtain ⟨q6, h0⟩ := need_elim h0
    refine AO.op rfl (AOp.makeOwnN (f := keS3) (z0 := (0 : Int)) rfl rfl (ltb rfl) rfl rfl el26 info90 rfl rfl (by decide) q6 rfl ?_)
    refine AO.op rfl (AOp.assign rfl rfl (ltb rfl) rfl ?_)
    refine AO.nil ?_
    change AC _ _ _ _
    refine AC.seq ?_
    refine AC.region ?_
    refine AO.op rfl (AOp.assign rfl rfl (ltb rfl) rfl ?_)
    refine AO.nil ?_
    change AC _ _ _ _
    refine AC.seq ?_
    refine AC.seq ?_
    refine AC.region ?_
    refine AO.op rfl (AOp.fieldAddr rfl rfl (ltb rfl) rfl fo28_1 ?_)
    refine AO.op rfl (AOp.load1 rfl rfl (ltb rfl) rfl agg26 rfl rfl ?_)
    refine AO.op rfl (AOp.lenDs (n := a0.L.length) (cells := (List.map keS3 a0.L)) rfl rfl (ltb rfl) rfl el26 (by decide) (len1 _ _) ?_)
    refine AO.op rfl (AOp.move rfl rfl (ltb rfl) rfl ?_)
    refine AO.nil ?_
    change AC _ _ _ _
    obtain ⟨o7, l8, h0⟩ := bind_elim h0
    refine AC.joinE (V := (Int × (List Int))) [2, 4] [5, 6] 3 (fun g9 => [(5, .own 2), (6, .d (di .u32 g9.1))]) (fun g9 => [.fix 28 [.d (dbool a0.Neg), .d (eS3 a0.L)], .fix 28 [.d (dbool false), .d (.v (.slice none 0 0))], .grow 90 1 (List.map keS3 g9.2)]) (fun g9 => (p_Whole_Up_k1 a0 F) g9 = some r0) rfl ?_ ?_
    · refine AC.block ?_
      refine AC.loopP (V := (Int × Int × (List Int))) (p_Whole_Up_l2 a0 a1) o7 [1, 2, 4, 26, 27] [5, 6, 28] 3 (fun g13 => [(5, .own 2), (6, .d (di .u32 g13.1)), (28, .d (di .i64 g13.2.1))]) (fun g13 => [.fix 28 [.d (dbool a0.Neg), .d (eS3 a0.L)], .fix 28 [.d (dbool false), .d (.v (.slice none 0 0))], .grow 90 1 (List.map keS3 g13.2.2)]) F ((0 : Int), (0 : Int), (List.replicate ((Int.tdiv a1 (32 : Int))).toNat (0 : Int))) l8 rfl rfl (LeL.refl _) rfl rfl ?_
      intro n15 g13 h1
      unfold p_Whole_Up_l2 at h1
      refine AC.seq ?_
      refine AC.region ?_
      refine AO.op rfl (AOp.ilss rfl rfl (ltb rfl) rfl rfl ?_)
      refine AO.nil ?_
      change AC _ _ _ _
      refine AC.seq ?_
      refine AC.cond rfl (fun q16 => ?_) (fun q16 => ?_)
      · replace h1 := cT h1 q16
        refine AC.skip ?_
        change AC _ _ _ _
        refine AC.seq ?_
        refine AC.block ?_
        refine AC.seq ?_
        refine AC.region ?_
        obtain ⟨x17, q18, h1⟩ := idx_elim h1
        refine AO.op rfl (AOp.indexDs (cells := (List.map keS3 a0.L)) rfl rfl (ltb rfl) rfl rfl el26 (by decide) q18.1 (lt1 q18.2) ?_)
        refine AO.op rfl (AOp.loadEp rfl rfl (ltb rfl) rfl agg90 (at1 q18.2) ?_)
        refine AO.op rfl (AOp.assign rfl rfl (ltb rfl) rfl ?_)
        refine AO.nil ?_
        change AC _ _ _ _
        refine AC.seq ?_
        refine AC.region ?_
        refine AO.op rfl (AOp.move rfl rfl (ltb rfl) rfl ?_)
        refine AO.op rfl (AOp.i2i rfl rfl (ltb rfl) rfl Tryd.underlying90 Tryd.underlying88 rfl ?_)
        refine AO.op rfl (AOp.move rfl rfl (ltb rfl) rfl ?_)
        obtain ⟨q19, h1⟩ := need_elim h1
        refine AO.op rfl (AOp.irem rfl rfl (ltb rfl) rfl rfl q19 rfl ?_)
        obtain ⟨q20, h1⟩ := need_elim h1
        refine AO.op rfl (AOp.ishl' rfl rfl (ltb rfl) rfl rfl q20 ?_)
        refine AO.op rfl (AOp.assign rfl rfl (ltb rfl) rfl ?_)
        refine AO.nil ?_
        change AC _ _ _ _
        refine AC.seq ?_
        refine AC.region ?_
        refine AO.op rfl (AOp.move rfl rfl (ltb rfl) rfl ?_)
        refine AO.op rfl (AOp.move rfl rfl (ltb rfl) rfl ?_)
        refine AO.op rfl (AOp.i2i rfl rfl (ltb rfl) rfl Tryd.underlying88 Tryd.underlying90 rfl ?_)
        refine AO.op rfl (AOp.move rfl rfl (ltb rfl) rfl ?_)
        refine AO.op rfl (AOp.ibits (by simp) rfl rfl (ltb rfl) rfl rfl rfl ?_)
        refine AO.op rfl (AOp.buildSliceD rfl rfl (ltb rfl) el26 zero90 rfl (leb rfl) rfl rfl rfl rfl ?_)
        obtain ⟨q21, h1⟩ := need_elim h1
        refine AO.op rfl (AOp.appendOwn' (n := g13.2.2.length) (m := [(bits .or .u32 (IntKind.u32.wrap (IntKind.u64.wrap ((IntKind.u64.wrap x17) * 2 ^ ((Int.tmod a1 (32 : Int))).toNat))) g13.1)].length) (news := (List.map keS3 [(bits .or .u32 (IntKind.u32.wrap (IntKind.u64.wrap ((IntKind.u64.wrap x17) * 2 ^ ((Int.tmod a1 (32 : Int))).toNat))) g13.1)])) rfl rfl (ltb rfl) rfl rfl el26 info90 rfl (by decide) rfl (len1 _ _) (len1 _ _) (one1 _ (fun _ => rfl) _) q21 (by decide) rfl rfl (cat1 _ _ _) ?_)
        refine AO.op rfl (AOp.assign rfl rfl (ltb rfl) rfl ?_)
        refine AO.nil ?_
        change AC _ _ _ _
        refine AC.region ?_
        refine AO.op rfl (AOp.move rfl rfl (ltb rfl) rfl ?_)
        obtain ⟨q22, h1⟩ := need_elim h1
        refine AO.op rfl (AOp.ishr (n := 32) rfl rfl (ltb rfl) rfl rfl (by decide) q22 rfl ?_)
        refine AO.op rfl (AOp.i2i rfl rfl (ltb rfl) rfl Tryd.underlying88 Tryd.underlying90 rfl ?_)
        refine AO.op rfl (AOp.assign rfl rfl (ltb rfl) rfl ?_)
        refine AO.nil ?_
        change AC _ _ _ _
        refine AC.region ?_
        obtain ⟨q23, h1⟩ := need_elim h1
        refine AO.op rfl (AOp.iadd rfl rfl (ltb rfl) rfl rfl rfl q23.1 q23.2 ?_)
        refine AO.op rfl (AOp.move rfl rfl (ltb rfl) rfl ?_)
        refine AO.nil ?_
        exact ⟨((IntKind.u32.wrap ((IntKind.u64.wrap ((IntKind.u64.wrap x17) * 2 ^ ((Int.tmod a1 (32 : Int))).toNat)) / 2 ^ 32)), (g13.2.1 + (1 : Int)), (g13.2.2 ++ [(bits .or .u32 (IntKind.u32.wrap (IntKind.u64.wrap ((IntKind.u64.wrap x17) * 2 ^ ((Int.tmod a1 (32 : Int))).toNat))) g13.1)])), _, rfl, (LeL.refl _), rfl, rfl, h1⟩
      · replace h1 := cF h1 q16
        refine AC.exit ?_
        obtain rfl := Option.some.inj h1
        exact ⟨(g13.1, g13.2.2), _, rfl, (LeL.refl _), rfl, rfl, aftL h0⟩
    · intro g9 h0
      unfold p_Whole_Up_k1 at h0
      change AC _ _ _ _
      refine AC.seq ?_
      obtain ⟨q10, h0⟩ := need_elim h0
      obtain ⟨y11, q12, h0⟩ := bind_elim h0
      refine AC.drawS [0, 1, 2, 3, 4, 5, 6] [5, 6] [7, 8] (fun L => [.fix 28 [.d (dbool a0.Neg), .d (eS3 a0.L)], .fix 28 [.d (dbool false), .d (.v (.slice none 0 0))], bif L 6 then .dead else bif L 5 then .grow 90 1 (List.map keS3 (g9.2 ++ [g9.1])) else .grow 90 1 (List.map keS3 g9.2)]) [(5, SV.noO 2), (6, SV.noO 2)] mixed (by kernel_rfl) (fun L L' h => by simp only [h 5 (by decide), h 6 (by decide)]) rfl ?_
      refine AS.op [2] [] [] [5, 6] rfl rfl rfl (by kernel_rfl) (by kernel_rfl) rfl rfl (fun _ _ _ h => AOp.fieldAddr rfl rfl (ltb rfl) rfl fo28_0 h) (by kernel_rfl) ?_
      refine AS.op [48] [] [] [5, 6] rfl rfl rfl (by kernel_rfl) (by kernel_rfl) rfl rfl (fun _ _ _ h => AOp.load1 rfl rfl (ltb rfl) rfl agg4 rfl rfl h) (by kernel_rfl) ?_
      refine AS.op [5] [] [5, 6] [] rfl rfl rfl (by kernel_rfl) (by kernel_rfl) rfl rfl (fun _ _ _ h => AOp.move rfl rfl (ltb rfl) rfl h) (by kernel_rfl) ?_
      refine AS.op [6] [] [5, 6] [] rfl rfl rfl (by kernel_rfl) (by kernel_rfl) rfl rfl (fun _ _ _ h => AOp.move rfl rfl (ltb rfl) rfl h) (by kernel_rfl) ?_
      refine AS.op [51] [] [5, 6] [] rfl rfl rfl (by kernel_rfl) (by kernel_rfl) rfl rfl (fun _ _ _ h => AOp.buildSliceD rfl rfl (ltb rfl) el26 zero90 rfl (leb rfl) rfl rfl rfl rfl h) (by kernel_rfl) ?_
      refine AS.mid [50, 52] [] [6, 5] [] rfl rfl rfl rfl (by kernel_rfl) (by kernel_rfl) rfl rfl (fun _ _ _ h => AOp.appendOwn' (n := g9.2.length) (m := [g9.1].length) (news := (List.map keS3 [g9.1])) rfl rfl (ltb rfl) rfl rfl el26 info90 rfl (by decide) rfl (len1 _ _) (len1 _ _) (one1 _ (fun _ => rfl) _) q10 (by decide) (allNo (.cons rfl (.cons rfl (.cons rfl .nil)))) rfl (cat1 _ _ _) (AO.dropped h)) (by kernel_rfl) rfl ?_
      refine AS.mid [53] [5] [6] [] rfl rfl rfl rfl (by kernel_rfl) (by kernel_rfl) rfl rfl (fun _ _ _ h => AOp.freezeDrop 53 2 rfl rfl rfl (AOp.callD rfl rfl (ltb rfl) rfl rfl (w_trim F (g9.2 ++ [g9.1]) y11 q12) (by rintro _ rfl; exact AO.forget1 (.inr trivial) h (.inl (dropped_none rfl rfl))))) (by kernel_rfl) rfl ?_
      refine AS.done ?_
      refine AO.objs (obs' := [.fix 28 [.d (dbool a0.Neg), .d (eS3 a0.L)], .fix 28 [.d (dbool false), .d (.v (.slice none 0 0))], .dead]) rfl ?_
      refine AO.op rfl (AOp.build rfl rfl (ltb rfl) zero28 rfl places28 rfl rfl ?_)
      refine AO.op rfl (AOp.store rfl rfl rfl rfl size28 rfl rfl rfl (leb rfl) ?_)
      refine AO.nil ?_
      change AC _ _ _ _
      refine AC.ret ?_
      change RetQ _ _ _ .ret _
      obtain rfl := Option.some.inj h0
      refine retq rfl rfl

set_option maxRecDepth 100000 in
set_option maxHeartbeats 1000000 in
/-- pub-orthodrome/spec.addLimbs -/
theorem w_addLimbs (F : Nat) (a0 : (List Int)) (a1 : (List Int)) (r0 : (List Int)) (h0 : p_addLimbs F a0 a1 = some r0) : FnD Tryd.prog 74 [eS3 a0, eS3 a1] (fun r => r = eS3 r0) := by
  refine FnD.of (by kernel_rfl) Tryd.func74 rfl Tryd.ntmps74 rfl (leb rfl) fun W ok => ?_
  unfold p_addLimbs at h0
  refine AC.seq ?_
  refine AC.region ?_
  refine AO.op rfl (AOp.assign rfl rfl (ltb rfl) rfl ?_)
  refine AO.nil ?_
  change AC _ _ _ _
  refine AC.joinP (V := ((List Int) × (List Int))) [] [0, 1] 0 (fun g1 => [(0, .d (eS3 g1.1)), (1, .d (eS3 g1.2))]) (fun g1 => []) (fun g1 => (p_addLimbs_k1 F) g1 = some r0) rfl ?_ ?_
  · refine AC.seq ?_
    refine AC.region ?_
    refine AO.op rfl (AOp.move rfl rfl (ltb rfl) rfl ?_)
    refine AO.op rfl (AOp.lenDs (n := a0.length) (cells := (List.map keS3 a0)) rfl rfl (ltb rfl) rfl el26 (by decide) (len1 _ _) ?_)
    refine AO.op rfl (AOp.move rfl rfl (ltb rfl) rfl ?_)
    refine AO.op rfl (AOp.lenDs (n := a1.length) (cells := (List.map keS3 a1)) rfl rfl (ltb rfl) rfl el26 (by decide) (len1 _ _) ?_)
    refine AO.op rfl (AOp.ilss rfl rfl (ltb rfl) rfl rfl ?_)
    refine AO.nil ?_
    change AC _ _ _ _
    refine AC.cond rfl (fun q25 => ?_) (fun q25 => ?_)
    · replace h0 := cT h0 q25
      refine AC.region ?_
      refine AO.op rfl (AOp.move rfl rfl (ltb rfl) rfl ?_)
      refine AO.op rfl (AOp.move rfl rfl (ltb rfl) rfl ?_)
      refine AO.op rfl (AOp.assign rfl rfl (ltb rfl) rfl ?_)
      refine AO.op rfl (AOp.assign rfl rfl (ltb rfl) rfl ?_)
      refine AO.nil ?_
      exact ⟨(a1, a0), _, rfl, (LeL.refl _), rfl, rfl, h0⟩
    · replace h0 := cF h0 q25
      refine AC.skip ?_
      exact ⟨(a0, a1), _, rfl, (LeL.refl _), rfl, rfl, h0⟩
  · intro g1 h0
    unfold p_addLimbs_k1 at h0
    refine AC.seq ?_
    refine AC.region ?_
    refine AO.op rfl (AOp.move rfl rfl (ltb rfl) rfl ?_)
    refine AO.op rfl (AOp.lenDs (n := g1.1.length) (cells := (List.map keS3 g1.1)) rfl rfl (ltb rfl) rfl el26 (by decide) (len1 _ _) ?_)
    obtain ⟨q2, h0⟩ := need_elim h0
    refine AO.op rfl (AOp.iadd rfl rfl (ltb rfl) rfl rfl rfl q2.1 q2.2 ?_)
    obtain ⟨q3, h0⟩ := need_elim h0
    refine AO.op rfl (AOp.makeOwn0 rfl rfl (ltb rfl) rfl rfl el26 info90 (by decide) q3 ?_)
    refine AO.op rfl (AOp.assign rfl rfl (ltb rfl) rfl ?_)
    refine AO.nil ?_
    change AC _ _ _ _
    refine AC.seq ?_
    refine AC.region ?_
    refine AO.op rfl (AOp.assign rfl rfl (ltb rfl) rfl ?_)
    refine AO.nil ?_
    change AC _ _ _ _
    refine AC.seq ?_
    refine AC.seq ?_
    refine AC.region ?_
    refine AO.op rfl (AOp.move rfl rfl (ltb rfl) rfl ?_)
    refine AO.op rfl (AOp.lenDs (n := g1.1.length) (cells := (List.map keS3 g1.1)) rfl rfl (ltb rfl) rfl el26 (by decide) (len1 _ _) ?_)
    refine AO.op rfl (AOp.move rfl rfl (ltb rfl) rfl ?_)
    refine AO.nil ?_
    change AC _ _ _ _
    obtain ⟨o4, l5, h0⟩ := bind_elim h0
    refine AC.joinE (V := (Int × (List Int))) [] [5, 6] 1 (fun g6 => [(5, .own 0), (6, .d (di .u64 g6.1))]) (fun g6 => [.grow 90 1 (List.map keS3 g6.2)]) (fun g6 => (p_addLimbs_k2 F) g6 = some r0) rfl ?_ ?_
    · refine AC.block ?_
      refine AC.loopP (V := (Int × Int × (List Int))) (p_addLimbs_l3 g1) o4 [1, 21, 22] [5, 6, 23] 1 (fun g10 => [(5, .own 0), (6, .d (di .u64 g10.1)), (23, .d (di .i64 g10.2.1))]) (fun g10 => [.grow 90 1 (List.map keS3 g10.2.2)]) F ((0 : Int), (0 : Int), []) l5 rfl rfl (LeL.refl _) rfl rfl ?_
      intro n12 g10 h1
      unfold p_addLimbs_l3 at h1
      refine AC.seq ?_
      refine AC.region ?_
      refine AO.op rfl (AOp.ilss rfl rfl (ltb rfl) rfl rfl ?_)
      refine AO.nil ?_
      change AC _ _ _ _
      refine AC.seq ?_
      refine AC.cond rfl (fun q13 => ?_) (fun q13 => ?_)
      · replace h1 := cT h1 q13
        refine AC.skip ?_
        change AC _ _ _ _
        refine AC.seq ?_
        refine AC.block ?_
        refine AC.seq ?_
        refine AC.region ?_
        refine AO.op rfl (AOp.move rfl rfl (ltb rfl) rfl ?_)
        obtain ⟨x14, q15, h1⟩ := idx_elim h1
        refine AO.op rfl (AOp.indexDs (cells := (List.map keS3 g1.1)) rfl rfl (ltb rfl) rfl rfl el26 (by decide) q15.1 (lt1 q15.2) ?_)
        refine AO.op rfl (AOp.loadEp rfl rfl (ltb rfl) rfl agg90 (at1 q15.2) ?_)
        refine AO.op rfl (AOp.assign rfl rfl (ltb rfl) rfl ?_)
        refine AO.op rfl (AOp.assign rfl rfl (ltb rfl) rfl ?_)
        refine AO.nil ?_
        change AC _ _ _ _
        refine AC.seq ?_
        refine AC.region ?_
        refine AO.op rfl (AOp.move rfl rfl (ltb rfl) rfl ?_)
        refine AO.op rfl (AOp.i2i rfl rfl (ltb rfl) rfl Tryd.underlying90 Tryd.underlying88 rfl ?_)
        refine AO.op rfl (AOp.move rfl rfl (ltb rfl) rfl ?_)
        obtain ⟨q16, h1⟩ := need_elim h1
        refine AO.op rfl (AOp.iadd rfl rfl (ltb rfl) rfl rfl rfl q16.1 q16.2 ?_)
        refine AO.op rfl (AOp.assign rfl rfl (ltb rfl) rfl ?_)
        refine AO.nil ?_
        change AC _ _ _ _
        refine AC.joinP (V := Int) [1, 5, 21, 22, 23] [9] 1 (fun g17 => [(9, .d (di .u64 g17))]) (fun g17 => [.grow 90 1 (List.map keS3 g10.2.2)]) (fun g17 => (p_addLimbs_k4 g10 (iter (p_addLimbs_l3 g1) n12)) g17 = some o4) rfl ?_ ?_
        · refine AC.seq ?_
          refine AC.region ?_
          refine AO.op rfl (AOp.move rfl rfl (ltb rfl) rfl ?_)
          refine AO.op rfl (AOp.move rfl rfl (ltb rfl) rfl ?_)
          refine AO.op rfl (AOp.lenDs (n := g1.2.length) (cells := (List.map keS3 g1.2)) rfl rfl (ltb rfl) rfl el26 (by decide) (len1 _ _) ?_)
          refine AO.op rfl (AOp.ilss rfl rfl (ltb rfl) rfl rfl ?_)
          refine AO.nil ?_
          change AC _ _ _ _
          refine AC.cond rfl (fun q21 => ?_) (fun q21 => ?_)
          · replace h1 := cT h1 q21
            refine AC.region ?_
            refine AO.op rfl (AOp.move rfl rfl (ltb rfl) rfl ?_)
            refine AO.op rfl (AOp.move rfl rfl (ltb rfl) rfl ?_)
            refine AO.op rfl (AOp.move rfl rfl (ltb rfl) rfl ?_)
            obtain ⟨x22, q23, h1⟩ := idx_elim h1
            refine AO.op rfl (AOp.indexDs (cells := (List.map keS3 g1.2)) rfl rfl (ltb rfl) rfl rfl el26 (by decide) q23.1 (lt1 q23.2) ?_)
            refine AO.op rfl (AOp.loadEp rfl rfl (ltb rfl) rfl agg90 (at1 q23.2) ?_)
            refine AO.op rfl (AOp.i2i rfl rfl (ltb rfl) rfl Tryd.underlying90 Tryd.underlying88 rfl ?_)
            obtain ⟨q24, h1⟩ := need_elim h1
            refine AO.op rfl (AOp.iadd rfl rfl (ltb rfl) rfl rfl rfl q24.1 q24.2 ?_)
            refine AO.op rfl (AOp.assign rfl rfl (ltb rfl) rfl ?_)
            refine AO.nil ?_
            exact ⟨(((IntKind.u64.wrap x14) + g10.1) + (IntKind.u64.wrap x22)), _, rfl, (LeL.refl _), rfl, rfl, h1⟩
          · replace h1 := cF h1 q21
            refine AC.skip ?_
            exact ⟨((IntKind.u64.wrap x14) + g10.1), _, rfl, (LeL.refl _), rfl, rfl, h1⟩
        · intro g17 h1
          unfold p_addLimbs_k4 at h1
          refine AC.seq ?_
          refine AC.region ?_
          refine AO.op rfl (AOp.move rfl rfl (ltb rfl) rfl ?_)
          refine AO.op rfl (AOp.move rfl rfl (ltb rfl) rfl ?_)
          refine AO.op rfl (AOp.i2i rfl rfl (ltb rfl) rfl Tryd.underlying88 Tryd.underlying90 rfl ?_)
          refine AO.op rfl (AOp.buildSliceD rfl rfl (ltb rfl) el26 zero90 rfl (leb rfl) rfl rfl rfl rfl ?_)
          obtain ⟨q18, h1⟩ := need_elim h1
          refine AO.op rfl (AOp.appendOwn' (n := g10.2.2.length) (m := [(IntKind.u32.wrap g17)].length) (news := (List.map keS3 [(IntKind.u32.wrap g17)])) rfl rfl (ltb rfl) rfl rfl el26 info90 rfl (by decide) rfl (len1 _ _) (len1 _ _) (one1 _ (fun _ => rfl) _) q18 (by decide) rfl rfl (cat1 _ _ _) ?_)
          refine AO.op rfl (AOp.assign rfl rfl (ltb rfl) rfl ?_)
          refine AO.nil ?_
          change AC _ _ _ _
          refine AC.region ?_
          refine AO.op rfl (AOp.move rfl rfl (ltb rfl) rfl ?_)
          obtain ⟨q19, h1⟩ := need_elim h1
          refine AO.op rfl (AOp.ishr (n := 32) rfl rfl (ltb rfl) rfl rfl (by decide) q19 rfl ?_)
          refine AO.op rfl (AOp.assign rfl rfl (ltb rfl) rfl ?_)
          refine AO.nil ?_
          change AC _ _ _ _
          refine AC.region ?_
          obtain ⟨q20, h1⟩ := need_elim h1
          refine AO.op rfl (AOp.iadd rfl rfl (ltb rfl) rfl rfl rfl q20.1 q20.2 ?_)
          refine AO.op rfl (AOp.move rfl rfl (ltb rfl) rfl ?_)
          refine AO.nil ?_
          exact ⟨((g17 / 2 ^ 32), (g10.2.1 + (1 : Int)), (g10.2.2 ++ [(IntKind.u32.wrap g17)])), _, rfl, (LeL.refl _), rfl, rfl, h1⟩
      · replace h1 := cF h1 q13
        refine AC.exit ?_
        obtain rfl := Option.some.inj h1
        exact ⟨(g10.1, g10.2.2), _, rfl, (LeL.refl _), rfl, rfl, aftL h0⟩
    · intro g6 h0
      unfold p_addLimbs_k2 at h0
      change AC _ _ _ _
      refine AC.seq ?_
      refine AC.region ?_
      refine AO.op rfl (AOp.move rfl rfl (ltb rfl) rfl ?_)
      refine AO.op rfl (AOp.move rfl rfl (ltb rfl) rfl ?_)
      refine AO.op rfl (AOp.i2i rfl rfl (ltb rfl) rfl Tryd.underlying88 Tryd.underlying90 rfl ?_)
      refine AO.op rfl (AOp.buildSliceD rfl rfl (ltb rfl) el26 zero90 rfl (leb rfl) rfl rfl rfl rfl ?_)
      obtain ⟨q7, h0⟩ := need_elim h0
      refine AO.op rfl (AOp.appendOwn' (n := g6.2.length) (m := [(IntKind.u32.wrap g6.1)].length) (news := (List.map keS3 [(IntKind.u32.wrap g6.1)])) rfl rfl (ltb rfl) rfl rfl el26 info90 rfl (by decide) rfl (len1 _ _) (len1 _ _) (one1 _ (fun _ => rfl) _) q7 (by decide) rfl rfl (cat1 _ _ _) ?_)
      refine AO.freezeG 0 rfl rfl rfl ?_
      obtain ⟨y8, q9, h0⟩ := bind_elim h0
      refine AO.op rfl (AOp.callD rfl rfl (ltb rfl) rfl rfl (w_trim F (g6.2 ++ [(IntKind.u32.wrap g6.1)]) y8 q9) ?_)
      rintro _ rfl
      refine AO.op rfl (AOp.assign rfl rfl (ltb rfl) rfl ?_)
      refine AO.nil ?_
      change AC _ _ _ _
      refine AC.ret ?_
      change RetQ _ _ _ .ret _
      obtain rfl := Option.some.inj h0
      refine retq rfl rfl

set_option maxRecDepth 100000 in
set_option maxHeartbeats 1000000 in
/-- pub-orthodrome/spec.cmpLimbs -/
theorem w_cmpLimbs (F : Nat) (a0 : (List Int)) (a1 : (List Int)) (r0 : Int) (h0 : p_cmpLimbs F a0 a1 = some r0) : FnD Tryd.prog 75 [eS3 a0, eS3 a1] (fun r => r = di .i64 r0) := by
  refine FnD.of (by kernel_rfl) Tryd.func75 rfl Tryd.ntmps75 rfl (leb rfl) fun W ok => ?_
  unfold p_cmpLimbs at h0
  refine AC.seq ?_
  refine AC.region ?_
  refine AO.op rfl (AOp.assign rfl rfl (ltb rfl) rfl ?_)
  refine AO.nil ?_
  change AC _ _ _ _
  refine AC.seq ?_
  refine AC.seq ?_
  refine AC.region ?_
  refine AO.op rfl (AOp.move rfl rfl (ltb rfl) rfl ?_)
  refine AO.op rfl (AOp.lenDs (n := a0.length) (cells := (List.map keS3 a0)) rfl rfl (ltb rfl) rfl el26 (by decide) (len1 _ _) ?_)
  refine AO.op rfl (AOp.move rfl rfl (ltb rfl) rfl ?_)
  refine AO.op rfl (AOp.lenDs (n := a1.length) (cells := (List.map keS3 a1)) rfl rfl (ltb rfl) rfl el26 (by decide) (len1 _ _) ?_)
  refine AO.op rfl (AOp.ineq rfl rfl (ltb rfl) rfl rfl ?_)
  refine AO.nil ?_
  change AC _ _ _ _
  refine AC.cond rfl (fun q1 => ?_) (fun q1 => ?_)
  · replace h0 := cT h0 q1
    refine AC.seq ?_
    refine AC.seq ?_
    refine AC.region ?_
    refine AO.op rfl (AOp.move rfl rfl (ltb rfl) rfl ?_)
    refine AO.op rfl (AOp.lenDs (n := a0.length) (cells := (List.map keS3 a0)) rfl rfl (ltb rfl) rfl el26 (by decide) (len1 _ _) ?_)
    refine AO.op rfl (AOp.move rfl rfl (ltb rfl) rfl ?_)
    refine AO.op rfl (AOp.lenDs (n := a1.length) (cells := (List.map keS3 a1)) rfl rfl (ltb rfl) rfl el26 (by decide) (len1 _ _) ?_)
    refine AO.op rfl (AOp.ilss rfl rfl (ltb rfl) rfl rfl ?_)
    refine AO.nil ?_
    change AC _ _ _ _
    refine AC.cond rfl (fun q2 => ?_) (fun q2 => ?_)
    · replace h0 := cT h0 q2
      refine AC.seq ?_
      refine AC.region ?_
      refine AO.op rfl (AOp.assign rfl rfl (ltb rfl) rfl ?_)
      refine AO.nil ?_
      change AC _ _ _ _
      refine AC.ret ?_
      change RetQ _ _ _ .ret _
      obtain rfl := Option.some.inj h0
      refine retq rfl rfl
    · replace h0 := cF h0 q2
      refine AC.skip ?_
      change AC _ _ _ _
      refine AC.seq ?_
      refine AC.region ?_
      refine AO.op rfl (AOp.assign rfl rfl (ltb rfl) rfl ?_)
      refine AO.nil ?_
      change AC _ _ _ _
      refine AC.ret ?_
      change RetQ _ _ _ .ret _
      obtain rfl := Option.some.inj h0
      refine retq rfl rfl
  · replace h0 := cF h0 q1
    refine AC.skip ?_
    change AC _ _ _ _
    refine AC.seq ?_
    refine AC.seq ?_
    refine AC.region ?_
    refine AO.op rfl (AOp.move rfl rfl (ltb rfl) rfl ?_)
    refine AO.op rfl (AOp.lenDs (n := a0.length) (cells := (List.map keS3 a0)) rfl rfl (ltb rfl) rfl el26 (by decide) (len1 _ _) ?_)
    obtain ⟨q3, h0⟩ := need_elim h0
    refine AO.op rfl (AOp.isub rfl rfl (ltb rfl) rfl rfl rfl q3.1 q3.2 ?_)
    refine AO.op rfl (AOp.assign rfl rfl (ltb rfl) rfl ?_)
    refine AO.nil ?_
    change AC _ _ _ _
    obtain ⟨o4, l5, h0⟩ := bind_elim h0
    refine AC.joinE (V := Unit) [] [] 0 (fun g6 => []) (fun g6 => []) (fun g6 => p_cmpLimbs_k1 g6 = some r0) rfl ?_ ?_
    · refine AC.block ?_
      refine AC.loopP (V := Int) (p_cmpLimbs_l2 a0 a1) o4 [0, 1] [5] 0 (fun g7 => [(5, .d (di .i64 g7))]) (fun g7 => []) F (((a0.length : Nat) : Int) - (1 : Int)) l5 rfl rfl (LeL.refl _) rfl rfl ?_
      intro n9 g7 h1
      unfold p_cmpLimbs_l2 at h1
      refine AC.seq ?_
      refine AC.seq ?_
      refine AC.region ?_
      refine AO.op rfl (AOp.move rfl rfl (ltb rfl) rfl ?_)
      refine AO.op rfl (AOp.igeq rfl rfl (ltb rfl) rfl rfl ?_)
      refine AO.nil ?_
      change AC _ _ _ _
      refine AC.cond rfl (fun q10 => ?_) (fun q10 => ?_)
      · replace h1 := cT h1 q10
        refine AC.skip ?_
        change AC _ _ _ _
        refine AC.seq ?_
        refine AC.block ?_
        refine AC.seq ?_
        refine AC.draw 9 mixed (by kernel_rfl) ?_
        refine AD.op [0] rfl (by kernel_rfl) rfl rfl (fun _ _ h => AOp.move rfl rfl (ltb rfl) rfl h) ?_
        refine AD.op [5] rfl (by kernel_rfl) rfl rfl (fun _ _ h => AOp.move rfl rfl (ltb rfl) rfl h) ?_
        obtain ⟨x11, q12, h1⟩ := idx_elim h1
        refine AD.op [23, 24] rfl (by kernel_rfl) rfl rfl (fun _ _ h => AOp.indexDs (cells := (List.map keS3 a0)) rfl rfl (ltb rfl) rfl rfl el26 (by decide) q12.1 (lt1 q12.2) h) ?_
        refine AD.op [25] rfl (by kernel_rfl) rfl rfl (fun _ _ h => AOp.loadEp rfl rfl (ltb rfl) rfl agg90 (at1 q12.2) h) ?_
        refine AD.op [1] rfl (by kernel_rfl) rfl rfl (fun _ _ h => AOp.move rfl rfl (ltb rfl) rfl h) ?_
        refine AD.op [5] rfl (by kernel_rfl) rfl rfl (fun _ _ h => AOp.move rfl rfl (ltb rfl) rfl h) ?_
        obtain ⟨x13, q14, h1⟩ := idx_elim h1
        refine AD.op [27, 28] rfl (by kernel_rfl) rfl rfl (fun _ _ h => AOp.indexDs (cells := (List.map keS3 a1)) rfl rfl (ltb rfl) rfl rfl el26 (by decide) q14.1 (lt1 q14.2) h) ?_
        refine AD.op [29] rfl (by kernel_rfl) rfl rfl (fun _ _ h => AOp.loadEp rfl rfl (ltb rfl) rfl agg90 (at1 q14.2) h) ?_
        refine AD.op [26, 30] rfl (by kernel_rfl) rfl rfl (fun _ _ h => AOp.ineq rfl rfl (ltb rfl) rfl rfl h) ?_
        refine AD.done ?_
        refine AO.nil ?_
        change AC _ _ _ _
        refine AC.cond rfl (fun q15 => ?_) (fun q15 => ?_)
        · replace h1 := cT h1 q15
          refine AC.seq ?_
          refine AC.seq ?_
          refine AC.draw 9 mixed (by kernel_rfl) ?_
          refine AD.op [0] rfl (by kernel_rfl) rfl rfl (fun _ _ h => AOp.move rfl rfl (ltb rfl) rfl h) ?_
          refine AD.op [5] rfl (by kernel_rfl) rfl rfl (fun _ _ h => AOp.move rfl rfl (ltb rfl) rfl h) ?_
          obtain ⟨x16, q17, h1⟩ := idx_elim h1
          refine AD.op [32, 33] rfl (by kernel_rfl) rfl rfl (fun _ _ h => AOp.indexDs (cells := (List.map keS3 a0)) rfl rfl (ltb rfl) rfl rfl el26 (by decide) q17.1 (lt1 q17.2) h) ?_
          refine AD.op [34] rfl (by kernel_rfl) rfl rfl (fun _ _ h => AOp.loadEp rfl rfl (ltb rfl) rfl agg90 (at1 q17.2) h) ?_
          refine AD.op [1] rfl (by kernel_rfl) rfl rfl (fun _ _ h => AOp.move rfl rfl (ltb rfl) rfl h) ?_
          refine AD.op [5] rfl (by kernel_rfl) rfl rfl (fun _ _ h => AOp.move rfl rfl (ltb rfl) rfl h) ?_
          obtain ⟨x18, q19, h1⟩ := idx_elim h1
          refine AD.op [36, 37] rfl (by kernel_rfl) rfl rfl (fun _ _ h => AOp.indexDs (cells := (List.map keS3 a1)) rfl rfl (ltb rfl) rfl rfl el26 (by decide) q19.1 (lt1 q19.2) h) ?_
          refine AD.op [38] rfl (by kernel_rfl) rfl rfl (fun _ _ h => AOp.loadEp rfl rfl (ltb rfl) rfl agg90 (at1 q19.2) h) ?_
          refine AD.op [35, 39] rfl (by kernel_rfl) rfl rfl (fun _ _ h => AOp.ilss rfl rfl (ltb rfl) rfl rfl h) ?_
          refine AD.done ?_
          refine AO.nil ?_
          change AC _ _ _ _
          refine AC.cond rfl (fun q20 => ?_) (fun q20 => ?_)
          · replace h1 := cT h1 q20
            refine AC.seq ?_
            refine AC.region ?_
            refine AO.op rfl (AOp.assign rfl rfl (ltb rfl) rfl ?_)
            refine AO.nil ?_
            change AC _ _ _ _
            refine AC.ret ?_
            change RetQ _ _ _ .ret _
            obtain rfl := Option.some.inj h1
            replace h0 := aftR h0
            obtain rfl := Option.some.inj h0
            refine retq rfl rfl
          · replace h1 := cF h1 q20
            refine AC.skip ?_
            change AC _ _ _ _
            refine AC.seq ?_
            refine AC.region ?_
            refine AO.op rfl (AOp.assign rfl rfl (ltb rfl) rfl ?_)
            refine AO.nil ?_
            change AC _ _ _ _
            refine AC.ret ?_
            change RetQ _ _ _ .ret _
            obtain rfl := Option.some.inj h1
            replace h0 := aftR h0
            obtain rfl := Option.some.inj h0
            refine retq rfl rfl
        · replace h1 := cF h1 q15
          refine AC.skip ?_
          change AC _ _ _ _
          refine AC.region ?_
          refine AO.op rfl (AOp.move rfl rfl (ltb rfl) rfl ?_)
          obtain ⟨q21, h1⟩ := need_elim h1
          refine AO.op rfl (AOp.isub rfl rfl (ltb rfl) rfl rfl rfl q21.1 q21.2 ?_)
          refine AO.op rfl (AOp.assign rfl rfl (ltb rfl) rfl ?_)
          refine AO.nil ?_
          exact ⟨(g7 - (1 : Int)), _, rfl, (LeL.refl _), rfl, rfl, h1⟩
      · replace h1 := cF h1 q10
        refine AC.exit ?_
        obtain rfl := Option.some.inj h1
        exact ⟨(), _, rfl, (LeL.refl _), rfl, rfl, aftL h0⟩
    · intro g6 h0
      unfold p_cmpLimbs_k1 at h0
      change AC _ _ _ _
      refine AC.seq ?_
      refine AC.region ?_
      refine AO.op rfl (AOp.assign rfl rfl (ltb rfl) rfl ?_)
      refine AO.nil ?_
      change AC _ _ _ _
      refine AC.ret ?_
      change RetQ _ _ _ .ret _
      obtain rfl := Option.some.inj h0
      refine retq rfl rfl

set_option maxRecDepth 100000 in
set_option maxHeartbeats 1000000 in
/-- pub-orthodrome/spec.subLimbs -/
theorem w_subLimbs (F : Nat) (a0 : (List Int)) (a1 : (List Int)) (r0 : (List Int)) (h0 : p_subLimbs F a0 a1 = some r0) : FnD Tryd.prog 76 [eS3 a0, eS3 a1] (fun r => r = eS3 r0) := by
  refine FnD.of (by kernel_rfl) Tryd.func76 rfl Tryd.ntmps76 rfl (leb rfl) fun W ok => ?_
  unfold p_subLimbs at h0
  refine AC.seq ?_
  refine AC.region ?_
  refine AO.op rfl (AOp.assign rfl rfl (ltb rfl) rfl ?_)
  refine AO.nil ?_
  change AC _ _ _ _
  refine AC.seq ?_
  refine AC.region ?_
  refine AO.op rfl (AOp.move rfl rfl (ltb rfl) rfl ?_)
  refine AO.op rfl (AOp.lenDs (n := a0.length) (cells := (List.map keS3 a0)) rfl rfl (ltb rfl) rfl el26 (by decide) (len1 _ _) ?_)
  obtain ⟨q1, h0⟩ := need_elim h0
  refine AO.op rfl (AOp.makeOwn0 rfl rfl (ltb rfl) rfl rfl el26 info90 (by decide) q1 ?_)
  refine AO.op rfl (AOp.assign rfl rfl (ltb rfl) rfl ?_)
  refine AO.nil ?_
  change AC _ _ _ _
  refine AC.seq ?_
  refine AC.region ?_
  refine AO.op rfl (AOp.assign rfl rfl (ltb rfl) rfl ?_)
  refine AO.nil ?_
  change AC _ _ _ _
  refine AC.seq ?_
  refine AC.seq ?_
  refine AC.region ?_
  refine AO.op rfl (AOp.move rfl rfl (ltb rfl) rfl ?_)
  refine AO.op rfl (AOp.lenDs (n := a0.length) (cells := (List.map keS3 a0)) rfl rfl (ltb rfl) rfl el26 (by decide) (len1 _ _) ?_)
  refine AO.op rfl (AOp.move rfl rfl (ltb rfl) rfl ?_)
  refine AO.nil ?_
  change AC _ _ _ _
  obtain ⟨o2, l3, h0⟩ := bind_elim h0
  refine AC.joinE (V := (List Int)) [] [5] 1 (fun g4 => [(5, .own 0)]) (fun g4 => [.grow 90 1 (List.map keS3 g4)]) (fun g4 => (p_subLimbs_k1 F) g4 = some r0) rfl ?_ ?_
  · refine AC.block ?_
    refine AC.loopP (V := (Int × Int × (List Int))) (p_subLimbs_l2 a0 a1) o2 [1, 13, 14] [5, 6, 15] 1 (fun g7 => [(5, .own 0), (6, .d (di .u64 g7.1)), (15, .d (di .i64 g7.2.1))]) (fun g7 => [.grow 90 1 (List.map keS3 g7.2.2)]) F ((0 : Int), (0 : Int), []) l3 rfl rfl (LeL.refl _) rfl rfl ?_
    intro n9 g7 h1
    unfold p_subLimbs_l2 at h1
    refine AC.seq ?_
    refine AC.region ?_
    refine AO.op rfl (AOp.ilss rfl rfl (ltb rfl) rfl rfl ?_)
    refine AO.nil ?_
    change AC _ _ _ _
    refine AC.seq ?_
    refine AC.cond rfl (fun q10 => ?_) (fun q10 => ?_)
    · replace h1 := cT h1 q10
      refine AC.skip ?_
      change AC _ _ _ _
      refine AC.seq ?_
      refine AC.block ?_
      refine AC.seq ?_
      refine AC.region ?_
      refine AO.op rfl (AOp.move rfl rfl (ltb rfl) rfl ?_)
      obtain ⟨x11, q12, h1⟩ := idx_elim h1
      refine AO.op rfl (AOp.indexDs (cells := (List.map keS3 a0)) rfl rfl (ltb rfl) rfl rfl el26 (by decide) q12.1 (lt1 q12.2) ?_)
      refine AO.op rfl (AOp.loadEp rfl rfl (ltb rfl) rfl agg90 (at1 q12.2) ?_)
      refine AO.op rfl (AOp.assign rfl rfl (ltb rfl) rfl ?_)
      refine AO.op rfl (AOp.assign rfl rfl (ltb rfl) rfl ?_)
      refine AO.nil ?_
      change AC _ _ _ _
      refine AC.seq ?_
      refine AC.region ?_
      refine AO.op rfl (AOp.move rfl rfl (ltb rfl) rfl ?_)
      refine AO.op rfl (AOp.assign rfl rfl (ltb rfl) rfl ?_)
      refine AO.nil ?_
      change AC _ _ _ _
      refine AC.joinP (V := Int) [1, 5, 8, 13, 14, 15] [9] 1 (fun g13 => [(9, .d (di .u64 g13))]) (fun g13 => [.grow 90 1 (List.map keS3 g7.2.2)]) (fun g13 => (p_subLimbs_k3 g7 (iter (p_subLimbs_l2 a0 a1) n9) x11) g13 = some o2) rfl ?_ ?_
      · refine AC.seq ?_
        refine AC.region ?_
        refine AO.op rfl (AOp.move rfl rfl (ltb rfl) rfl ?_)
        refine AO.op rfl (AOp.move rfl rfl (ltb rfl) rfl ?_)
        refine AO.op rfl (AOp.lenDs (n := a1.length) (cells := (List.map keS3 a1)) rfl rfl (ltb rfl) rfl el26 (by decide) (len1 _ _) ?_)
        refine AO.op rfl (AOp.ilss rfl rfl (ltb rfl) rfl rfl ?_)
        refine AO.nil ?_
        change AC _ _ _ _
        refine AC.cond rfl (fun q20 => ?_) (fun q20 => ?_)
        · replace h1 := cT h1 q20
          refine AC.region ?_
          refine AO.op rfl (AOp.move rfl rfl (ltb rfl) rfl ?_)
          refine AO.op rfl (AOp.move rfl rfl (ltb rfl) rfl ?_)
          refine AO.op rfl (AOp.move rfl rfl (ltb rfl) rfl ?_)
          obtain ⟨x21, q22, h1⟩ := idx_elim h1
          refine AO.op rfl (AOp.indexDs (cells := (List.map keS3 a1)) rfl rfl (ltb rfl) rfl rfl el26 (by decide) q22.1 (lt1 q22.2) ?_)
          refine AO.op rfl (AOp.loadEp rfl rfl (ltb rfl) rfl agg90 (at1 q22.2) ?_)
          refine AO.op rfl (AOp.i2i rfl rfl (ltb rfl) rfl Tryd.underlying90 Tryd.underlying88 rfl ?_)
          obtain ⟨q23, h1⟩ := need_elim h1
          refine AO.op rfl (AOp.iadd rfl rfl (ltb rfl) rfl rfl rfl q23.1 q23.2 ?_)
          refine AO.op rfl (AOp.assign rfl rfl (ltb rfl) rfl ?_)
          refine AO.nil ?_
          exact ⟨(g7.1 + (IntKind.u64.wrap x21)), _, rfl, (LeL.refl _), rfl, rfl, h1⟩
        · replace h1 := cF h1 q20
          refine AC.skip ?_
          exact ⟨g7.1, _, rfl, (LeL.refl _), rfl, rfl, h1⟩
      · intro g13 h1
        unfold p_subLimbs_k3 at h1
        refine AC.seq ?_
        refine AC.region ?_
        refine AO.op rfl (AOp.assign rfl rfl (ltb rfl) rfl ?_)
        refine AO.nil ?_
        change AC _ _ _ _
        refine AC.joinP (V := Int) [1, 5, 8, 9, 13, 14, 15] [6] 1 (fun g14 => [(6, .d (di .u64 g14))]) (fun g14 => [.grow 90 1 (List.map keS3 g7.2.2)]) (fun g14 => (p_subLimbs_k4 g7 (iter (p_subLimbs_l2 a0 a1) n9) x11 g13) g14 = some o2) rfl ?_ ?_
        · refine AC.seq ?_
          refine AC.region ?_
          refine AO.op rfl (AOp.move rfl rfl (ltb rfl) rfl ?_)
          refine AO.op rfl (AOp.i2i rfl rfl (ltb rfl) rfl Tryd.underlying90 Tryd.underlying88 rfl ?_)
          refine AO.op rfl (AOp.move rfl rfl (ltb rfl) rfl ?_)
          refine AO.op rfl (AOp.ilss rfl rfl (ltb rfl) rfl rfl ?_)
          refine AO.nil ?_
          change AC _ _ _ _
          refine AC.cond rfl (fun q19 => ?_) (fun q19 => ?_)
          · replace h1 := cT h1 q19
            refine AC.region ?_
            refine AO.op rfl (AOp.assign rfl rfl (ltb rfl) rfl ?_)
            refine AO.nil ?_
            exact ⟨(1 : Int), _, rfl, (LeL.refl _), rfl, rfl, h1⟩
          · replace h1 := cF h1 q19
            refine AC.skip ?_
            exact ⟨(0 : Int), _, rfl, (LeL.refl _), rfl, rfl, h1⟩
        · intro g14 h1
          unfold p_subLimbs_k4 at h1
          refine AC.region ?_
          refine AO.op rfl (AOp.move rfl rfl (ltb rfl) rfl ?_)
          refine AO.op rfl (AOp.move rfl rfl (ltb rfl) rfl ?_)
          refine AO.op rfl (AOp.i2i rfl rfl (ltb rfl) rfl Tryd.underlying90 Tryd.underlying88 rfl ?_)
          refine AO.op rfl (AOp.move rfl rfl (ltb rfl) rfl ?_)
          refine AO.op rfl (AOp.ishl (n := 32) rfl rfl (ltb rfl) rfl rfl (by decide) rfl ?_)
          obtain ⟨q15, h1⟩ := need_elim h1
          refine AO.op rfl (AOp.iadd rfl rfl (ltb rfl) rfl rfl rfl q15.1 q15.2 ?_)
          refine AO.op rfl (AOp.move rfl rfl (ltb rfl) rfl ?_)
          obtain ⟨q16, h1⟩ := need_elim h1
          refine AO.op rfl (AOp.isub rfl rfl (ltb rfl) rfl rfl rfl q16.1 q16.2 ?_)
          refine AO.op rfl (AOp.i2i rfl rfl (ltb rfl) rfl Tryd.underlying88 Tryd.underlying90 rfl ?_)
          refine AO.op rfl (AOp.buildSliceD rfl rfl (ltb rfl) el26 zero90 rfl (leb rfl) rfl rfl rfl rfl ?_)
          obtain ⟨q17, h1⟩ := need_elim h1
          refine AO.op rfl (AOp.appendOwn' (n := g7.2.2.length) (m := [(IntKind.u32.wrap (((IntKind.u64.wrap x11) + (IntKind.u64.wrap (g14 * 2 ^ 32))) - g13))].length) (news := (List.map keS3 [(IntKind.u32.wrap (((IntKind.u64.wrap x11) + (IntKind.u64.wrap (g14 * 2 ^ 32))) - g13))])) rfl rfl (ltb rfl) rfl rfl el26 info90 rfl (by decide) rfl (len1 _ _) (len1 _ _) (one1 _ (fun _ => rfl) _) q17 (by decide) rfl rfl (cat1 _ _ _) ?_)
          refine AO.op rfl (AOp.assign rfl rfl (ltb rfl) rfl ?_)
          refine AO.nil ?_
          change AC _ _ _ _
          refine AC.region ?_
          obtain ⟨q18, h1⟩ := need_elim h1
          refine AO.op rfl (AOp.iadd rfl rfl (ltb rfl) rfl rfl rfl q18.1 q18.2 ?_)
          refine AO.op rfl (AOp.move rfl rfl (ltb rfl) rfl ?_)
          refine AO.nil ?_
          exact ⟨(g14, (g7.2.1 + (1 : Int)), (g7.2.2 ++ [(IntKind.u32.wrap (((IntKind.u64.wrap x11) + (IntKind.u64.wrap (g14 * 2 ^ 32))) - g13))])), _, rfl, (LeL.refl _), rfl, rfl, h1⟩
    · replace h1 := cF h1 q10
      refine AC.exit ?_
      obtain rfl := Option.some.inj h1
      exact ⟨g7.2.2, _, rfl, (LeL.refl _), rfl, rfl, aftL h0⟩
  · intro g4 h0
    unfold p_subLimbs_k1 at h0
    change AC _ _ _ _
    refine AC.seq ?_
    refine AC.region ?_
    refine AO.op rfl (AOp.move rfl rfl (ltb rfl) rfl ?_)
    refine AO.freezeG 0 rfl rfl rfl ?_
    obtain ⟨y5, q6, h0⟩ := bind_elim h0
    refine AO.op rfl (AOp.callD rfl rfl (ltb rfl) rfl rfl (w_trim F g4 y5 q6) ?_)
    rintro _ rfl
    refine AO.op rfl (AOp.assign rfl rfl (ltb rfl) rfl ?_)
    refine AO.nil ?_
    change AC _ _ _ _
    refine AC.ret ?_
    change RetQ _ _ _ .ret _
    obtain rfl := Option.some.inj h0
    refine retq rfl rfl

set_option maxRecDepth 100000 in
set_option maxHeartbeats 1000000 in
/-- (pub-orthodrome/spec.Whole).Add -/
theorem w_Whole_Add (F : Nat) (a0 : TSpec_Whole) (a1 : TSpec_Whole) (r0 : TSpec_Whole) (h0 : p_Whole_Add F a0 a1 = some r0) : FnD Tryd.prog 71 [e_TSpec_Whole a0, e_TSpec_Whole a1] (fun r => r = e_TSpec_Whole r0) := by
  refine FnD.of (by kernel_rfl) Tryd.func71 rfl Tryd.ntmps71 rfl (leb rfl) fun W ok => ?_
  unfold p_Whole_Add at h0
  refine AC.seq ?_
  refine AC.region ?_
  refine AO.op rfl (AOp.box rfl rfl (ltb rfl) rfl rfl ?_)
  refine AO.op rfl (AOp.box rfl rfl (ltb rfl) rfl rfl ?_)
  refine AO.op rfl (AOp.alloc rfl rfl (ltb rfl) zero28 rfl ?_)
  refine AO.nil ?_
  change AC _ _ _ _
  refine AC.seq ?_
  refine AC.seq ?_
  refine AC.region ?_
  refine AO.op rfl (AOp.fieldAddr rfl rfl (ltb rfl) rfl fo28_0 ?_)
  refine AO.op rfl (AOp.load1 rfl rfl (ltb rfl) rfl agg4 rfl rfl ?_)
  refine AO.op rfl (AOp.fieldAddr rfl rfl (ltb rfl) rfl fo28_0 ?_)
  refine AO.op rfl (AOp.load1 rfl rfl (ltb rfl) rfl agg4 rfl rfl ?_)
  refine AO.op rfl (AOp.beql Tryd.underlying4 rfl rfl (ltb rfl) rfl rfl ?_)
  refine AO.nil ?_
  change AC _ _ _ _
  refine AC.cond rfl (fun q1 => ?_) (fun q1 => ?_)
  · replace h0 := cT h0 q1
    refine AC.seq ?_
    refine AC.draw 8 mixed (by kernel_rfl) ?_
    refine AD.op [2] rfl (by kernel_rfl) rfl rfl (fun _ _ h => AOp.fieldAddr rfl rfl (ltb rfl) rfl fo28_0 h) ?_
    refine AD.op [10] rfl (by kernel_rfl) rfl rfl (fun _ _ h => AOp.load1 rfl rfl (ltb rfl) rfl agg4 rfl rfl h) ?_
    refine AD.op [2] rfl (by kernel_rfl) rfl rfl (fun _ _ h => AOp.fieldAddr rfl rfl (ltb rfl) rfl fo28_1 h) ?_
    refine AD.op [12] rfl (by kernel_rfl) rfl rfl (fun _ _ h => AOp.load1 rfl rfl (ltb rfl) rfl agg26 rfl rfl h) ?_
    refine AD.op [3] rfl (by kernel_rfl) rfl rfl (fun _ _ h => AOp.fieldAddr rfl rfl (ltb rfl) rfl fo28_1 h) ?_
    refine AD.op [14] rfl (by kernel_rfl) rfl rfl (fun _ _ h => AOp.load1 rfl rfl (ltb rfl) rfl agg26 rfl rfl h) ?_
    obtain ⟨y2, q3, h0⟩ := bind_elim h0
    refine AD.op [13, 15] rfl (by kernel_rfl) rfl rfl (fun _ _ h => AOp.callD rfl rfl (ltb rfl) rfl rfl (w_addLimbs F a0.L a1.L y2 q3) (by rintro _ rfl; exact h)) ?_
    refine AD.op [11, 16] rfl (by kernel_rfl) rfl rfl (fun _ _ h => AOp.build rfl rfl (ltb rfl) zero28 rfl places28 rfl rfl h) ?_
    refine AD.done ?_
    refine AO.op rfl (AOp.store rfl rfl rfl rfl size28 rfl rfl rfl (leb rfl) ?_)
    refine AO.nil ?_
    change AC _ _ _ _
    refine AC.ret ?_
    change RetQ _ _ _ .ret _
    obtain rfl := Option.some.inj h0
    refine retq rfl rfl
  · replace h0 := cF h0 q1
    refine AC.skip ?_
    change AC _ _ _ _
    refine AC.seq ?_
    refine AC.seq ?_
    refine AC.region ?_
    refine AO.op rfl (AOp.fieldAddr rfl rfl (ltb rfl) rfl fo28_1 ?_)
    refine AO.op rfl (AOp.load1 rfl rfl (ltb rfl) rfl agg26 rfl rfl ?_)
    refine AO.op rfl (AOp.fieldAddr rfl rfl (ltb rfl) rfl fo28_1 ?_)
    refine AO.op rfl (AOp.load1 rfl rfl (ltb rfl) rfl agg26 rfl rfl ?_)
    obtain ⟨y4, q5, h0⟩ := bind_elim h0
    refine AO.op rfl (AOp.callD rfl rfl (ltb rfl) rfl rfl (w_cmpLimbs F a0.L a1.L y4 q5) ?_)
    rintro _ rfl
    refine AO.nil ?_
    change AC _ _ _ _
    refine AC.block ?_
    refine AC.seq ?_
    refine AC.region ?_
    refine AO.op rfl (AOp.ieql rfl rfl (ltb rfl) rfl rfl ?_)
    refine AO.op rfl (AOp.assign rfl rfl (ltb rfl) rfl ?_)
    refine AO.nil ?_
    change AC _ _ _ _
    refine AC.cond rfl (fun q6 => ?_) (fun q6 => ?_)
    · replace h0 := cT h0 q6
      refine AC.seq ?_
      refine AC.region ?_
      refine AO.op rfl (AOp.build rfl rfl (ltb rfl) zero28 rfl places28 rfl rfl ?_)
      refine AO.op rfl (AOp.store rfl rfl rfl rfl size28 rfl rfl rfl (leb rfl) ?_)
      refine AO.nil ?_
      change AC _ _ _ _
      refine AC.subO 2 rfl (.cons (SVLe.refl _) (.cons (SVLe.nil 1) .nil)) ?_
      refine AC.ret ?_
      change RetQ _ _ _ .ret _
      obtain rfl := Option.some.inj h0
      refine retq rfl rfl
    · replace h0 := cF h0 q6
      refine AC.seq ?_
      refine AC.region ?_
      refine AO.op rfl (AOp.ieql rfl rfl (ltb rfl) rfl rfl ?_)
      refine AO.op rfl (AOp.assign rfl rfl (ltb rfl) rfl ?_)
      refine AO.nil ?_
      change AC _ _ _ _
      refine AC.cond rfl (fun q7 => ?_) (fun q7 => ?_)
      · replace h0 := cT h0 q7
        refine AC.seq ?_
        refine AC.draw 8 mixed (by kernel_rfl) ?_
        refine AD.op [2] rfl (by kernel_rfl) rfl rfl (fun _ _ h => AOp.fieldAddr rfl rfl (ltb rfl) rfl fo28_0 h) ?_
        refine AD.op [28] rfl (by kernel_rfl) rfl rfl (fun _ _ h => AOp.load1 rfl rfl (ltb rfl) rfl agg4 rfl rfl h) ?_
        refine AD.op [2] rfl (by kernel_rfl) rfl rfl (fun _ _ h => AOp.fieldAddr rfl rfl (ltb rfl) rfl fo28_1 h) ?_
        refine AD.op [30] rfl (by kernel_rfl) rfl rfl (fun _ _ h => AOp.load1 rfl rfl (ltb rfl) rfl agg26 rfl rfl h) ?_
        refine AD.op [3] rfl (by kernel_rfl) rfl rfl (fun _ _ h => AOp.fieldAddr rfl rfl (ltb rfl) rfl fo28_1 h) ?_
        refine AD.op [32] rfl (by kernel_rfl) rfl rfl (fun _ _ h => AOp.load1 rfl rfl (ltb rfl) rfl agg26 rfl rfl h) ?_
        obtain ⟨y8, q9, h0⟩ := bind_elim h0
        refine AD.op [31, 33] rfl (by kernel_rfl) rfl rfl (fun _ _ h => AOp.callD rfl rfl (ltb rfl) rfl rfl (w_subLimbs F a0.L a1.L y8 q9) (by rintro _ rfl; exact h)) ?_
        refine AD.op [29, 34] rfl (by kernel_rfl) rfl rfl (fun _ _ h => AOp.build rfl rfl (ltb rfl) zero28 rfl places28 rfl rfl h) ?_
        refine AD.done ?_
        refine AO.op rfl (AOp.store rfl rfl rfl rfl size28 rfl rfl rfl (leb rfl) ?_)
        refine AO.nil ?_
        change AC _ _ _ _
        refine AC.ret ?_
        change RetQ _ _ _ .ret _
        obtain rfl := Option.some.inj h0
        refine retq rfl rfl
      · replace h0 := cF h0 q7
        refine AC.skip ?_
        change AC _ _ _ _
        refine AC.seq ?_
        refine AC.draw 8 mixed (by kernel_rfl) ?_
        refine AD.op [3] rfl (by kernel_rfl) rfl rfl (fun _ _ h => AOp.fieldAddr rfl rfl (ltb rfl) rfl fo28_0 h) ?_
        refine AD.op [36] rfl (by kernel_rfl) rfl rfl (fun _ _ h => AOp.load1 rfl rfl (ltb rfl) rfl agg4 rfl rfl h) ?_
        refine AD.op [3] rfl (by kernel_rfl) rfl rfl (fun _ _ h => AOp.fieldAddr rfl rfl (ltb rfl) rfl fo28_1 h) ?_
        refine AD.op [38] rfl (by kernel_rfl) rfl rfl (fun _ _ h => AOp.load1 rfl rfl (ltb rfl) rfl agg26 rfl rfl h) ?_
        refine AD.op [2] rfl (by kernel_rfl) rfl rfl (fun _ _ h => AOp.fieldAddr rfl rfl (ltb rfl) rfl fo28_1 h) ?_
        refine AD.op [40] rfl (by kernel_rfl) rfl rfl (fun _ _ h => AOp.load1 rfl rfl (ltb rfl) rfl agg26 rfl rfl h) ?_
        obtain ⟨y10, q11, h0⟩ := bind_elim h0
        refine AD.op [39, 41] rfl (by kernel_rfl) rfl rfl (fun _ _ h => AOp.callD rfl rfl (ltb rfl) rfl rfl (w_subLimbs F a1.L a0.L y10 q11) (by rintro _ rfl; exact h)) ?_
        refine AD.op [37, 42] rfl (by kernel_rfl) rfl rfl (fun _ _ h => AOp.build rfl rfl (ltb rfl) zero28 rfl places28 rfl rfl h) ?_
        refine AD.done ?_
        refine AO.op rfl (AOp.store rfl rfl rfl rfl size28 rfl rfl rfl (leb rfl) ?_)
        refine AO.nil ?_
        change AC _ _ _ _
        refine AC.ret ?_
        change RetQ _ _ _ .ret _
        obtain rfl := Option.some.inj h0
        refine retq rfl rfl

set_option maxRecDepth 100000 in
set_option maxHeartbeats 1000000 in
/-- (pub-orthodrome/spec.Dyadic).Add -/
theorem w_Dyadic_Add (F : Nat) (a0 : TSpec_Dyadic) (a1 : TSpec_Dyadic) (r0 : TSpec_Dyadic) (h0 : p_Dyadic_Add F a0 a1 = some r0) : FnD Tryd.prog 54 [e_TSpec_Dyadic a0, e_TSpec_Dyadic a1] (fun r => r = e_TSpec_Dyadic r0) := by
  refine FnD.of (by kernel_rfl) Tryd.func54 rfl Tryd.ntmps54 rfl (leb rfl) fun W ok => ?_
  unfold p_Dyadic_Add at h0
  refine AC.seq ?_
  refine AC.region ?_
  refine AO.op rfl (AOp.box rfl rfl (ltb rfl) rfl rfl ?_)
  refine AO.op rfl (AOp.box rfl rfl (ltb rfl) rfl rfl ?_)
  refine AO.op rfl (AOp.alloc rfl rfl (ltb rfl) zero30 rfl ?_)
  refine AO.nil ?_
  change AC _ _ _ _
  refine AC.seq ?_
  refine AC.block ?_
  refine AC.seq ?_
  refine AC.region ?_
  refine AO.op rfl (AOp.loadN rfl rfl (ltb rfl) rfl agg30 size30 rfl (leb rfl) rfl ?_)
  obtain ⟨y1, q2, h0⟩ := bind_elim h0
  refine AO.op rfl (AOp.callD rfl rfl (ltb rfl) rfl rfl (w_Dyadic_Sign a0 y1 q2) ?_)
  rintro _ rfl
  refine AO.op rfl (AOp.ieql rfl rfl (ltb rfl) rfl rfl ?_)
  refine AO.op rfl (AOp.assign rfl rfl (ltb rfl) rfl ?_)
  refine AO.nil ?_
  change AC _ _ _ _
  refine AC.cond rfl (fun q3 => ?_) (fun q3 => ?_)
  · replace h0 := cT h0 q3
    refine AC.seq ?_
    refine AC.region ?_
    refine AO.op rfl (AOp.loadN rfl rfl (ltb rfl) rfl agg30 size30 rfl (leb rfl) rfl ?_)
    refine AO.op rfl (AOp.store rfl rfl rfl rfl size30 rfl rfl rfl (leb rfl) ?_)
    refine AO.nil ?_
    change AC _ _ _ _
    refine AC.ret ?_
    change RetQ _ _ _ .ret _
    obtain rfl := Option.some.inj h0
    refine retq rfl rfl
  · replace h0 := cF h0 q3
    refine AC.seq ?_
    refine AC.region ?_
    refine AO.op rfl (AOp.loadN rfl rfl (ltb rfl) rfl agg30 size30 rfl (leb rfl) rfl ?_)
    obtain ⟨y4, q5, h0⟩ := bind_elim h0
    refine AO.op rfl (AOp.callD rfl rfl (ltb rfl) rfl rfl (w_Dyadic_Sign a1 y4 q5) ?_)
    rintro _ rfl
    refine AO.op rfl (AOp.ieql rfl rfl (ltb rfl) rfl rfl ?_)
    refine AO.op rfl (AOp.assign rfl rfl (ltb rfl) rfl ?_)
    refine AO.nil ?_
    change AC _ _ _ _
    refine AC.cond rfl (fun q6 => ?_) (fun q6 => ?_)
    · replace h0 := cT h0 q6
      refine AC.seq ?_
      refine AC.region ?_
      refine AO.op rfl (AOp.loadN rfl rfl (ltb rfl) rfl agg30 size30 rfl (leb rfl) rfl ?_)
      refine AO.op rfl (AOp.store rfl rfl rfl rfl size30 rfl rfl rfl (leb rfl) ?_)
      refine AO.nil ?_
      change AC _ _ _ _
      refine AC.ret ?_
      change RetQ _ _ _ .ret _
      obtain rfl := Option.some.inj h0
      refine retq rfl rfl
    · replace h0 := cF h0 q6
      refine AC.seq ?_
      refine AC.region ?_
      refine AO.op rfl (AOp.fieldAddr rfl rfl (ltb rfl) rfl fo30_1 ?_)
      refine AO.op rfl (AOp.load1 rfl rfl (ltb rfl) rfl agg3 rfl rfl ?_)
      refine AO.op rfl (AOp.fieldAddr rfl rfl (ltb rfl) rfl fo30_1 ?_)
      refine AO.op rfl (AOp.load1 rfl rfl (ltb rfl) rfl agg3 rfl rfl ?_)
      refine AO.op rfl (AOp.igtr rfl rfl (ltb rfl) rfl rfl ?_)
      refine AO.op rfl (AOp.assign rfl rfl (ltb rfl) rfl ?_)
      refine AO.nil ?_
      change AC _ _ _ _
      refine AC.cond rfl (fun q7 => ?_) (fun q7 => ?_)
      · replace h0 := cT h0 q7
        refine AC.seq ?_
        refine AC.draw 14 mixed (by kernel_rfl) ?_
        refine AD.op [2] rfl (by kernel_rfl) rfl rfl (fun _ _ h => AOp.fieldAddr rfl rfl (ltb rfl) rfl fo30_0 h) ?_
        refine AD.op [21] rfl (by kernel_rfl) rfl rfl (fun _ _ h => AOp.loadN rfl rfl (ltb rfl) rfl agg28 size28 rfl (leb rfl) rfl h) ?_
        refine AD.op [2] rfl (by kernel_rfl) rfl rfl (fun _ _ h => AOp.fieldAddr rfl rfl (ltb rfl) rfl fo30_1 h) ?_
        refine AD.op [23] rfl (by kernel_rfl) rfl rfl (fun _ _ h => AOp.load1 rfl rfl (ltb rfl) rfl agg3 rfl rfl h) ?_
        refine AD.op [3] rfl (by kernel_rfl) rfl rfl (fun _ _ h => AOp.fieldAddr rfl rfl (ltb rfl) rfl fo30_1 h) ?_
        refine AD.op [25] rfl (by kernel_rfl) rfl rfl (fun _ _ h => AOp.load1 rfl rfl (ltb rfl) rfl agg3 rfl rfl h) ?_
        obtain ⟨q8, h0⟩ := need_elim h0
        refine AD.op [24, 26] rfl (by kernel_rfl) rfl rfl (fun _ _ h => AOp.isub rfl rfl (ltb rfl) rfl rfl rfl q8.1 q8.2 h) ?_
        obtain ⟨y9, q10, h0⟩ := bind_elim h0
        refine AD.op [22, 27] rfl (by kernel_rfl) rfl rfl (fun _ _ h => AOp.callD rfl rfl (ltb rfl) rfl rfl (w_Whole_Up F a0.N (a0.E - a1.E) y9 q10) (by rintro _ rfl; exact h)) ?_
        refine AD.op [3] rfl (by kernel_rfl) rfl rfl (fun _ _ h => AOp.fieldAddr rfl rfl (ltb rfl) rfl fo30_0 h) ?_
        refine AD.op [29] rfl (by kernel_rfl) rfl rfl (fun _ _ h => AOp.loadN rfl rfl (ltb rfl) rfl agg28 size28 rfl (leb rfl) rfl h) ?_
        obtain ⟨y11, q12, h0⟩ := bind_elim h0
        refine AD.op [28, 30] rfl (by kernel_rfl) rfl rfl (fun _ _ h => AOp.callD rfl rfl (ltb rfl) rfl rfl (w_Whole_Add F y9 a1.N y11 q12) (by rintro _ rfl; exact h)) ?_
        refine AD.op [3] rfl (by kernel_rfl) rfl rfl (fun _ _ h => AOp.fieldAddr rfl rfl (ltb rfl) rfl fo30_1 h) ?_
        refine AD.op [32] rfl (by kernel_rfl) rfl rfl (fun _ _ h => AOp.load1 rfl rfl (ltb rfl) rfl agg3 rfl rfl h) ?_
        refine AD.op [31, 33] rfl (by kernel_rfl) rfl rfl (fun _ _ h => AOp.build rfl rfl (ltb rfl) zero30 rfl places30 rfl rfl h) ?_
        refine AD.done ?_
        refine AO.op rfl (AOp.store rfl rfl rfl rfl size30 rfl rfl rfl (leb rfl) ?_)
        refine AO.nil ?_
        change AC _ _ _ _
        refine AC.ret ?_
        change RetQ _ _ _ .ret _
        obtain rfl := Option.some.inj h0
        refine retq rfl rfl
      · replace h0 := cF h0 q7
        refine AC.skip ?_
        change AC _ _ _ _
        refine AC.seq ?_
        refine AC.draw 14 mixed (by kernel_rfl) ?_
        refine AD.op [3] rfl (by kernel_rfl) rfl rfl (fun _ _ h => AOp.fieldAddr rfl rfl (ltb rfl) rfl fo30_0 h) ?_
        refine AD.op [35] rfl (by kernel_rfl) rfl rfl (fun _ _ h => AOp.loadN rfl rfl (ltb rfl) rfl agg28 size28 rfl (leb rfl) rfl h) ?_
        refine AD.op [3] rfl (by kernel_rfl) rfl rfl (fun _ _ h => AOp.fieldAddr rfl rfl (ltb rfl) rfl fo30_1 h) ?_
        refine AD.op [37] rfl (by kernel_rfl) rfl rfl (fun _ _ h => AOp.load1 rfl rfl (ltb rfl) rfl agg3 rfl rfl h) ?_
        refine AD.op [2] rfl (by kernel_rfl) rfl rfl (fun _ _ h => AOp.fieldAddr rfl rfl (ltb rfl) rfl fo30_1 h) ?_
        refine AD.op [39] rfl (by kernel_rfl) rfl rfl (fun _ _ h => AOp.load1 rfl rfl (ltb rfl) rfl agg3 rfl rfl h) ?_
        obtain ⟨q13, h0⟩ := need_elim h0
        refine AD.op [38, 40] rfl (by kernel_rfl) rfl rfl (fun _ _ h => AOp.isub rfl rfl (ltb rfl) rfl rfl rfl q13.1 q13.2 h) ?_
        obtain ⟨y14, q15, h0⟩ := bind_elim h0
        refine AD.op [36, 41] rfl (by kernel_rfl) rfl rfl (fun _ _ h => AOp.callD rfl rfl (ltb rfl) rfl rfl (w_Whole_Up F a1.N (a1.E - a0.E) y14 q15) (by rintro _ rfl; exact h)) ?_
        refine AD.op [2] rfl (by kernel_rfl) rfl rfl (fun _ _ h => AOp.fieldAddr rfl rfl (ltb rfl) rfl fo30_0 h) ?_
        refine AD.op [43] rfl (by kernel_rfl) rfl rfl (fun _ _ h => AOp.loadN rfl rfl (ltb rfl) rfl agg28 size28 rfl (leb rfl) rfl h) ?_
        obtain ⟨y16, q17, h0⟩ := bind_elim h0
        refine AD.op [42, 44] rfl (by kernel_rfl) rfl rfl (fun _ _ h => AOp.callD rfl rfl (ltb rfl) rfl rfl (w_Whole_Add F y14 a0.N y16 q17) (by rintro _ rfl; exact h)) ?_
        refine AD.op [2] rfl (by kernel_rfl) rfl rfl (fun _ _ h => AOp.fieldAddr rfl rfl (ltb rfl) rfl fo30_1 h) ?_
        refine AD.op [46] rfl (by kernel_rfl) rfl rfl (fun _ _ h => AOp.load1 rfl rfl (ltb rfl) rfl agg3 rfl rfl h) ?_
        refine AD.op [45, 47] rfl (by kernel_rfl) rfl rfl (fun _ _ h => AOp.build rfl rfl (ltb rfl) zero30 rfl places30 rfl rfl h) ?_
        refine AD.done ?_
        refine AO.op rfl (AOp.store rfl rfl rfl rfl size30 rfl rfl rfl (leb rfl) ?_)
        refine AO.nil ?_
        change AC _ _ _ _
        refine AC.ret ?_
        change RetQ _ _ _ .ret _
        obtain rfl := Option.some.inj h0
        refine retq rfl rfl

set_option maxRecDepth 100000 in
set_option maxHeartbeats 1000000 in
/-- (pub-orthodrome/spec.Dyadic).Sub -/
theorem w_Dyadic_Sub (F : Nat) (a0 : TSpec_Dyadic) (a1 : TSpec_Dyadic) (r0 : TSpec_Dyadic) (h0 : p_Dyadic_Sub F a0 a1 = some r0) : FnD Tryd.prog 32 [e_TSpec_Dyadic a0, e_TSpec_Dyadic a1] (fun r => r = e_TSpec_Dyadic r0) := by
  refine FnD.of (by kernel_rfl) Tryd.func32 rfl Tryd.ntmps32 rfl (leb rfl) fun W ok => ?_
  unfold p_Dyadic_Sub at h0
  refine AC.seq ?_
  refine AC.region ?_
  refine AO.op rfl (AOp.box rfl rfl (ltb rfl) rfl rfl ?_)
  refine AO.op rfl (AOp.box rfl rfl (ltb rfl) rfl rfl ?_)
  refine AO.op rfl (AOp.alloc rfl rfl (ltb rfl) zero30 rfl ?_)
  refine AO.nil ?_
  change AC _ _ _ _
  refine AC.seq ?_
  refine AC.draw 4 mixed (by kernel_rfl) ?_
  refine AD.op [2] rfl (by kernel_rfl) rfl rfl (fun _ _ h => AOp.loadN rfl rfl (ltb rfl) rfl agg30 size30 rfl (leb rfl) rfl h) ?_
  refine AD.op [3] rfl (by kernel_rfl) rfl rfl (fun _ _ h => AOp.loadN rfl rfl (ltb rfl) rfl agg30 size30 rfl (leb rfl) rfl h) ?_
  obtain ⟨y1, q2, h0⟩ := bind_elim h0
  refine AD.op [6] rfl (by kernel_rfl) rfl rfl (fun _ _ h => AOp.callD rfl rfl (ltb rfl) rfl rfl (w_Dyadic_Minus a1 y1 q2) (by rintro _ rfl; exact h)) ?_
  obtain ⟨y3, q4, h0⟩ := bind_elim h0
  refine AD.op [5, 7] rfl (by kernel_rfl) rfl rfl (fun _ _ h => AOp.callD rfl rfl (ltb rfl) rfl rfl (w_Dyadic_Add F a0 y1 y3 q4) (by rintro _ rfl; exact h)) ?_
  refine AD.done ?_
  refine AO.op rfl (AOp.store rfl rfl rfl rfl size30 rfl rfl rfl (leb rfl) ?_)
  refine AO.nil ?_
  change AC _ _ _ _
  refine AC.ret ?_
  change RetQ _ _ _ .ret _
  obtain rfl := Option.some.inj h0
  refine retq rfl rfl

set_option maxRecDepth 100000 in
set_option maxHeartbeats 1000000 in
/-- (pub-orthodrome/spec.Whole).Mul -/
theorem w_Whole_Mul (F : Nat) (a0 : TSpec_Whole) (a1 : TSpec_Whole) (r0 : TSpec_Whole) (h0 : p_Whole_Mul F a0 a1 = some r0) : FnD Tryd.prog 55 [e_TSpec_Whole a0, e_TSpec_Whole a1] (fun r => r = e_TSpec_Whole r0) := by
  refine FnD.of (by kernel_rfl) Tryd.func55 rfl Tryd.ntmps55 rfl (leb rfl) fun W ok => ?_
  unfold p_Whole_Mul at h0
  refine AC.seq ?_
  refine AC.region ?_
  refine AO.op rfl (AOp.box rfl rfl (ltb rfl) rfl rfl ?_)
  refine AO.op rfl (AOp.box rfl rfl (ltb rfl) rfl rfl ?_)
  refine AO.op rfl (AOp.alloc rfl rfl (ltb rfl) zero28 rfl ?_)
  refine AO.nil ?_
  change AC _ _ _ _
  refine AC.seq ?_
  refine AC.region ?_
  refine AO.op rfl (AOp.fieldAddr rfl rfl (ltb rfl) rfl fo28_1 ?_)
  refine AO.op rfl (AOp.load1 rfl rfl (ltb rfl) rfl agg26 rfl rfl ?_)
  refine AO.op rfl (AOp.lenDs (n := a0.L.length) (cells := (List.map keS3 a0.L)) rfl rfl (ltb rfl) rfl el26 (by decide) (len1 _ _) ?_)
  refine AO.op rfl (AOp.fieldAddr rfl rfl (ltb rfl) rfl fo28_1 ?_)
  refine AO.op rfl (AOp.load1 rfl rfl (ltb rfl) rfl agg26 rfl rfl ?_)
  refine AO.op rfl (AOp.lenDs (n := a1.L.length) (cells := (List.map keS3 a1.L)) rfl rfl (ltb rfl) rfl el26 (by decide) (len1 _ _) ?_)
  obtain ⟨q1, h0⟩ := need_elim h0
  refine AO.op rfl (AOp.iadd rfl rfl (ltb rfl) rfl rfl rfl q1.1 q1.2 ?_)
  obtain ⟨q2, h0⟩ := need_elim h0
  refine AO.op rfl (AOp.makeL (f := fun z => SV.d (keS3 z)) (z0 := (0 : Int)) rfl rfl (ltb rfl) rfl rfl el26 info90 rfl rfl (by decide) q2.1 q2.2 rfl ?_)
  refine AO.op rfl (AOp.assign rfl rfl (ltb rfl) rfl ?_)
  refine AO.nil ?_
  change AC _ _ _ _
  refine AC.seq ?_
  refine AC.seq ?_
  refine AC.region ?_
  refine AO.op rfl (AOp.fieldAddr rfl rfl (ltb rfl) rfl fo28_1 ?_)
  refine AO.op rfl (AOp.load1 rfl rfl (ltb rfl) rfl agg26 rfl rfl ?_)
  refine AO.op rfl (AOp.lenDs (n := a0.L.length) (cells := (List.map keS3 a0.L)) rfl rfl (ltb rfl) rfl el26 (by decide) (len1 _ _) ?_)
  refine AO.op rfl (AOp.move rfl rfl (ltb rfl) rfl ?_)
  refine AO.nil ?_
  change AC _ _ _ _
  obtain ⟨o3, l4, h0⟩ := bind_elim h0
  refine AC.joinE (V := (List Int)) [2, 3, 4, 5] [] 4 (fun g5 => []) (fun g5 => [.fix 28 [.d (dbool a0.Neg), .d (eS3 a0.L)], .fix 28 [.d (dbool a1.Neg), .d (eS3 a1.L)], .fix 28 [.d (dbool false), .d (.v (.slice none 0 0))], .fix 90 (List.map (fun z => SV.d (keS3 z)) g5)]) (fun g5 => (p_Whole_Mul_k1 a0 a1 F) g5 = some r0) rfl ?_ ?_
  · refine AC.block ?_
    refine AC.loopP (V := (Int × (List Int))) (p_Whole_Mul_l2 a0 a1 F) o3 [2, 3, 4, 5, 21, 22] [23] 4 (fun g10 => [(23, .d (di .i64 g10.1))]) (fun g10 => [.fix 28 [.d (dbool a0.Neg), .d (eS3 a0.L)], .fix 28 [.d (dbool a1.Neg), .d (eS3 a1.L)], .fix 28 [.d (dbool false), .d (.v (.slice none 0 0))], .fix 90 (List.map (fun z => SV.d (keS3 z)) g10.2)]) F ((0 : Int), (List.replicate ((((a0.L.length : Nat) : Int) + ((a1.L.length : Nat) : Int))).toNat (0 : Int))) l4 rfl rfl (LeL.refl _) rfl (okU_mk rfl (okU_cons rfl (okU_cons rfl (okU_cons rfl (okU_cons (okU_fixl (fun _ => rfl)) okU_nil))))) ?_
    intro n12 g10 h1
    unfold p_Whole_Mul_l2 at h1
    refine AC.seq ?_
    refine AC.region ?_
    refine AO.op rfl (AOp.ilss rfl rfl (ltb rfl) rfl rfl ?_)
    refine AO.nil ?_
    change AC _ _ _ _
    refine AC.seq ?_
    refine AC.cond rfl (fun q13 => ?_) (fun q13 => ?_)
    · replace h1 := cT h1 q13
      refine AC.skip ?_
      change AC _ _ _ _
      refine AC.seq ?_
      refine AC.block ?_
      refine AC.seq ?_
      refine AC.region ?_
      refine AO.op rfl (AOp.move rfl rfl (ltb rfl) rfl ?_)
      obtain ⟨x14, q15, h1⟩ := idx_elim h1
      refine AO.op rfl (AOp.indexDs (cells := (List.map keS3 a0.L)) rfl rfl (ltb rfl) rfl rfl el26 (by decide) q15.1 (lt1 q15.2) ?_)
      refine AO.op rfl (AOp.loadEp rfl rfl (ltb rfl) rfl agg90 (at1 q15.2) ?_)
      refine AO.op rfl (AOp.assign rfl rfl (ltb rfl) rfl ?_)
      refine AO.op rfl (AOp.assign rfl rfl (ltb rfl) rfl ?_)
      refine AO.nil ?_
      change AC _ _ _ _
      refine AC.seq ?_
      refine AC.region ?_
      refine AO.op rfl (AOp.assign rfl rfl (ltb rfl) rfl ?_)
      refine AO.nil ?_
      change AC _ _ _ _
      refine AC.seq ?_
      refine AC.seq ?_
      refine AC.region ?_
      refine AO.op rfl (AOp.fieldAddr rfl rfl (ltb rfl) rfl fo28_1 ?_)
      refine AO.op rfl (AOp.load1 rfl rfl (ltb rfl) rfl agg26 rfl rfl ?_)
      refine AO.op rfl (AOp.lenDs (n := a1.L.length) (cells := (List.map keS3 a1.L)) rfl rfl (ltb rfl) rfl el26 (by decide) (len1 _ _) ?_)
      refine AO.op rfl (AOp.move rfl rfl (ltb rfl) rfl ?_)
      refine AO.nil ?_
      change AC _ _ _ _
      obtain ⟨o16, l17, h1⟩ := bind_elim h1
      refine AC.joinE (V := (Int × (List Int))) [2, 3, 4, 5, 6, 21, 22, 23] [8] 4 (fun g18 => [(8, .d (di .u64 g18.1))]) (fun g18 => [.fix 28 [.d (dbool a0.Neg), .d (eS3 a0.L)], .fix 28 [.d (dbool a1.Neg), .d (eS3 a1.L)], .fix 28 [.d (dbool false), .d (.v (.slice none 0 0))], .fix 90 (List.map (fun z => SV.d (keS3 z)) g18.2)]) (fun g18 => (p_Whole_Mul_k3 a0 a1 g10 (iter (p_Whole_Mul_l2 a0 a1 F) n12)) g18 = some o3) rfl ?_ ?_
      · refine AC.block ?_
        refine AC.loopP (V := (Int × Int × (List Int))) (p_Whole_Mul_l4 a0 a1 g10 x14) o16 [2, 3, 4, 5, 6, 7, 21, 22, 23, 29, 30] [8, 31] 4 (fun g23 => [(8, .d (di .u64 g23.1)), (31, .d (di .i64 g23.2.1))]) (fun g23 => [.fix 28 [.d (dbool a0.Neg), .d (eS3 a0.L)], .fix 28 [.d (dbool a1.Neg), .d (eS3 a1.L)], .fix 28 [.d (dbool false), .d (.v (.slice none 0 0))], .fix 90 (List.map (fun z => SV.d (keS3 z)) g23.2.2)]) F ((0 : Int), (0 : Int), g10.2) l17 rfl rfl (LeL.refl _) rfl (okU_mk rfl (okU_cons rfl (okU_cons rfl (okU_cons rfl (okU_cons (okU_fixl (fun _ => rfl)) okU_nil))))) ?_
        intro n25 g23 h2
        unfold p_Whole_Mul_l4 at h2
        refine AC.seq ?_
        refine AC.region ?_
        refine AO.op rfl (AOp.ilss rfl rfl (ltb rfl) rfl rfl ?_)
        refine AO.nil ?_
        change AC _ _ _ _
        refine AC.seq ?_
        refine AC.cond rfl (fun q26 => ?_) (fun q26 => ?_)
        · replace h2 := cT h2 q26
          refine AC.skip ?_
          change AC _ _ _ _
          refine AC.seq ?_
          refine AC.block ?_
          refine AC.seq ?_
          refine AC.region ?_
          refine AO.op rfl (AOp.move rfl rfl (ltb rfl) rfl ?_)
          obtain ⟨x27, q28, h2⟩ := idx_elim h2
          refine AO.op rfl (AOp.indexDs (cells := (List.map keS3 a1.L)) rfl rfl (ltb rfl) rfl rfl el26 (by decide) q28.1 (lt1 q28.2) ?_)
          refine AO.op rfl (AOp.loadEp rfl rfl (ltb rfl) rfl agg90 (at1 q28.2) ?_)
          refine AO.op rfl (AOp.assign rfl rfl (ltb rfl) rfl ?_)
          refine AO.op rfl (AOp.assign rfl rfl (ltb rfl) rfl ?_)
          refine AO.nil ?_
          change AC _ _ _ _
          refine AC.seq ?_
          refine AC.region ?_
          refine AO.op rfl (AOp.move rfl rfl (ltb rfl) rfl ?_)
          refine AO.op rfl (AOp.i2i rfl rfl (ltb rfl) rfl Tryd.underlying90 Tryd.underlying88 rfl ?_)
          refine AO.op rfl (AOp.move rfl rfl (ltb rfl) rfl ?_)
          refine AO.op rfl (AOp.i2i rfl rfl (ltb rfl) rfl Tryd.underlying90 Tryd.underlying88 rfl ?_)
          obtain ⟨q29, h2⟩ := need_elim h2
          refine AO.op rfl (AOp.imul rfl rfl (ltb rfl) rfl rfl rfl q29.1 q29.2 ?_)
          refine AO.op rfl (AOp.move rfl rfl (ltb rfl) rfl ?_)
          refine AO.op rfl (AOp.move rfl rfl (ltb rfl) rfl ?_)
          refine AO.op rfl (AOp.move rfl rfl (ltb rfl) rfl ?_)
          obtain ⟨q30, h2⟩ := need_elim h2
          refine AO.op rfl (AOp.iadd rfl rfl (ltb rfl) rfl rfl rfl q30.1 q30.2 ?_)
          obtain ⟨q31, h2⟩ := need_elim h2
          refine AO.op rfl (AOp.indexSl rfl rfl (ltb rfl) rfl rfl el26 q31.1 q31.2 ?_)
          obtain ⟨x32, q33, h2⟩ := idx_elim h2
          refine AO.op rfl (AOp.load1 rfl rfl (ltb rfl) rfl agg90 rfl (atO q33.2) ?_)
          refine AO.op rfl (AOp.i2i rfl rfl (ltb rfl) rfl Tryd.underlying90 Tryd.underlying88 rfl ?_)
          obtain ⟨q34, h2⟩ := need_elim h2
          refine AO.op rfl (AOp.iadd rfl rfl (ltb rfl) rfl rfl rfl q34.1 q34.2 ?_)
          refine AO.op rfl (AOp.move rfl rfl (ltb rfl) rfl ?_)
          obtain ⟨q35, h2⟩ := need_elim h2
          refine AO.op rfl (AOp.iadd rfl rfl (ltb rfl) rfl rfl rfl q35.1 q35.2 ?_)
          refine AO.op rfl (AOp.assign rfl rfl (ltb rfl) rfl ?_)
          refine AO.nil ?_
          change AC _ _ _ _
          refine AC.seq ?_
          refine AC.region ?_
          refine AO.op rfl (AOp.move rfl rfl (ltb rfl) rfl ?_)
          refine AO.op rfl (AOp.move rfl rfl (ltb rfl) rfl ?_)
          refine AO.op rfl (AOp.move rfl rfl (ltb rfl) rfl ?_)
          obtain ⟨q36, h2⟩ := need_elim h2
          refine AO.op rfl (AOp.iadd rfl rfl (ltb rfl) rfl rfl rfl q36.1 q36.2 ?_)
          refine AO.op rfl (AOp.move rfl rfl (ltb rfl) rfl ?_)
          refine AO.op rfl (AOp.i2i rfl rfl (ltb rfl) rfl Tryd.underlying88 Tryd.underlying90 rfl ?_)
          obtain ⟨q37, h2⟩ := need_elim h2
          refine AO.op rfl (AOp.indexSl rfl rfl (ltb rfl) rfl rfl el26 q37.1 q37.2 ?_)
          obtain ⟨q38, h2⟩ := need_elim h2
          refine AO.op rfl (AOp.storeL (f := fun z => SV.d (keS3 z)) (l := g23.2.2) (i := ((g10.1 + g23.2.1)).toNat) (v := (IntKind.u32.wrap ((((IntKind.u64.wrap x14) * (IntKind.u64.wrap x27)) + (IntKind.u64.wrap x32)) + g23.1))) rfl rfl rfl rfl size90 rfl rfl rfl q38 ?_)
          refine AO.nil ?_
          change AC _ _ _ _
          refine AC.region ?_
          refine AO.op rfl (AOp.move rfl rfl (ltb rfl) rfl ?_)
          obtain ⟨q39, h2⟩ := need_elim h2
          refine AO.op rfl (AOp.ishr (n := 32) rfl rfl (ltb rfl) rfl rfl (by decide) q39 rfl ?_)
          refine AO.op rfl (AOp.assign rfl rfl (ltb rfl) rfl ?_)
          refine AO.nil ?_
          change AC _ _ _ _
          refine AC.region ?_
          obtain ⟨q40, h2⟩ := need_elim h2
          refine AO.op rfl (AOp.iadd rfl rfl (ltb rfl) rfl rfl rfl q40.1 q40.2 ?_)
          refine AO.op rfl (AOp.move rfl rfl (ltb rfl) rfl ?_)
          refine AO.nil ?_
          exact ⟨((((((IntKind.u64.wrap x14) * (IntKind.u64.wrap x27)) + (IntKind.u64.wrap x32)) + g23.1) / 2 ^ 32), (g23.2.1 + (1 : Int)), (g23.2.2.set ((g10.1 + g23.2.1)).toNat (IntKind.u32.wrap ((((IntKind.u64.wrap x14) * (IntKind.u64.wrap x27)) + (IntKind.u64.wrap x32)) + g23.1)))), _, rfl, (LeL.refl _), rfl, (okU_mk rfl (okU_cons rfl (okU_cons rfl (okU_cons rfl (okU_cons (okU_fixl (fun _ => rfl)) okU_nil))))), h2⟩
        · replace h2 := cF h2 q26
          refine AC.exit ?_
          obtain rfl := Option.some.inj h2
          exact ⟨(g23.1, g23.2.2), _, rfl, (LeL.refl _), rfl, (okU_mk rfl (okU_cons rfl (okU_cons rfl (okU_cons rfl (okU_cons (okU_fixl (fun _ => rfl)) okU_nil))))), aftL h1⟩
      · intro g18 h1
        unfold p_Whole_Mul_k3 at h1
        change AC _ _ _ _
        refine AC.region ?_
        refine AO.op rfl (AOp.move rfl rfl (ltb rfl) rfl ?_)
        refine AO.op rfl (AOp.move rfl rfl (ltb rfl) rfl ?_)
        refine AO.op rfl (AOp.fieldAddr rfl rfl (ltb rfl) rfl fo28_1 ?_)
        refine AO.op rfl (AOp.load1 rfl rfl (ltb rfl) rfl agg26 rfl rfl ?_)
        refine AO.op rfl (AOp.lenDs (n := a1.L.length) (cells := (List.map keS3 a1.L)) rfl rfl (ltb rfl) rfl el26 (by decide) (len1 _ _) ?_)
        obtain ⟨q19, h1⟩ := need_elim h1
        refine AO.op rfl (AOp.iadd rfl rfl (ltb rfl) rfl rfl rfl q19.1 q19.2 ?_)
        refine AO.op rfl (AOp.move rfl rfl (ltb rfl) rfl ?_)
        refine AO.op rfl (AOp.i2i rfl rfl (ltb rfl) rfl Tryd.underlying88 Tryd.underlying90 rfl ?_)
        obtain ⟨q20, h1⟩ := need_elim h1
        refine AO.op rfl (AOp.indexSl rfl rfl (ltb rfl) rfl rfl el26 q20.1 q20.2 ?_)
        obtain ⟨q21, h1⟩ := need_elim h1
        refine AO.op rfl (AOp.storeL (f := fun z => SV.d (keS3 z)) (l := g18.2) (i := ((g10.1 + ((a1.L.length : Nat) : Int))).toNat) (v := (IntKind.u32.wrap g18.1)) rfl rfl rfl rfl size90 rfl rfl rfl q21 ?_)
        refine AO.nil ?_
        change AC _ _ _ _
        refine AC.region ?_
        obtain ⟨q22, h1⟩ := need_elim h1
        refine AO.op rfl (AOp.iadd rfl rfl (ltb rfl) rfl rfl rfl q22.1 q22.2 ?_)
        refine AO.op rfl (AOp.move rfl rfl (ltb rfl) rfl ?_)
        refine AO.nil ?_
        exact ⟨((g10.1 + (1 : Int)), (g18.2.set ((g10.1 + ((a1.L.length : Nat) : Int))).toNat (IntKind.u32.wrap g18.1))), _, rfl, (LeL.refl _), rfl, (okU_mk rfl (okU_cons rfl (okU_cons rfl (okU_cons rfl (okU_cons (okU_fixl (fun _ => rfl)) okU_nil))))), h1⟩
    · replace h1 := cF h1 q13
      refine AC.exit ?_
      obtain rfl := Option.some.inj h1
      exact ⟨g10.2, _, rfl, (LeL.refl _), rfl, (okU_mk rfl (okU_cons rfl (okU_cons rfl (okU_cons rfl (okU_cons (okU_fixl (fun _ => rfl)) okU_nil))))), aftL h0⟩
  · intro g5 h0
    unfold p_Whole_Mul_k1 at h0
    change AC _ _ _ _
    refine AC.seq ?_
    refine AC.region ?_
    refine AO.op rfl (AOp.move rfl rfl (ltb rfl) rfl ?_)
    obtain ⟨q6, h0⟩ := need_elim h0
    refine AO.freezeF (ds := (List.map keS3 g5)) 71 3 rfl rfl rfl (by rw [List.map_map]; rfl) (by rw [q6]; exact len1 _ _) (Nat.le_refl _) ?_
    obtain ⟨y7, q8, h0⟩ := bind_elim h0
    refine AO.op rfl (AOp.callD rfl rfl (ltb rfl) rfl rfl (w_trim F g5 y7 q8) ?_)
    rintro _ rfl
    refine AO.op rfl (AOp.assign rfl rfl (ltb rfl) rfl ?_)
    refine AO.nil ?_
    change AC _ _ _ _
    refine AC.seq ?_
    refine AC.region ?_
    refine AO.op rfl (AOp.move rfl rfl (ltb rfl) rfl ?_)
    refine AO.op rfl (AOp.lenDs (n := y7.length) (cells := (List.map keS3 y7)) rfl rfl (ltb rfl) rfl el26 (by decide) (len1 _ _) ?_)
    refine AO.op rfl (AOp.igtr rfl rfl (ltb rfl) rfl rfl ?_)
    refine AO.op rfl (AOp.move rfl rfl (ltb rfl) rfl ?_)
    refine AO.dec (decide ((0 : Int) < ((y7.length : Nat) : Int))) (fun q9 => ?_) (fun q9 => ?_)
    · replace h0 := cT h0 q9
      refine AO.guardY rfl rfl rfl q9 (AOp.fieldAddr rfl rfl (ltb rfl) rfl fo28_0 ?_)
      refine AO.guardY rfl rfl rfl q9 (AOp.load1 rfl rfl (ltb rfl) rfl agg4 rfl rfl ?_)
      refine AO.guardY rfl rfl rfl q9 (AOp.fieldAddr rfl rfl (ltb rfl) rfl fo28_0 ?_)
      refine AO.guardY rfl rfl rfl q9 (AOp.load1 rfl rfl (ltb rfl) rfl agg4 rfl rfl ?_)
      refine AO.guardY rfl rfl rfl q9 (AOp.bneq Tryd.underlying4 rfl rfl (ltb rfl) rfl rfl ?_)
      refine AO.op rfl (AOp.pick rfl rfl (ltb rfl) rfl q9 rfl ?_)
      refine AO.op rfl (AOp.move rfl rfl (ltb rfl) rfl ?_)
      refine AO.op rfl (AOp.build rfl rfl (ltb rfl) zero28 rfl places28 rfl rfl ?_)
      refine AO.op rfl (AOp.store rfl rfl rfl rfl size28 rfl rfl rfl (leb rfl) ?_)
      refine AO.nil ?_
      change AC _ _ _ _
      refine AC.ret ?_
      change RetQ _ _ _ .ret _
      obtain rfl := Option.some.inj h0
      refine retq rfl rfl
    · replace h0 := cF h0 q9
      refine AO.guardN rfl rfl rfl (ltb rfl) rfl q9 ?_
      refine AO.guardN rfl rfl rfl (ltb rfl) rfl q9 ?_
      refine AO.guardN rfl rfl rfl (ltb rfl) rfl q9 ?_
      refine AO.guardN rfl rfl rfl (ltb rfl) rfl q9 ?_
      refine AO.guardN rfl rfl rfl (ltb rfl) rfl q9 ?_
      refine AO.op rfl (AOp.pickN rfl rfl (ltb rfl) rfl q9 rfl ?_)
      refine AO.op rfl (AOp.move rfl rfl (ltb rfl) rfl ?_)
      refine AO.op rfl (AOp.build rfl rfl (ltb rfl) zero28 rfl places28 rfl rfl ?_)
      refine AO.op rfl (AOp.store rfl rfl rfl rfl size28 rfl rfl rfl (leb rfl) ?_)
      refine AO.nil ?_
      change AC _ _ _ _
      refine AC.ret ?_
      change RetQ _ _ _ .ret _
      obtain rfl := Option.some.inj h0
      refine retq rfl rfl

set_option maxRecDepth 100000 in
set_option maxHeartbeats 1000000 in
/-- (pub-orthodrome/spec.Dyadic).Mul -/
theorem w_Dyadic_Mul (F : Nat) (a0 : TSpec_Dyadic) (a1 : TSpec_Dyadic) (r0 : TSpec_Dyadic) (h0 : p_Dyadic_Mul F a0 a1 = some r0) : FnD Tryd.prog 33 [e_TSpec_Dyadic a0, e_TSpec_Dyadic a1] (fun r => r = e_TSpec_Dyadic r0) := by
  refine FnD.of (by kernel_rfl) Tryd.func33 rfl Tryd.ntmps33 rfl (leb rfl) fun W ok => ?_
  unfold p_Dyadic_Mul at h0
  refine AC.seq ?_
  refine AC.region ?_
  refine AO.op rfl (AOp.box rfl rfl (ltb rfl) rfl rfl ?_)
  refine AO.op rfl (AOp.box rfl rfl (ltb rfl) rfl rfl ?_)
  refine AO.op rfl (AOp.alloc rfl rfl (ltb rfl) zero30 rfl ?_)
  refine AO.nil ?_
  change AC _ _ _ _
  refine AC.seq ?_
  refine AC.draw 11 mixed (by kernel_rfl) ?_
  refine AD.op [2] rfl (by kernel_rfl) rfl rfl (fun _ _ h => AOp.fieldAddr rfl rfl (ltb rfl) rfl fo30_0 h) ?_
  refine AD.op [5] rfl (by kernel_rfl) rfl rfl (fun _ _ h => AOp.loadN rfl rfl (ltb rfl) rfl agg28 size28 rfl (leb rfl) rfl h) ?_
  refine AD.op [3] rfl (by kernel_rfl) rfl rfl (fun _ _ h => AOp.fieldAddr rfl rfl (ltb rfl) rfl fo30_0 h) ?_
  refine AD.op [7] rfl (by kernel_rfl) rfl rfl (fun _ _ h => AOp.loadN rfl rfl (ltb rfl) rfl agg28 size28 rfl (leb rfl) rfl h) ?_
  obtain ⟨y1, q2, h0⟩ := bind_elim h0
  refine AD.op [6, 8] rfl (by kernel_rfl) rfl rfl (fun _ _ h => AOp.callD rfl rfl (ltb rfl) rfl rfl (w_Whole_Mul F a0.N a1.N y1 q2) (by rintro _ rfl; exact h)) ?_
  refine AD.op [2] rfl (by kernel_rfl) rfl rfl (fun _ _ h => AOp.fieldAddr rfl rfl (ltb rfl) rfl fo30_1 h) ?_
  refine AD.op [10] rfl (by kernel_rfl) rfl rfl (fun _ _ h => AOp.load1 rfl rfl (ltb rfl) rfl agg3 rfl rfl h) ?_
  refine AD.op [3] rfl (by kernel_rfl) rfl rfl (fun _ _ h => AOp.fieldAddr rfl rfl (ltb rfl) rfl fo30_1 h) ?_
  refine AD.op [12] rfl (by kernel_rfl) rfl rfl (fun _ _ h => AOp.load1 rfl rfl (ltb rfl) rfl agg3 rfl rfl h) ?_
  obtain ⟨q3, h0⟩ := need_elim h0
  refine AD.op [11, 13] rfl (by kernel_rfl) rfl rfl (fun _ _ h => AOp.iadd rfl rfl (ltb rfl) rfl rfl rfl q3.1 q3.2 h) ?_
  refine AD.op [9, 14] rfl (by kernel_rfl) rfl rfl (fun _ _ h => AOp.build rfl rfl (ltb rfl) zero30 rfl places30 rfl rfl h) ?_
  refine AD.done ?_
  refine AO.op rfl (AOp.store rfl rfl rfl rfl size30 rfl rfl rfl (leb rfl) ?_)
  refine AO.nil ?_
  change AC _ _ _ _
  refine AC.ret ?_
  change RetQ _ _ _ .ret _
  obtain rfl := Option.some.inj h0
  refine retq rfl rfl

set_option maxRecDepth 100000 in
set_option maxHeartbeats 1000000 in
/-- pub-orthodrome/spec.Cross -/
theorem w_Cross (F : Nat) (a0 : TSpec_Point) (a1 : TSpec_Point) (a2 : TSpec_Point) (r0 : TSpec_Dyadic) (h0 : p_Cross F a0 a1 a2 = some r0) : FnD Tryd.prog 11 [e_TSpec_Point a0, e_TSpec_Point a1, e_TSpec_Point a2] (fun r => r = e_TSpec_Dyadic r0) := by
  refine FnD.of (by kernel_rfl) Tryd.func11 rfl Tryd.ntmps11 rfl (leb rfl) fun W ok => ?_
  unfold p_Cross at h0
  refine AC.seq ?_
  refine AC.region ?_
  refine AO.op rfl (AOp.box rfl rfl (ltb rfl) rfl rfl ?_)
  refine AO.op rfl (AOp.box rfl rfl (ltb rfl) rfl rfl ?_)
  refine AO.op rfl (AOp.box rfl rfl (ltb rfl) rfl rfl ?_)
  refine AO.op rfl (AOp.alloc rfl rfl (ltb rfl) zero30 rfl ?_)
  refine AO.nil ?_
  change AC _ _ _ _
  refine AC.seq ?_
  refine AC.draw 23 mixed (by kernel_rfl) ?_
  refine AD.op [4] rfl (by kernel_rfl) rfl rfl (fun _ _ h => AOp.fieldAddr rfl rfl (ltb rfl) rfl fo32_0 h) ?_
  refine AD.op [7] rfl (by kernel_rfl) rfl rfl (fun _ _ h => AOp.loadN rfl rfl (ltb rfl) rfl agg30 size30 rfl (leb rfl) rfl h) ?_
  refine AD.op [3] rfl (by kernel_rfl) rfl rfl (fun _ _ h => AOp.fieldAddr rfl rfl (ltb rfl) rfl fo32_0 h) ?_
  refine AD.op [9] rfl (by kernel_rfl) rfl rfl (fun _ _ h => AOp.loadN rfl rfl (ltb rfl) rfl agg30 size30 rfl (leb rfl) rfl h) ?_
  obtain ⟨y1, q2, h0⟩ := bind_elim h0
  refine AD.op [8, 10] rfl (by kernel_rfl) rfl rfl (fun _ _ h => AOp.callD rfl rfl (ltb rfl) rfl rfl (w_Dyadic_Sub F a1.X a0.X y1 q2) (by rintro _ rfl; exact h)) ?_
  refine AD.op [5] rfl (by kernel_rfl) rfl rfl (fun _ _ h => AOp.fieldAddr rfl rfl (ltb rfl) rfl fo32_1 h) ?_
  refine AD.op [12] rfl (by kernel_rfl) rfl rfl (fun _ _ h => AOp.loadN rfl rfl (ltb rfl) rfl agg30 size30 rfl (leb rfl) rfl h) ?_
  refine AD.op [3] rfl (by kernel_rfl) rfl rfl (fun _ _ h => AOp.fieldAddr rfl rfl (ltb rfl) rfl fo32_1 h) ?_
  refine AD.op [14] rfl (by kernel_rfl) rfl rfl (fun _ _ h => AOp.loadN rfl rfl (ltb rfl) rfl agg30 size30 rfl (leb rfl) rfl h) ?_
  obtain ⟨y3, q4, h0⟩ := bind_elim h0
  refine AD.op [13, 15] rfl (by kernel_rfl) rfl rfl (fun _ _ h => AOp.callD rfl rfl (ltb rfl) rfl rfl (w_Dyadic_Sub F a2.Y a0.Y y3 q4) (by rintro _ rfl; exact h)) ?_
  obtain ⟨y5, q6, h0⟩ := bind_elim h0
  refine AD.op [11, 16] rfl (by kernel_rfl) rfl rfl (fun _ _ h => AOp.callD rfl rfl (ltb rfl) rfl rfl (w_Dyadic_Mul F y1 y3 y5 q6) (by rintro _ rfl; exact h)) ?_
  refine AD.op [4] rfl (by kernel_rfl) rfl rfl (fun _ _ h => AOp.fieldAddr rfl rfl (ltb rfl) rfl fo32_1 h) ?_
  refine AD.op [18] rfl (by kernel_rfl) rfl rfl (fun _ _ h => AOp.loadN rfl rfl (ltb rfl) rfl agg30 size30 rfl (leb rfl) rfl h) ?_
  refine AD.op [3] rfl (by kernel_rfl) rfl rfl (fun _ _ h => AOp.fieldAddr rfl rfl (ltb rfl) rfl fo32_1 h) ?_
  refine AD.op [20] rfl (by kernel_rfl) rfl rfl (fun _ _ h => AOp.loadN rfl rfl (ltb rfl) rfl agg30 size30 rfl (leb rfl) rfl h) ?_
  obtain ⟨y7, q8, h0⟩ := bind_elim h0
  refine AD.op [19, 21] rfl (by kernel_rfl) rfl rfl (fun _ _ h => AOp.callD rfl rfl (ltb rfl) rfl rfl (w_Dyadic_Sub F a1.Y a0.Y y7 q8) (by rintro _ rfl; exact h)) ?_
  refine AD.op [5] rfl (by kernel_rfl) rfl rfl (fun _ _ h => AOp.fieldAddr rfl rfl (ltb rfl) rfl fo32_0 h) ?_
  refine AD.op [23] rfl (by kernel_rfl) rfl rfl (fun _ _ h => AOp.loadN rfl rfl (ltb rfl) rfl agg30 size30 rfl (leb rfl) rfl h) ?_
  refine AD.op [3] rfl (by kernel_rfl) rfl rfl (fun _ _ h => AOp.fieldAddr rfl rfl (ltb rfl) rfl fo32_0 h) ?_
  refine AD.op [25] rfl (by kernel_rfl) rfl rfl (fun _ _ h => AOp.loadN rfl rfl (ltb rfl) rfl agg30 size30 rfl (leb rfl) rfl h) ?_
  obtain ⟨y9, q10, h0⟩ := bind_elim h0
  refine AD.op [24, 26] rfl (by kernel_rfl) rfl rfl (fun _ _ h => AOp.callD rfl rfl (ltb rfl) rfl rfl (w_Dyadic_Sub F a2.X a0.X y9 q10) (by rintro _ rfl; exact h)) ?_
  obtain ⟨y11, q12, h0⟩ := bind_elim h0
  refine AD.op [22, 27] rfl (by kernel_rfl) rfl rfl (fun _ _ h => AOp.callD rfl rfl (ltb rfl) rfl rfl (w_Dyadic_Mul F y7 y9 y11 q12) (by rintro _ rfl; exact h)) ?_
  obtain ⟨y13, q14, h0⟩ := bind_elim h0
  refine AD.op [17, 28] rfl (by kernel_rfl) rfl rfl (fun _ _ h => AOp.callD rfl rfl (ltb rfl) rfl rfl (w_Dyadic_Sub F y5 y11 y13 q14) (by rintro _ rfl; exact h)) ?_
  refine AD.done ?_
  refine AO.op rfl (AOp.store rfl rfl rfl rfl size30 rfl rfl rfl (leb rfl) ?_)
  refine AO.nil ?_
  change AC _ _ _ _
  refine AC.ret ?_
  change RetQ _ _ _ .ret _
  obtain rfl := Option.some.inj h0
  refine retq rfl rfl

set_option maxRecDepth 100000 in
set_option maxHeartbeats 1000000 in
/-- pub-orthodrome/spec.Orient -/
theorem w_Orient (F : Nat) (a0 : TSpec_Point) (a1 : TSpec_Point) (a2 : TSpec_Point) (r0 : Int) (h0 : p_Orient F a0 a1 a2 = some r0) : FnD Tryd.prog 10 [e_TSpec_Point a0, e_TSpec_Point a1, e_TSpec_Point a2] (fun r => r = di .i64 r0) := by
  refine FnD.of (by kernel_rfl) Tryd.func10 rfl Tryd.ntmps10 rfl (leb rfl) fun W ok => ?_
  unfold p_Orient at h0
  refine AC.seq ?_
  refine AC.region ?_
  refine AO.op rfl (AOp.box rfl rfl (ltb rfl) rfl rfl ?_)
  refine AO.op rfl (AOp.box rfl rfl (ltb rfl) rfl rfl ?_)
  refine AO.op rfl (AOp.box rfl rfl (ltb rfl) rfl rfl ?_)
  refine AO.op rfl (AOp.assign rfl rfl (ltb rfl) rfl ?_)
  refine AO.nil ?_
  change AC _ _ _ _
  refine AC.seq ?_
  refine AC.region ?_
  refine AO.op rfl (AOp.loadN rfl rfl (ltb rfl) rfl agg32 size32 rfl (leb rfl) rfl ?_)
  refine AO.op rfl (AOp.loadN rfl rfl (ltb rfl) rfl agg32 size32 rfl (leb rfl) rfl ?_)
  refine AO.op rfl (AOp.loadN rfl rfl (ltb rfl) rfl agg32 size32 rfl (leb rfl) rfl ?_)
  obtain ⟨y1, q2, h0⟩ := bind_elim h0
  refine AO.op rfl (AOp.callD rfl rfl (ltb rfl) rfl rfl (w_Cross F a0 a1 a2 y1 q2) ?_)
  rintro _ rfl
  obtain ⟨y3, q4, h0⟩ := bind_elim h0
  refine AO.op rfl (AOp.callD rfl rfl (ltb rfl) rfl rfl (w_Dyadic_Sign y1 y3 q4) ?_)
  rintro _ rfl
  refine AO.op rfl (AOp.assign rfl rfl (ltb rfl) rfl ?_)
  refine AO.nil ?_
  change AC _ _ _ _
  refine AC.ret ?_
  change RetQ _ _ _ .ret _
  obtain rfl := Option.some.inj h0
  refine retq rfl rfl

set_option maxRecDepth 100000 in
set_option maxHeartbeats 1000000 in
/-- (pub-orthodrome/spec.Dyadic).Cmp -/
theorem w_Dyadic_Cmp (F : Nat) (a0 : TSpec_Dyadic) (a1 : TSpec_Dyadic) (r0 : Int) (h0 : p_Dyadic_Cmp F a0 a1 = some r0) : FnD Tryd.prog 13 [e_TSpec_Dyadic a0, e_TSpec_Dyadic a1] (fun r => r = di .i64 r0) := by
  refine FnD.of (by kernel_rfl) Tryd.func13 rfl Tryd.ntmps13 rfl (leb rfl) fun W ok => ?_
  unfold p_Dyadic_Cmp at h0
  refine AC.seq ?_
  refine AC.region ?_
  refine AO.op rfl (AOp.box rfl rfl (ltb rfl) rfl rfl ?_)
  refine AO.op rfl (AOp.box rfl rfl (ltb rfl) rfl rfl ?_)
  refine AO.op rfl (AOp.assign rfl rfl (ltb rfl) rfl ?_)
  refine AO.nil ?_
  change AC _ _ _ _
  refine AC.seq ?_
  refine AC.region ?_
  refine AO.op rfl (AOp.loadN rfl rfl (ltb rfl) rfl agg30 size30 rfl (leb rfl) rfl ?_)
  refine AO.op rfl (AOp.loadN rfl rfl (ltb rfl) rfl agg30 size30 rfl (leb rfl) rfl ?_)
  obtain ⟨y1, q2, h0⟩ := bind_elim h0
  refine AO.op rfl (AOp.callD rfl rfl (ltb rfl) rfl rfl (w_Dyadic_Sub F a0 a1 y1 q2) ?_)
  rintro _ rfl
  obtain ⟨y3, q4, h0⟩ := bind_elim h0
  refine AO.op rfl (AOp.callD rfl rfl (ltb rfl) rfl rfl (w_Dyadic_Sign y1 y3 q4) ?_)
  rintro _ rfl
  refine AO.op rfl (AOp.assign rfl rfl (ltb rfl) rfl ?_)
  refine AO.nil ?_
  change AC _ _ _ _
  refine AC.ret ?_
  change RetQ _ _ _ .ret _
  obtain rfl := Option.some.inj h0
  refine retq rfl rfl

set_option maxRecDepth 100000 in
set_option maxHeartbeats 1000000 in
/-- pub-orthodrome/spec.Between -/
theorem w_Between (F : Nat) (a0 : TSpec_Dyadic) (a1 : TSpec_Dyadic) (a2 : TSpec_Dyadic) (r0 : Bool) (h0 : p_Between F a0 a1 a2 = some r0) : FnD Tryd.prog 37 [e_TSpec_Dyadic a0, e_TSpec_Dyadic a1, e_TSpec_Dyadic a2] (fun r => r = dbool r0) := by
  refine FnD.of (by kernel_rfl) Tryd.func37 rfl Tryd.ntmps37 rfl (leb rfl) fun W ok => ?_
  unfold p_Between at h0
  refine AC.seq ?_
  refine AC.region ?_
  refine AO.op rfl (AOp.box rfl rfl (ltb rfl) rfl rfl ?_)
  refine AO.op rfl (AOp.box rfl rfl (ltb rfl) rfl rfl ?_)
  refine AO.op rfl (AOp.box rfl rfl (ltb rfl) rfl rfl ?_)
  refine AO.op rfl (AOp.assign rfl rfl (ltb rfl) rfl ?_)
  refine AO.nil ?_
  change AC _ _ _ _
  refine AC.seq ?_
  refine AC.region ?_
  refine AO.op rfl (AOp.loadN rfl rfl (ltb rfl) rfl agg30 size30 rfl (leb rfl) rfl ?_)
  refine AO.op rfl (AOp.loadN rfl rfl (ltb rfl) rfl agg30 size30 rfl (leb rfl) rfl ?_)
  obtain ⟨y1, q2, h0⟩ := bind_elim h0
  refine AO.op rfl (AOp.callD rfl rfl (ltb rfl) rfl rfl (w_Dyadic_Cmp F a0 a2 y1 q2) ?_)
  rintro _ rfl
  refine AO.op rfl (AOp.ileq rfl rfl (ltb rfl) rfl rfl ?_)
  refine AO.op rfl (AOp.move rfl rfl (ltb rfl) rfl ?_)
  refine AO.dec (decide (y1 ≤ (0 : Int))) (fun q3 => ?_) (fun q3 => ?_)
  · replace h0 := cT h0 q3
    refine AO.guardY rfl rfl rfl q3 (AOp.loadN rfl rfl (ltb rfl) rfl agg30 size30 rfl (leb rfl) rfl ?_)
    refine AO.guardY rfl rfl rfl q3 (AOp.loadN rfl rfl (ltb rfl) rfl agg30 size30 rfl (leb rfl) rfl ?_)
    obtain ⟨y4, q5, h0⟩ := bind_elim h0
    refine AO.guardY rfl rfl rfl q3 (AOp.callD rfl rfl (ltb rfl) rfl rfl (w_Dyadic_Cmp F a2 a1 y4 q5) ?_)
    rintro _ rfl
    refine AO.guardY rfl rfl rfl q3 (AOp.ileq rfl rfl (ltb rfl) rfl rfl ?_)
    refine AO.op rfl (AOp.pick rfl rfl (ltb rfl) rfl q3 rfl ?_)
    refine AO.op rfl (AOp.move rfl rfl (ltb rfl) rfl ?_)
    refine AO.dec (decide (y4 ≤ (0 : Int))) (fun q6 => ?_) (fun q6 => ?_)
    · replace h0 := cT h0 q6
      refine AO.guardN rfl rfl rfl (ltb rfl) rfl q6 ?_
      refine AO.guardN rfl rfl rfl (ltb rfl) rfl q6 ?_
      refine AO.guardN rfl rfl rfl (ltb rfl) rfl q6 ?_
      refine AO.guardN rfl rfl rfl (ltb rfl) rfl q6 ?_
      refine AO.guardN rfl rfl rfl (ltb rfl) rfl q6 ?_
      refine AO.guardU rfl rfl rfl (ltb rfl) rfl ?_
      refine AO.guardU rfl rfl rfl (ltb rfl) rfl ?_
      refine AO.guardU rfl rfl rfl (ltb rfl) rfl ?_
      refine AO.guardU rfl rfl rfl (ltb rfl) rfl ?_
      refine AO.guardN rfl rfl rfl (ltb rfl) rfl q6 ?_
      refine AO.op rfl (AOp.pick rfl rfl (ltb rfl) rfl q6 rfl ?_)
      refine AO.op rfl (AOp.assign rfl rfl (ltb rfl) rfl ?_)
      refine AO.nil ?_
      change AC _ _ _ _
      refine AC.ret ?_
      change RetQ _ _ _ .ret _
      obtain rfl := Option.some.inj h0
      refine retq rfl rfl
    · replace h0 := cF h0 q6
      refine AO.guardY rfl rfl rfl q6 (AOp.loadN rfl rfl (ltb rfl) rfl agg30 size30 rfl (leb rfl) rfl ?_)
      refine AO.guardY rfl rfl rfl q6 (AOp.loadN rfl rfl (ltb rfl) rfl agg30 size30 rfl (leb rfl) rfl ?_)
      obtain ⟨y7, q8, h0⟩ := bind_elim h0
      refine AO.guardY rfl rfl rfl q6 (AOp.callD rfl rfl (ltb rfl) rfl rfl (w_Dyadic_Cmp F a1 a2 y7 q8) ?_)
      rintro _ rfl
      refine AO.guardY rfl rfl rfl q6 (AOp.ileq rfl rfl (ltb rfl) rfl rfl ?_)
      refine AO.guardY rfl rfl rfl q6 (AOp.move rfl rfl (ltb rfl) rfl ?_)
      refine AO.dec (decide (y7 ≤ (0 : Int))) (fun q9 => ?_) (fun q9 => ?_)
      · replace h0 := cT h0 q9
        refine AO.guardY rfl rfl rfl q9 (AOp.loadN rfl rfl (ltb rfl) rfl agg30 size30 rfl (leb rfl) rfl ?_)
        refine AO.guardY rfl rfl rfl q9 (AOp.loadN rfl rfl (ltb rfl) rfl agg30 size30 rfl (leb rfl) rfl ?_)
        obtain ⟨y10, q11, h0⟩ := bind_elim h0
        refine AO.guardY rfl rfl rfl q9 (AOp.callD rfl rfl (ltb rfl) rfl rfl (w_Dyadic_Cmp F a2 a0 y10 q11) ?_)
        rintro _ rfl
        refine AO.guardY rfl rfl rfl q9 (AOp.ileq rfl rfl (ltb rfl) rfl rfl ?_)
        refine AO.guardY rfl rfl rfl q6 (AOp.pick rfl rfl (ltb rfl) rfl q9 rfl ?_)
        refine AO.op rfl (AOp.pickN rfl rfl (ltb rfl) rfl q6 rfl ?_)
        refine AO.op rfl (AOp.assign rfl rfl (ltb rfl) rfl ?_)
        refine AO.nil ?_
        change AC _ _ _ _
        refine AC.ret ?_
        change RetQ _ _ _ .ret _
        obtain rfl := Option.some.inj h0
        refine retq rfl rfl
      · replace h0 := cF h0 q9
        refine AO.guardN rfl rfl rfl (ltb rfl) rfl q9 ?_
        refine AO.guardN rfl rfl rfl (ltb rfl) rfl q9 ?_
        refine AO.guardN rfl rfl rfl (ltb rfl) rfl q9 ?_
        refine AO.guardN rfl rfl rfl (ltb rfl) rfl q9 ?_
        refine AO.guardY rfl rfl rfl q6 (AOp.pickN rfl rfl (ltb rfl) rfl q9 rfl ?_)
        refine AO.op rfl (AOp.pickN rfl rfl (ltb rfl) rfl q6 rfl ?_)
        refine AO.op rfl (AOp.assign rfl rfl (ltb rfl) rfl ?_)
        refine AO.nil ?_
        change AC _ _ _ _
        refine AC.ret ?_
        change RetQ _ _ _ .ret _
        obtain rfl := Option.some.inj h0
        refine retq rfl rfl
  · replace h0 := cF h0 q3
    refine AO.guardN rfl rfl rfl (ltb rfl) rfl q3 ?_
    refine AO.guardN rfl rfl rfl (ltb rfl) rfl q3 ?_
    refine AO.guardN rfl rfl rfl (ltb rfl) rfl q3 ?_
    refine AO.guardN rfl rfl rfl (ltb rfl) rfl q3 ?_
    refine AO.op rfl (AOp.pickN rfl rfl (ltb rfl) rfl q3 rfl ?_)
    refine AO.op rfl (AOp.move rfl rfl (ltb rfl) rfl ?_)
    refine AO.guardY rfl rfl rfl rfl (AOp.loadN rfl rfl (ltb rfl) rfl agg30 size30 rfl (leb rfl) rfl ?_)
    refine AO.guardY rfl rfl rfl rfl (AOp.loadN rfl rfl (ltb rfl) rfl agg30 size30 rfl (leb rfl) rfl ?_)
    obtain ⟨y12, q13, h0⟩ := bind_elim h0
    refine AO.guardY rfl rfl rfl rfl (AOp.callD rfl rfl (ltb rfl) rfl rfl (w_Dyadic_Cmp F a1 a2 y12 q13) ?_)
    rintro _ rfl
    refine AO.guardY rfl rfl rfl rfl (AOp.ileq rfl rfl (ltb rfl) rfl rfl ?_)
    refine AO.guardY rfl rfl rfl rfl (AOp.move rfl rfl (ltb rfl) rfl ?_)
    refine AO.dec (decide (y12 ≤ (0 : Int))) (fun q14 => ?_) (fun q14 => ?_)
    · replace h0 := cT h0 q14
      refine AO.guardY rfl rfl rfl q14 (AOp.loadN rfl rfl (ltb rfl) rfl agg30 size30 rfl (leb rfl) rfl ?_)
      refine AO.guardY rfl rfl rfl q14 (AOp.loadN rfl rfl (ltb rfl) rfl agg30 size30 rfl (leb rfl) rfl ?_)
      obtain ⟨y15, q16, h0⟩ := bind_elim h0
      refine AO.guardY rfl rfl rfl q14 (AOp.callD rfl rfl (ltb rfl) rfl rfl (w_Dyadic_Cmp F a2 a0 y15 q16) ?_)
      rintro _ rfl
      refine AO.guardY rfl rfl rfl q14 (AOp.ileq rfl rfl (ltb rfl) rfl rfl ?_)
      refine AO.guardY rfl rfl rfl rfl (AOp.pick rfl rfl (ltb rfl) rfl q14 rfl ?_)
      refine AO.op rfl (AOp.pickN rfl rfl (ltb rfl) rfl rfl rfl ?_)
      refine AO.op rfl (AOp.assign rfl rfl (ltb rfl) rfl ?_)
      refine AO.nil ?_
      change AC _ _ _ _
      refine AC.ret ?_
      change RetQ _ _ _ .ret _
      obtain rfl := Option.some.inj h0
      refine retq rfl rfl
    · replace h0 := cF h0 q14
      refine AO.guardN rfl rfl rfl (ltb rfl) rfl q14 ?_
      refine AO.guardN rfl rfl rfl (ltb rfl) rfl q14 ?_
      refine AO.guardN rfl rfl rfl (ltb rfl) rfl q14 ?_
      refine AO.guardN rfl rfl rfl (ltb rfl) rfl q14 ?_
      refine AO.guardY rfl rfl rfl rfl (AOp.pickN rfl rfl (ltb rfl) rfl q14 rfl ?_)
      refine AO.op rfl (AOp.pickN rfl rfl (ltb rfl) rfl rfl rfl ?_)
      refine AO.op rfl (AOp.assign rfl rfl (ltb rfl) rfl ?_)
      refine AO.nil ?_
      change AC _ _ _ _
      refine AC.ret ?_
      change RetQ _ _ _ .ret _
      obtain rfl := Option.some.inj h0
      refine retq rfl rfl

set_option maxRecDepth 100000 in
set_option maxHeartbeats 1000000 in
/-- pub-orthodrome/spec.OnSegment -/
theorem w_OnSegment (F : Nat) (a0 : TSpec_Point) (a1 : TSpec_Point) (a2 : TSpec_Point) (r0 : Bool) (h0 : p_OnSegment F a0 a1 a2 = some r0) : FnD Tryd.prog 16 [e_TSpec_Point a0, e_TSpec_Point a1, e_TSpec_Point a2] (fun r => r = dbool r0) := by
  refine FnD.of (by kernel_rfl) Tryd.func16 rfl Tryd.ntmps16 rfl (leb rfl) fun W ok => ?_
  unfold p_OnSegment at h0
  refine AC.seq ?_
  refine AC.region ?_
  refine AO.op rfl (AOp.box rfl rfl (ltb rfl) rfl rfl ?_)
  refine AO.op rfl (AOp.box rfl rfl (ltb rfl) rfl rfl ?_)
  refine AO.op rfl (AOp.box rfl rfl (ltb rfl) rfl rfl ?_)
  refine AO.op rfl (AOp.assign rfl rfl (ltb rfl) rfl ?_)
  refine AO.nil ?_
  change AC _ _ _ _
  refine AC.seq ?_
  refine AC.region ?_
  refine AO.op rfl (AOp.loadN rfl rfl (ltb rfl) rfl agg32 size32 rfl (leb rfl) rfl ?_)
  refine AO.op rfl (AOp.loadN rfl rfl (ltb rfl) rfl agg32 size32 rfl (leb rfl) rfl ?_)
  refine AO.op rfl (AOp.loadN rfl rfl (ltb rfl) rfl agg32 size32 rfl (leb rfl) rfl ?_)
  obtain ⟨y1, q2, h0⟩ := bind_elim h0
  refine AO.op rfl (AOp.callD rfl rfl (ltb rfl) rfl rfl (w_Orient F a1 a2 a0 y1 q2) ?_)
  rintro _ rfl
  refine AO.op rfl (AOp.ieql rfl rfl (ltb rfl) rfl rfl ?_)
  refine AO.op rfl (AOp.move rfl rfl (ltb rfl) rfl ?_)
  refine AO.dec (decide (y1 = (0 : Int))) (fun q3 => ?_) (fun q3 => ?_)
  · replace h0 := cT h0 q3
    refine AO.guardY rfl rfl rfl q3 (AOp.fieldAddr rfl rfl (ltb rfl) rfl fo32_0 ?_)
    refine AO.guardY rfl rfl rfl q3 (AOp.loadN rfl rfl (ltb rfl) rfl agg30 size30 rfl (leb rfl) rfl ?_)
    refine AO.guardY rfl rfl rfl q3 (AOp.fieldAddr rfl rfl (ltb rfl) rfl fo32_0 ?_)
    refine AO.guardY rfl rfl rfl q3 (AOp.loadN rfl rfl (ltb rfl) rfl agg30 size30 rfl (leb rfl) rfl ?_)
    refine AO.guardY rfl rfl rfl q3 (AOp.fieldAddr rfl rfl (ltb rfl) rfl fo32_0 ?_)
    refine AO.guardY rfl rfl rfl q3 (AOp.loadN rfl rfl (ltb rfl) rfl agg30 size30 rfl (leb rfl) rfl ?_)
    obtain ⟨y4, q5, h0⟩ := bind_elim h0
    refine AO.guardY rfl rfl rfl q3 (AOp.callD rfl rfl (ltb rfl) rfl rfl (w_Between F a1.X a2.X a0.X y4 q5) ?_)
    rintro _ rfl
    refine AO.op rfl (AOp.pick rfl rfl (ltb rfl) rfl q3 rfl ?_)
    refine AO.op rfl (AOp.move rfl rfl (ltb rfl) rfl ?_)
    refine AO.dec y4 (fun q6 => ?_) (fun q6 => ?_)
    · replace h0 := cT h0 q6
      refine AO.guardY rfl rfl rfl q6 (AOp.fieldAddr rfl rfl (ltb rfl) rfl fo32_1 ?_)
      refine AO.guardY rfl rfl rfl q6 (AOp.loadN rfl rfl (ltb rfl) rfl agg30 size30 rfl (leb rfl) rfl ?_)
      refine AO.guardY rfl rfl rfl q6 (AOp.fieldAddr rfl rfl (ltb rfl) rfl fo32_1 ?_)
      refine AO.guardY rfl rfl rfl q6 (AOp.loadN rfl rfl (ltb rfl) rfl agg30 size30 rfl (leb rfl) rfl ?_)
      refine AO.guardY rfl rfl rfl q6 (AOp.fieldAddr rfl rfl (ltb rfl) rfl fo32_1 ?_)
      refine AO.guardY rfl rfl rfl q6 (AOp.loadN rfl rfl (ltb rfl) rfl agg30 size30 rfl (leb rfl) rfl ?_)
      obtain ⟨y7, q8, h0⟩ := bind_elim h0
      refine AO.guardY rfl rfl rfl q6 (AOp.callD rfl rfl (ltb rfl) rfl rfl (w_Between F a1.Y a2.Y a0.Y y7 q8) ?_)
      rintro _ rfl
      refine AO.op rfl (AOp.pick rfl rfl (ltb rfl) rfl q6 rfl ?_)
      refine AO.op rfl (AOp.assign rfl rfl (ltb rfl) rfl ?_)
      refine AO.nil ?_
      change AC _ _ _ _
      refine AC.ret ?_
      change RetQ _ _ _ .ret _
      obtain rfl := Option.some.inj h0
      refine retq rfl rfl
    · replace h0 := cF h0 q6
      refine AO.guardN rfl rfl rfl (ltb rfl) rfl q6 ?_
      refine AO.guardN rfl rfl rfl (ltb rfl) rfl q6 ?_
      refine AO.guardN rfl rfl rfl (ltb rfl) rfl q6 ?_
      refine AO.guardN rfl rfl rfl (ltb rfl) rfl q6 ?_
      refine AO.guardN rfl rfl rfl (ltb rfl) rfl q6 ?_
      refine AO.guardN rfl rfl rfl (ltb rfl) rfl q6 ?_
      refine AO.guardN rfl rfl rfl (ltb rfl) rfl q6 ?_
      refine AO.op rfl (AOp.pickN rfl rfl (ltb rfl) rfl q6 rfl ?_)
      refine AO.op rfl (AOp.assign rfl rfl (ltb rfl) rfl ?_)
      refine AO.nil ?_
      change AC _ _ _ _
      refine AC.ret ?_
      change RetQ _ _ _ .ret _
      obtain rfl := Option.some.inj h0
      refine retq rfl rfl
  · replace h0 := cF h0 q3
    refine AO.guardN rfl rfl rfl (ltb rfl) rfl q3 ?_
    refine AO.guardN rfl rfl rfl (ltb rfl) rfl q3 ?_
    refine AO.guardN rfl rfl rfl (ltb rfl) rfl q3 ?_
    refine AO.guardN rfl rfl rfl (ltb rfl) rfl q3 ?_
    refine AO.guardN rfl rfl rfl (ltb rfl) rfl q3 ?_
    refine AO.guardN rfl rfl rfl (ltb rfl) rfl q3 ?_
    refine AO.guardN rfl rfl rfl (ltb rfl) rfl q3 ?_
    refine AO.op rfl (AOp.pickN rfl rfl (ltb rfl) rfl q3 rfl ?_)
    refine AO.op rfl (AOp.move rfl rfl (ltb rfl) rfl ?_)
    refine AO.guardN rfl rfl rfl (ltb rfl) rfl rfl ?_
    refine AO.guardN rfl rfl rfl (ltb rfl) rfl rfl ?_
    refine AO.guardN rfl rfl rfl (ltb rfl) rfl rfl ?_
    refine AO.guardN rfl rfl rfl (ltb rfl) rfl rfl ?_
    refine AO.guardN rfl rfl rfl (ltb rfl) rfl rfl ?_
    refine AO.guardN rfl rfl rfl (ltb rfl) rfl rfl ?_
    refine AO.guardN rfl rfl rfl (ltb rfl) rfl rfl ?_
    refine AO.op rfl (AOp.pickN rfl rfl (ltb rfl) rfl rfl rfl ?_)
    refine AO.op rfl (AOp.assign rfl rfl (ltb rfl) rfl ?_)
    refine AO.nil ?_
    change AC _ _ _ _
    refine AC.ret ?_
    change RetQ _ _ _ .ret _
    obtain rfl := Option.some.inj h0
    refine retq rfl rfl

set_option maxRecDepth 100000 in
set_option maxHeartbeats 1000000 in
/-- pub-orthodrome/impl.floats -/
theorem w_floats (a0 : (List Nat)) (r0 : (List Nat)) (h0 : p_floats a0 = some r0) : FnD Tryd.prog 40 [eS0 a0] (fun r => r = eS0 r0) := by
  refine FnD.of (by kernel_rfl) Tryd.func40 rfl Tryd.ntmps40 rfl (leb rfl) fun W ok => ?_
  unfold p_floats at h0
  refine AC.seq ?_
  refine AC.region ?_
  refine AO.op rfl (AOp.assign rfl rfl (ltb rfl) rfl ?_)
  refine AO.nil ?_
  change AC _ _ _ _
  refine AC.seq ?_
  refine AC.region ?_
  refine AO.op rfl (AOp.move rfl rfl (ltb rfl) rfl ?_)
  obtain ⟨q1, h0⟩ := need_elim h0
  refine AO.op rfl (AOp.appendNil (m := a0.length) (news := (List.map keS0 a0)) rfl rfl (ltb rfl) rfl rfl el42 info22 rfl (by decide) (len1 _ _) (one1 _ (fun _ => rfl) _) (small63 q1) (small q1 (by decide)) ?_)
  refine AO.op rfl (AOp.assign rfl rfl (ltb rfl) rfl ?_)
  refine AO.nil ?_
  change AC _ _ _ _
  refine AC.ret ?_
  change RetQ _ _ _ .ret _
  obtain rfl := Option.some.inj h0
  refine retq rfl rfl

set_option maxRecDepth 100000 in
set_option maxHeartbeats 1000000 in
/-- (pub-orthodrome/pub/gogeom.Layout).Stride -/
theorem w_Layout_Stride (a0 : Int) (r0 : Int) (h0 : p_Layout_Stride a0 = some r0) : FnD Tryd.prog 62 [di .i64 a0] (fun r => r = di .i64 r0) := by
  refine FnD.of (by kernel_rfl) Tryd.func62 rfl Tryd.ntmps62 rfl (leb rfl) fun W ok => ?_
  unfold p_Layout_Stride at h0
  refine AC.seq ?_
  refine AC.region ?_
  refine AO.op rfl (AOp.assign rfl rfl (ltb rfl) rfl ?_)
  refine AO.nil ?_
  change AC _ _ _ _
  refine AC.seq ?_
  refine AC.region ?_
  refine AO.op rfl (AOp.move rfl rfl (ltb rfl) rfl ?_)
  refine AO.nil ?_
  change AC _ _ _ _
  refine AC.block ?_
  refine AC.seq ?_
  refine AC.region ?_
  refine AO.op rfl (AOp.ieql rfl rfl (ltb rfl) rfl rfl ?_)
  refine AO.op rfl (AOp.assign rfl rfl (ltb rfl) rfl ?_)
  refine AO.nil ?_
  change AC _ _ _ _
  refine AC.cond rfl (fun q1 => ?_) (fun q1 => ?_)
  · replace h0 := cT h0 q1
    refine AC.seq ?_
    refine AC.region ?_
    refine AO.op rfl (AOp.assign rfl rfl (ltb rfl) rfl ?_)
    refine AO.nil ?_
    change AC _ _ _ _
    refine AC.ret ?_
    change RetQ _ _ _ .ret _
    obtain rfl := Option.some.inj h0
    refine retq rfl rfl
  · replace h0 := cF h0 q1
    refine AC.seq ?_
    refine AC.region ?_
    refine AO.op rfl (AOp.ieql rfl rfl (ltb rfl) rfl rfl ?_)
    refine AO.op rfl (AOp.assign rfl rfl (ltb rfl) rfl ?_)
    refine AO.nil ?_
    change AC _ _ _ _
    refine AC.cond rfl (fun q2 => ?_) (fun q2 => ?_)
    · replace h0 := cT h0 q2
      refine AC.seq ?_
      refine AC.region ?_
      refine AO.op rfl (AOp.assign rfl rfl (ltb rfl) rfl ?_)
      refine AO.nil ?_
      change AC _ _ _ _
      refine AC.ret ?_
      change RetQ _ _ _ .ret _
      obtain rfl := Option.some.inj h0
      refine retq rfl rfl
    · replace h0 := cF h0 q2
      refine AC.seq ?_
      refine AC.region ?_
      refine AO.op rfl (AOp.ieql rfl rfl (ltb rfl) rfl rfl ?_)
      refine AO.op rfl (AOp.assign rfl rfl (ltb rfl) rfl ?_)
      refine AO.nil ?_
      change AC _ _ _ _
      refine AC.cond rfl (fun q3 => ?_) (fun q3 => ?_)
      · replace h0 := cT h0 q3
        refine AC.seq ?_
        refine AC.region ?_
        refine AO.op rfl (AOp.assign rfl rfl (ltb rfl) rfl ?_)
        refine AO.nil ?_
        change AC _ _ _ _
        refine AC.ret ?_
        change RetQ _ _ _ .ret _
        obtain rfl := Option.some.inj h0
        refine retq rfl rfl
      · replace h0 := cF h0 q3
        refine AC.seq ?_
        refine AC.region ?_
        refine AO.op rfl (AOp.ieql rfl rfl (ltb rfl) rfl rfl ?_)
        refine AO.op rfl (AOp.assign rfl rfl (ltb rfl) rfl ?_)
        refine AO.nil ?_
        change AC _ _ _ _
        refine AC.cond rfl (fun q4 => ?_) (fun q4 => ?_)
        · replace h0 := cT h0 q4
          refine AC.seq ?_
          refine AC.region ?_
          refine AO.op rfl (AOp.assign rfl rfl (ltb rfl) rfl ?_)
          refine AO.nil ?_
          change AC _ _ _ _
          refine AC.ret ?_
          change RetQ _ _ _ .ret _
          obtain rfl := Option.some.inj h0
          refine retq rfl rfl
        · replace h0 := cF h0 q4
          refine AC.seq ?_
          refine AC.region ?_
          refine AO.op rfl (AOp.ieql rfl rfl (ltb rfl) rfl rfl ?_)
          refine AO.op rfl (AOp.assign rfl rfl (ltb rfl) rfl ?_)
          refine AO.nil ?_
          change AC _ _ _ _
          refine AC.cond rfl (fun q5 => ?_) (fun q5 => ?_)
          · replace h0 := cT h0 q5
            refine AC.seq ?_
            refine AC.region ?_
            refine AO.op rfl (AOp.assign rfl rfl (ltb rfl) rfl ?_)
            refine AO.nil ?_
            change AC _ _ _ _
            refine AC.ret ?_
            change RetQ _ _ _ .ret _
            obtain rfl := Option.some.inj h0
            refine retq rfl rfl
          · replace h0 := cF h0 q5
            refine AC.seq ?_
            refine AC.region ?_
            refine AO.op rfl (AOp.move rfl rfl (ltb rfl) rfl ?_)
            refine AO.op rfl (AOp.assign rfl rfl (ltb rfl) rfl ?_)
            refine AO.nil ?_
            change AC _ _ _ _
            refine AC.ret ?_
            change RetQ _ _ _ .ret _
            obtain rfl := Option.some.inj h0
            refine retq rfl rfl

set_option maxRecDepth 100000 in
set_option maxHeartbeats 1000000 in
/-- pub-orthodrome/pub/gogeom/xy.doorHull -/
theorem w_doorHull (a0 : Int) (a1 : (List Nat)) (r0 : TXy_convexHullCalculator) (h0 : p_doorHull a0 a1 = some r0) : FnD Tryd.prog 58 [di .i64 a0, eS0 a1] (fun r => r = .pt (c_TXy_convexHullCalculator r0)) := by
  refine FnD.of (by kernel_rfl) Tryd.func58 rfl Tryd.ntmps58 rfl (leb rfl) fun W ok => ?_
  unfold p_doorHull at h0
  refine AC.seq ?_
  refine AC.region ?_
  refine AO.op rfl (AOp.assign rfl rfl (ltb rfl) rfl ?_)
  refine AO.nil ?_
  change AC _ _ _ _
  refine AC.seq ?_
  refine AC.region ?_
  refine AO.op rfl (AOp.move rfl rfl (ltb rfl) rfl ?_)
  refine AO.op rfl (AOp.move rfl rfl (ltb rfl) rfl ?_)
  obtain ⟨y1, q2, h0⟩ := bind_elim h0
  refine AO.op rfl (AOp.callD rfl rfl (ltb rfl) rfl rfl (w_Layout_Stride a0 y1 q2) ?_)
  rintro _ rfl
  refine AO.op rfl (AOp.move rfl rfl (ltb rfl) rfl ?_)
  refine AO.op rfl (AOp.build rfl rfl (ltb rfl) zero101 rfl places101 rfl rfl ?_)
  refine AO.op rfl (AOp.box rfl rfl (ltb rfl) rfl rfl ?_)
  refine AO.op rfl (AOp.assign rfl rfl (ltb rfl) rfl ?_)
  refine AO.nil ?_
  change AC _ _ _ _
  refine AC.ret ?_
  change RetQ _ _ _ .ret _
  obtain rfl := Option.some.inj h0
  refine retq rfl rfl

set_option maxRecDepth 100000 in
set_option maxHeartbeats 1000000 in
/-- pub-orthodrome/pub/gogeom/xy/inner.Equal -/
theorem w_Equal (a0 : (List Nat)) (a1 : Int) (a2 : (List Nat)) (a3 : Int) (r0 : Bool) (h0 : p_Equal a0 a1 a2 a3 = some r0) : FnD Tryd.prog 63 [eS0 a0, di .i64 a1, eS0 a2, di .i64 a3] (fun r => r = dbool r0) := by
  refine FnD.of (by kernel_rfl) Tryd.func63 rfl Tryd.ntmps63 rfl (leb rfl) fun W ok => ?_
  unfold p_Equal at h0
  refine AC.seq ?_
  refine AC.region ?_
  refine AO.op rfl (AOp.assign rfl rfl (ltb rfl) rfl ?_)
  refine AO.nil ?_
  change AC _ _ _ _
  refine AC.seq ?_
  refine AC.seq ?_
  refine AC.draw 9 mixed (by kernel_rfl) ?_
  refine AD.op [0] rfl (by kernel_rfl) rfl rfl (fun _ _ h => AOp.move rfl rfl (ltb rfl) rfl h) ?_
  refine AD.op [1] rfl (by kernel_rfl) rfl rfl (fun _ _ h => AOp.move rfl rfl (ltb rfl) rfl h) ?_
  obtain ⟨x1, q2, h0⟩ := idx_elim h0
  refine AD.op [9, 10] rfl (by kernel_rfl) rfl rfl (fun _ _ h => AOp.indexDs (cells := (List.map keS0 a0)) rfl rfl (ltb rfl) rfl rfl el42 (by decide) q2.1 (lt1 q2.2) h) ?_
  refine AD.op [11] rfl (by kernel_rfl) rfl rfl (fun _ _ h => AOp.loadEp rfl rfl (ltb rfl) rfl agg22 (at1 q2.2) h) ?_
  refine AD.op [2] rfl (by kernel_rfl) rfl rfl (fun _ _ h => AOp.move rfl rfl (ltb rfl) rfl h) ?_
  refine AD.op [3] rfl (by kernel_rfl) rfl rfl (fun _ _ h => AOp.move rfl rfl (ltb rfl) rfl h) ?_
  obtain ⟨x3, q4, h0⟩ := idx_elim h0
  refine AD.op [13, 14] rfl (by kernel_rfl) rfl rfl (fun _ _ h => AOp.indexDs (cells := (List.map keS0 a2)) rfl rfl (ltb rfl) rfl rfl el42 (by decide) q4.1 (lt1 q4.2) h) ?_
  refine AD.op [15] rfl (by kernel_rfl) rfl rfl (fun _ _ h => AOp.loadEp rfl rfl (ltb rfl) rfl agg22 (at1 q4.2) h) ?_
  refine AD.op [12, 16] rfl (by kernel_rfl) rfl rfl (fun _ _ h => AOp.fneq rfl rfl (ltb rfl) rfl rfl h) ?_
  refine AD.done ?_
  refine AO.nil ?_
  change AC _ _ _ _
  refine AC.cond rfl (fun q5 => ?_) (fun q5 => ?_)
  · replace h0 := cT h0 q5
    refine AC.seq ?_
    refine AC.region ?_
    refine AO.op rfl (AOp.assign rfl rfl (ltb rfl) rfl ?_)
    refine AO.nil ?_
    change AC _ _ _ _
    refine AC.ret ?_
    change RetQ _ _ _ .ret _
    obtain rfl := Option.some.inj h0
    refine retq rfl rfl
  · replace h0 := cF h0 q5
    refine AC.skip ?_
    change AC _ _ _ _
    refine AC.seq ?_
    refine AC.seq ?_
    refine AC.draw 11 mixed (by kernel_rfl) ?_
    refine AD.op [0] rfl (by kernel_rfl) rfl rfl (fun _ _ h => AOp.move rfl rfl (ltb rfl) rfl h) ?_
    refine AD.op [1] rfl (by kernel_rfl) rfl rfl (fun _ _ h => AOp.move rfl rfl (ltb rfl) rfl h) ?_
    obtain ⟨q6, h0⟩ := need_elim h0
    refine AD.op [19] rfl (by kernel_rfl) rfl rfl (fun _ _ h => AOp.iadd rfl rfl (ltb rfl) rfl rfl rfl q6.1 q6.2 h) ?_
    obtain ⟨x7, q8, h0⟩ := idx_elim h0
    refine AD.op [18, 20] rfl (by kernel_rfl) rfl rfl (fun _ _ h => AOp.indexDs (cells := (List.map keS0 a0)) rfl rfl (ltb rfl) rfl rfl el42 (by decide) q8.1 (lt1 q8.2) h) ?_
    refine AD.op [21] rfl (by kernel_rfl) rfl rfl (fun _ _ h => AOp.loadEp rfl rfl (ltb rfl) rfl agg22 (at1 q8.2) h) ?_
    refine AD.op [2] rfl (by kernel_rfl) rfl rfl (fun _ _ h => AOp.move rfl rfl (ltb rfl) rfl h) ?_
    refine AD.op [3] rfl (by kernel_rfl) rfl rfl (fun _ _ h => AOp.move rfl rfl (ltb rfl) rfl h) ?_
    obtain ⟨q9, h0⟩ := need_elim h0
    refine AD.op [24] rfl (by kernel_rfl) rfl rfl (fun _ _ h => AOp.iadd rfl rfl (ltb rfl) rfl rfl rfl q9.1 q9.2 h) ?_
    obtain ⟨x10, q11, h0⟩ := idx_elim h0
    refine AD.op [23, 25] rfl (by kernel_rfl) rfl rfl (fun _ _ h => AOp.indexDs (cells := (List.map keS0 a2)) rfl rfl (ltb rfl) rfl rfl el42 (by decide) q11.1 (lt1 q11.2) h) ?_
    refine AD.op [26] rfl (by kernel_rfl) rfl rfl (fun _ _ h => AOp.loadEp rfl rfl (ltb rfl) rfl agg22 (at1 q11.2) h) ?_
    refine AD.op [22, 27] rfl (by kernel_rfl) rfl rfl (fun _ _ h => AOp.fneq rfl rfl (ltb rfl) rfl rfl h) ?_
    refine AD.done ?_
    refine AO.nil ?_
    change AC _ _ _ _
    refine AC.cond rfl (fun q12 => ?_) (fun q12 => ?_)
    · replace h0 := cT h0 q12
      refine AC.seq ?_
      refine AC.region ?_
      refine AO.op rfl (AOp.assign rfl rfl (ltb rfl) rfl ?_)
      refine AO.nil ?_
      change AC _ _ _ _
      refine AC.ret ?_
      change RetQ _ _ _ .ret _
      obtain rfl := Option.some.inj h0
      refine retq rfl rfl
    · replace h0 := cF h0 q12
      refine AC.skip ?_
      change AC _ _ _ _
      refine AC.seq ?_
      refine AC.region ?_
      refine AO.op rfl (AOp.assign rfl rfl (ltb rfl) rfl ?_)
      refine AO.nil ?_
      change AC _ _ _ _
      refine AC.ret ?_
      change RetQ _ _ _ .ret _
      obtain rfl := Option.some.inj h0
      refine retq rfl rfl

set_option maxRecDepth 100000 in
set_option maxHeartbeats 1000000 in
/-- pub-orthodrome/pub/gogeom/bigxy.orientationBasedOnSign -/
theorem w_orientationBasedOnSign (a0 : Nat) (r0 : Int) (h0 : p_orientationBasedOnSign a0 = some r0) : FnD Tryd.prog 69 [dfl a0] (fun r => r = di .i64 r0) := by
  refine FnD.of (by kernel_rfl) Tryd.func69 rfl Tryd.ntmps69 rfl (leb rfl) fun W ok => ?_
  unfold p_orientationBasedOnSign at h0
  refine AC.seq ?_
  refine AC.region ?_
  refine AO.op rfl (AOp.assign rfl rfl (ltb rfl) rfl ?_)
  refine AO.nil ?_
  change AC _ _ _ _
  refine AC.seq ?_
  refine AC.seq ?_
  refine AC.region ?_
  refine AO.op rfl (AOp.move rfl rfl (ltb rfl) rfl ?_)
  refine AO.op rfl (AOp.fgtr rfl rfl (ltb rfl) rfl rfl ?_)
  refine AO.nil ?_
  change AC _ _ _ _
  refine AC.cond rfl (fun q1 => ?_) (fun q1 => ?_)
  · replace h0 := cT h0 q1
    refine AC.seq ?_
    refine AC.region ?_
    refine AO.op rfl (AOp.assign rfl rfl (ltb rfl) rfl ?_)
    refine AO.nil ?_
    change AC _ _ _ _
    refine AC.ret ?_
    change RetQ _ _ _ .ret _
    obtain rfl := Option.some.inj h0
    refine retq rfl rfl
  · replace h0 := cF h0 q1
    refine AC.skip ?_
    change AC _ _ _ _
    refine AC.seq ?_
    refine AC.seq ?_
    refine AC.region ?_
    refine AO.op rfl (AOp.move rfl rfl (ltb rfl) rfl ?_)
    refine AO.op rfl (AOp.flss rfl rfl (ltb rfl) rfl rfl ?_)
    refine AO.nil ?_
    change AC _ _ _ _
    refine AC.cond rfl (fun q2 => ?_) (fun q2 => ?_)
    · replace h0 := cT h0 q2
      refine AC.seq ?_
      refine AC.region ?_
      refine AO.op rfl (AOp.assign rfl rfl (ltb rfl) rfl ?_)
      refine AO.nil ?_
      change AC _ _ _ _
      refine AC.ret ?_
      change RetQ _ _ _ .ret _
      obtain rfl := Option.some.inj h0
      refine retq rfl rfl
    · replace h0 := cF h0 q2
      refine AC.skip ?_
      change AC _ _ _ _
      refine AC.seq ?_
      refine AC.region ?_
      refine AO.op rfl (AOp.assign rfl rfl (ltb rfl) rfl ?_)
      refine AO.nil ?_
      change AC _ _ _ _
      refine AC.ret ?_
      change RetQ _ _ _ .ret _
      obtain rfl := Option.some.inj h0
      refine retq rfl rfl

set_option maxRecDepth 100000 in
set_option maxHeartbeats 1000000 in
/-- pub-orthodrome/pub/gogeom/bigxy.orientationIndexFilter -/
theorem w_orientationIndexFilter (a0 : (List Nat)) (a1 : (List Nat)) (a2 : (List Nat)) (r0 : Int) (h0 : p_orientationIndexFilter a0 a1 a2 = some r0) : FnD Tryd.prog 52 [eS0 a0, eS0 a1, eS0 a2] (fun r => r = di .i64 r0) := by
  refine FnD.of (by kernel_rfl) Tryd.func52 rfl Tryd.ntmps52 rfl (leb rfl) fun W ok => ?_
  unfold p_orientationIndexFilter at h0
  refine AC.seq ?_
  refine AC.region ?_
  refine AO.op rfl (AOp.assign rfl rfl (ltb rfl) rfl ?_)
  refine AO.nil ?_
  change AC _ _ _ _
  refine AC.seq ?_
  refine AC.region ?_
  refine AO.op rfl (AOp.assign rfl rfl (ltb rfl) rfl ?_)
  refine AO.nil ?_
  change AC _ _ _ _
  refine AC.seq ?_
  refine AC.draw 16 mixed (by kernel_rfl) ?_
  refine AD.op [0] rfl (by kernel_rfl) rfl rfl (fun _ _ h => AOp.move rfl rfl (ltb rfl) rfl h) ?_
  obtain ⟨x1, q2, h0⟩ := idx_elim h0
  refine AD.op [12] rfl (by kernel_rfl) rfl rfl (fun _ _ h => AOp.indexDs (cells := (List.map keS0 a0)) rfl rfl (ltb rfl) rfl rfl el65 (by decide) q2.1 (lt1 q2.2) h) ?_
  refine AD.op [13] rfl (by kernel_rfl) rfl rfl (fun _ _ h => AOp.loadEp rfl rfl (ltb rfl) rfl agg22 (at1 q2.2) h) ?_
  refine AD.op [2] rfl (by kernel_rfl) rfl rfl (fun _ _ h => AOp.move rfl rfl (ltb rfl) rfl h) ?_
  obtain ⟨x3, q4, h0⟩ := idx_elim h0
  refine AD.op [15] rfl (by kernel_rfl) rfl rfl (fun _ _ h => AOp.indexDs (cells := (List.map keS0 a2)) rfl rfl (ltb rfl) rfl rfl el65 (by decide) q4.1 (lt1 q4.2) h) ?_
  refine AD.op [16] rfl (by kernel_rfl) rfl rfl (fun _ _ h => AOp.loadEp rfl rfl (ltb rfl) rfl agg22 (at1 q4.2) h) ?_
  obtain ⟨z5, q6, h0⟩ := bind_elim h0
  refine AD.op [14, 17] rfl (by kernel_rfl) rfl rfl (fun _ _ h => AOp.farith rfl rfl (ltb rfl) rfl rfl q6 h) ?_
  refine AD.op [1] rfl (by kernel_rfl) rfl rfl (fun _ _ h => AOp.move rfl rfl (ltb rfl) rfl h) ?_
  obtain ⟨x7, q8, h0⟩ := idx_elim h0
  refine AD.op [19] rfl (by kernel_rfl) rfl rfl (fun _ _ h => AOp.indexDs (cells := (List.map keS0 a1)) rfl rfl (ltb rfl) rfl rfl el65 (by decide) q8.1 (lt1 q8.2) h) ?_
  refine AD.op [20] rfl (by kernel_rfl) rfl rfl (fun _ _ h => AOp.loadEp rfl rfl (ltb rfl) rfl agg22 (at1 q8.2) h) ?_
  refine AD.op [2] rfl (by kernel_rfl) rfl rfl (fun _ _ h => AOp.move rfl rfl (ltb rfl) rfl h) ?_
  obtain ⟨x9, q10, h0⟩ := idx_elim h0
  refine AD.op [22] rfl (by kernel_rfl) rfl rfl (fun _ _ h => AOp.indexDs (cells := (List.map keS0 a2)) rfl rfl (ltb rfl) rfl rfl el65 (by decide) q10.1 (lt1 q10.2) h) ?_
  refine AD.op [23] rfl (by kernel_rfl) rfl rfl (fun _ _ h => AOp.loadEp rfl rfl (ltb rfl) rfl agg22 (at1 q10.2) h) ?_
  obtain ⟨z11, q12, h0⟩ := bind_elim h0
  refine AD.op [21, 24] rfl (by kernel_rfl) rfl rfl (fun _ _ h => AOp.farith rfl rfl (ltb rfl) rfl rfl q12 h) ?_
  obtain ⟨z13, q14, h0⟩ := bind_elim h0
  refine AD.op [18, 25] rfl (by kernel_rfl) rfl rfl (fun _ _ h => AOp.farith rfl rfl (ltb rfl) rfl rfl q14 h) ?_
  refine AD.op [26] rfl (by kernel_rfl) rfl rfl (fun _ _ h => AOp.assign rfl rfl (ltb rfl) rfl h) ?_
  refine AD.done ?_
  refine AO.nil ?_
  change AC _ _ _ _
  refine AC.seq ?_
  refine AC.draw 16 mixed (by kernel_rfl) ?_
  refine AD.op [0] rfl (by kernel_rfl) rfl rfl (fun _ _ h => AOp.move rfl rfl (ltb rfl) rfl h) ?_
  obtain ⟨x15, q16, h0⟩ := idx_elim h0
  refine AD.op [27] rfl (by kernel_rfl) rfl rfl (fun _ _ h => AOp.indexDs (cells := (List.map keS0 a0)) rfl rfl (ltb rfl) rfl rfl el65 (by decide) q16.1 (lt1 q16.2) h) ?_
  refine AD.op [28] rfl (by kernel_rfl) rfl rfl (fun _ _ h => AOp.loadEp rfl rfl (ltb rfl) rfl agg22 (at1 q16.2) h) ?_
  refine AD.op [2] rfl (by kernel_rfl) rfl rfl (fun _ _ h => AOp.move rfl rfl (ltb rfl) rfl h) ?_
  obtain ⟨x17, q18, h0⟩ := idx_elim h0
  refine AD.op [30] rfl (by kernel_rfl) rfl rfl (fun _ _ h => AOp.indexDs (cells := (List.map keS0 a2)) rfl rfl (ltb rfl) rfl rfl el65 (by decide) q18.1 (lt1 q18.2) h) ?_
  refine AD.op [31] rfl (by kernel_rfl) rfl rfl (fun _ _ h => AOp.loadEp rfl rfl (ltb rfl) rfl agg22 (at1 q18.2) h) ?_
  obtain ⟨z19, q20, h0⟩ := bind_elim h0
  refine AD.op [29, 32] rfl (by kernel_rfl) rfl rfl (fun _ _ h => AOp.farith rfl rfl (ltb rfl) rfl rfl q20 h) ?_
  refine AD.op [1] rfl (by kernel_rfl) rfl rfl (fun _ _ h => AOp.move rfl rfl (ltb rfl) rfl h) ?_
  obtain ⟨x21, q22, h0⟩ := idx_elim h0
  refine AD.op [34] rfl (by kernel_rfl) rfl rfl (fun _ _ h => AOp.indexDs (cells := (List.map keS0 a1)) rfl rfl (ltb rfl) rfl rfl el65 (by decide) q22.1 (lt1 q22.2) h) ?_
  refine AD.op [35] rfl (by kernel_rfl) rfl rfl (fun _ _ h => AOp.loadEp rfl rfl (ltb rfl) rfl agg22 (at1 q22.2) h) ?_
  refine AD.op [2] rfl (by kernel_rfl) rfl rfl (fun _ _ h => AOp.move rfl rfl (ltb rfl) rfl h) ?_
  obtain ⟨x23, q24, h0⟩ := idx_elim h0
  refine AD.op [37] rfl (by kernel_rfl) rfl rfl (fun _ _ h => AOp.indexDs (cells := (List.map keS0 a2)) rfl rfl (ltb rfl) rfl rfl el65 (by decide) q24.1 (lt1 q24.2) h) ?_
  refine AD.op [38] rfl (by kernel_rfl) rfl rfl (fun _ _ h => AOp.loadEp rfl rfl (ltb rfl) rfl agg22 (at1 q24.2) h) ?_
  obtain ⟨z25, q26, h0⟩ := bind_elim h0
  refine AD.op [36, 39] rfl (by kernel_rfl) rfl rfl (fun _ _ h => AOp.farith rfl rfl (ltb rfl) rfl rfl q26 h) ?_
  obtain ⟨z27, q28, h0⟩ := bind_elim h0
  refine AD.op [33, 40] rfl (by kernel_rfl) rfl rfl (fun _ _ h => AOp.farith rfl rfl (ltb rfl) rfl rfl q28 h) ?_
  refine AD.op [41] rfl (by kernel_rfl) rfl rfl (fun _ _ h => AOp.assign rfl rfl (ltb rfl) rfl h) ?_
  refine AD.done ?_
  refine AO.nil ?_
  change AC _ _ _ _
  refine AC.seq ?_
  refine AC.region ?_
  refine AO.op rfl (AOp.move rfl rfl (ltb rfl) rfl ?_)
  refine AO.op rfl (AOp.move rfl rfl (ltb rfl) rfl ?_)
  obtain ⟨z29, q30, h0⟩ := bind_elim h0
  refine AO.op rfl (AOp.farith rfl rfl (ltb rfl) rfl rfl q30 ?_)
  refine AO.op rfl (AOp.assign rfl rfl (ltb rfl) rfl ?_)
  refine AO.nil ?_
  change AC _ _ _ _
  refine AC.joinP (V := Nat) [10] [7] 0 (fun g31 => [(7, .d (dfl g31))]) (fun g31 => []) (fun g31 => (p_orientationIndexFilter_k1 z29) g31 = some r0) rfl ?_ ?_
  · refine AC.block ?_
    refine AC.seq ?_
    refine AC.region ?_
    refine AO.op rfl (AOp.move rfl rfl (ltb rfl) rfl ?_)
    refine AO.op rfl (AOp.fgtr rfl rfl (ltb rfl) rfl rfl ?_)
    refine AO.op rfl (AOp.assign rfl rfl (ltb rfl) rfl ?_)
    refine AO.nil ?_
    change AC _ _ _ _
    refine AC.cond rfl (fun q40 => ?_) (fun q40 => ?_)
    · replace h0 := cT h0 q40
      refine AC.seq ?_
      refine AC.seq ?_
      refine AC.region ?_
      refine AO.op rfl (AOp.move rfl rfl (ltb rfl) rfl ?_)
      refine AO.op rfl (AOp.fleq rfl rfl (ltb rfl) rfl rfl ?_)
      refine AO.nil ?_
      change AC _ _ _ _
      refine AC.cond rfl (fun q41 => ?_) (fun q41 => ?_)
      · replace h0 := cT h0 q41
        refine AC.seq ?_
        refine AC.region ?_
        refine AO.op rfl (AOp.move rfl rfl (ltb rfl) rfl ?_)
        obtain ⟨y42, q43, h0⟩ := bind_elim h0
        refine AO.op rfl (AOp.callD rfl rfl (ltb rfl) rfl rfl (w_orientationBasedOnSign z29 y42 q43) ?_)
        rintro _ rfl
        refine AO.op rfl (AOp.assign rfl rfl (ltb rfl) rfl ?_)
        refine AO.nil ?_
        change AC _ _ _ _
        refine AC.ret ?_
        change RetQ _ _ _ .ret _
        obtain rfl := Option.some.inj h0
        refine retq rfl rfl
      · replace h0 := cF h0 q41
        refine AC.skip ?_
        change AC _ _ _ _
        refine AC.region ?_
        refine AO.op rfl (AOp.move rfl rfl (ltb rfl) rfl ?_)
        refine AO.op rfl (AOp.move rfl rfl (ltb rfl) rfl ?_)
        obtain ⟨z44, q45, h0⟩ := bind_elim h0
        refine AO.op rfl (AOp.farith rfl rfl (ltb rfl) rfl rfl q45 ?_)
        refine AO.op rfl (AOp.assign rfl rfl (ltb rfl) rfl ?_)
        refine AO.nil ?_
        exact ⟨z44, _, rfl, (LeL.refl _), rfl, rfl, h0⟩
    · replace h0 := cF h0 q40
      refine AC.seq ?_
      refine AC.region ?_
      refine AO.op rfl (AOp.move rfl rfl (ltb rfl) rfl ?_)
      refine AO.op rfl (AOp.flss rfl rfl (ltb rfl) rfl rfl ?_)
      refine AO.op rfl (AOp.assign rfl rfl (ltb rfl) rfl ?_)
      refine AO.nil ?_
      change AC _ _ _ _
      refine AC.cond rfl (fun q46 => ?_) (fun q46 => ?_)
      · replace h0 := cT h0 q46
        refine AC.seq ?_
        refine AC.seq ?_
        refine AC.region ?_
        refine AO.op rfl (AOp.move rfl rfl (ltb rfl) rfl ?_)
        refine AO.op rfl (AOp.fgeq rfl rfl (ltb rfl) rfl rfl ?_)
        refine AO.nil ?_
        change AC _ _ _ _
        refine AC.cond rfl (fun q47 => ?_) (fun q47 => ?_)
        · replace h0 := cT h0 q47
          refine AC.seq ?_
          refine AC.region ?_
          refine AO.op rfl (AOp.move rfl rfl (ltb rfl) rfl ?_)
          obtain ⟨y48, q49, h0⟩ := bind_elim h0
          refine AO.op rfl (AOp.callD rfl rfl (ltb rfl) rfl rfl (w_orientationBasedOnSign z29 y48 q49) ?_)
          rintro _ rfl
          refine AO.op rfl (AOp.assign rfl rfl (ltb rfl) rfl ?_)
          refine AO.nil ?_
          change AC _ _ _ _
          refine AC.ret ?_
          change RetQ _ _ _ .ret _
          obtain rfl := Option.some.inj h0
          refine retq rfl rfl
        · replace h0 := cF h0 q47
          refine AC.skip ?_
          change AC _ _ _ _
          refine AC.region ?_
          refine AO.op rfl (AOp.move rfl rfl (ltb rfl) rfl ?_)
          refine AO.op rfl (AOp.fneg rfl rfl (ltb rfl) rfl ?_)
          refine AO.op rfl (AOp.move rfl rfl (ltb rfl) rfl ?_)
          obtain ⟨z50, q51, h0⟩ := bind_elim h0
          refine AO.op rfl (AOp.farith rfl rfl (ltb rfl) rfl rfl q51 ?_)
          refine AO.op rfl (AOp.assign rfl rfl (ltb rfl) rfl ?_)
          refine AO.nil ?_
          exact ⟨z50, _, rfl, (LeL.refl _), rfl, rfl, h0⟩
      · replace h0 := cF h0 q46
        refine AC.seq ?_
        refine AC.region ?_
        refine AO.op rfl (AOp.move rfl rfl (ltb rfl) rfl ?_)
        obtain ⟨y52, q53, h0⟩ := bind_elim h0
        refine AO.op rfl (AOp.callD rfl rfl (ltb rfl) rfl rfl (w_orientationBasedOnSign z29 y52 q53) ?_)
        rintro _ rfl
        refine AO.op rfl (AOp.assign rfl rfl (ltb rfl) rfl ?_)
        refine AO.nil ?_
        change AC _ _ _ _
        refine AC.ret ?_
        change RetQ _ _ _ .ret _
        obtain rfl := Option.some.inj h0
        refine retq rfl rfl
  · intro g31 h0
    unfold p_orientationIndexFilter_k1 at h0
    refine AC.seq ?_
    refine AC.region ?_
    refine AO.op rfl (AOp.loadG (v := .float .f64 4382569440205035030) rfl rfl (ltb rfl) rfl agg22 (by simp [Globs]) ?_)
    refine AO.op rfl (AOp.move rfl rfl (ltb rfl) rfl ?_)
    obtain ⟨z32, q33, h0⟩ := bind_elim h0
    refine AO.op rfl (AOp.farith rfl rfl (ltb rfl) rfl rfl q33 ?_)
    refine AO.op rfl (AOp.assign rfl rfl (ltb rfl) rfl ?_)
    refine AO.nil ?_
    change AC _ _ _ _
    refine AC.seq ?_
    refine AC.seq ?_
    refine AC.region ?_
    refine AO.op rfl (AOp.move rfl rfl (ltb rfl) rfl ?_)
    refine AO.op rfl (AOp.move rfl rfl (ltb rfl) rfl ?_)
    refine AO.op rfl (AOp.fgeq rfl rfl (ltb rfl) rfl rfl ?_)
    refine AO.op rfl (AOp.move rfl rfl (ltb rfl) rfl ?_)
    refine AO.dec (fge z29 z32) (fun q34 => ?_) (fun q34 => ?_)
    · replace h0 := cT h0 q34
      refine AO.guardN rfl rfl rfl (ltb rfl) rfl q34 ?_
      refine AO.guardN rfl rfl rfl (ltb rfl) rfl q34 ?_
      refine AO.guardN rfl rfl rfl (ltb rfl) rfl q34 ?_
      refine AO.guardN rfl rfl rfl (ltb rfl) rfl q34 ?_
      refine AO.op rfl (AOp.pick rfl rfl (ltb rfl) rfl q34 rfl ?_)
      refine AO.nil ?_
      change AC _ _ _ _
      refine AC.condT rfl rfl ?_
      refine AC.seq ?_
      refine AC.region ?_
      refine AO.op rfl (AOp.move rfl rfl (ltb rfl) rfl ?_)
      obtain ⟨y35, q36, h0⟩ := bind_elim h0
      refine AO.op rfl (AOp.callD rfl rfl (ltb rfl) rfl rfl (w_orientationBasedOnSign z29 y35 q36) ?_)
      rintro _ rfl
      refine AO.op rfl (AOp.assign rfl rfl (ltb rfl) rfl ?_)
      refine AO.nil ?_
      change AC _ _ _ _
      refine AC.ret ?_
      change RetQ _ _ _ .ret _
      obtain rfl := Option.some.inj h0
      refine retq rfl rfl
    · replace h0 := cF h0 q34
      refine AO.guardY rfl rfl rfl q34 (AOp.move rfl rfl (ltb rfl) rfl ?_)
      refine AO.guardY rfl rfl rfl q34 (AOp.fneg rfl rfl (ltb rfl) rfl ?_)
      refine AO.guardY rfl rfl rfl q34 (AOp.move rfl rfl (ltb rfl) rfl ?_)
      refine AO.guardY rfl rfl rfl q34 (AOp.fgeq rfl rfl (ltb rfl) rfl rfl ?_)
      refine AO.op rfl (AOp.pickN rfl rfl (ltb rfl) rfl q34 rfl ?_)
      refine AO.nil ?_
      change AC _ _ _ _
      refine AC.cond rfl (fun q37 => ?_) (fun q37 => ?_)
      · replace h0 := cT h0 q37
        refine AC.seq ?_
        refine AC.region ?_
        refine AO.op rfl (AOp.move rfl rfl (ltb rfl) rfl ?_)
        obtain ⟨y38, q39, h0⟩ := bind_elim h0
        refine AO.op rfl (AOp.callD rfl rfl (ltb rfl) rfl rfl (w_orientationBasedOnSign z29 y38 q39) ?_)
        rintro _ rfl
        refine AO.op rfl (AOp.assign rfl rfl (ltb rfl) rfl ?_)
        refine AO.nil ?_
        change AC _ _ _ _
        refine AC.ret ?_
        change RetQ _ _ _ .ret _
        obtain rfl := Option.some.inj h0
        refine retq rfl rfl
      · replace h0 := cF h0 q37
        refine AC.skip ?_
        change AC _ _ _ _
        refine AC.seq ?_
        refine AC.region ?_
        refine AO.op rfl (AOp.assign rfl rfl (ltb rfl) rfl ?_)
        refine AO.nil ?_
        change AC _ _ _ _
        refine AC.ret ?_
        change RetQ _ _ _ .ret _
        obtain rfl := Option.some.inj h0
        refine retq rfl rfl

set_option maxRecDepth 100000 in
set_option maxHeartbeats 1000000 in
/-- pub-orthodrome/pub/gogeom/bigxy.OrientationIndex -/
theorem w_OrientationIndex (a0 : (List Nat)) (a1 : (List Nat)) (a2 : (List Nat)) (r0 : Int) (h0 : p_OrientationIndex a0 a1 a2 = some r0) : FnD Tryd.prog 64 [eS0 a0, eS0 a1, eS0 a2] (fun r => r = di .i64 r0) := by
  refine FnD.of (by kernel_rfl) Tryd.func64 rfl Tryd.ntmps64 rfl (leb rfl) fun W ok => ?_
  unfold p_OrientationIndex at h0
  refine AC.seq ?_
  refine AC.region ?_
  refine AO.op rfl (AOp.assign rfl rfl (ltb rfl) rfl ?_)
  refine AO.nil ?_
  change AC _ _ _ _
  refine AC.seq ?_
  refine AC.region ?_
  refine AO.op rfl (AOp.move rfl rfl (ltb rfl) rfl ?_)
  refine AO.op rfl (AOp.move rfl rfl (ltb rfl) rfl ?_)
  refine AO.op rfl (AOp.move rfl rfl (ltb rfl) rfl ?_)
  obtain ⟨y1, q2, h0⟩ := bind_elim h0
  refine AO.op rfl (AOp.callD rfl rfl (ltb rfl) rfl rfl (w_orientationIndexFilter a0 a1 a2 y1 q2) ?_)
  rintro _ rfl
  refine AO.op rfl (AOp.assign rfl rfl (ltb rfl) rfl ?_)
  refine AO.nil ?_
  change AC _ _ _ _
  refine AC.seq ?_
  refine AC.seq ?_
  refine AC.region ?_
  refine AO.op rfl (AOp.move rfl rfl (ltb rfl) rfl ?_)
  refine AO.op rfl (AOp.ileq rfl rfl (ltb rfl) rfl rfl ?_)
  refine AO.nil ?_
  change AC _ _ _ _
  refine AC.cond rfl (fun q3 => ?_) (fun q3 => ?_)
  · replace h0 := cT h0 q3
    refine AC.seq ?_
    refine AC.region ?_
    refine AO.op rfl (AOp.move rfl rfl (ltb rfl) rfl ?_)
    refine AO.op rfl (AOp.assign rfl rfl (ltb rfl) rfl ?_)
    refine AO.nil ?_
    change AC _ _ _ _
    refine AC.ret ?_
    change RetQ _ _ _ .ret _
    obtain rfl := Option.some.inj h0
    refine retq rfl rfl
  · replace h0 := cF h0 q3
    refine AC.skip ?_
    change AC _ _ _ _
    refine AC.seq ?_
    refine AC.draw 8 mixed (by kernel_rfl) ?_
    refine AD.op [1] rfl (by kernel_rfl) rfl rfl (fun _ _ h => AOp.move rfl rfl (ltb rfl) rfl h) ?_
    obtain ⟨x4, q5, h0⟩ := idx_elim h0
    refine AD.op [21] rfl (by kernel_rfl) rfl rfl (fun _ _ h => AOp.indexDs (cells := (List.map keS0 a1)) rfl rfl (ltb rfl) rfl rfl el65 (by decide) q5.1 (lt1 q5.2) h) ?_
    refine AD.op [22] rfl (by kernel_rfl) rfl rfl (fun _ _ h => AOp.loadEp rfl rfl (ltb rfl) rfl agg22 (at1 q5.2) h) ?_
    refine AD.op [0] rfl (by kernel_rfl) rfl rfl (fun _ _ h => AOp.move rfl rfl (ltb rfl) rfl h) ?_
    obtain ⟨x6, q7, h0⟩ := idx_elim h0
    refine AD.op [24] rfl (by kernel_rfl) rfl rfl (fun _ _ h => AOp.indexDs (cells := (List.map keS0 a0)) rfl rfl (ltb rfl) rfl rfl el65 (by decide) q7.1 (lt1 q7.2) h) ?_
    refine AD.op [25] rfl (by kernel_rfl) rfl rfl (fun _ _ h => AOp.loadEp rfl rfl (ltb rfl) rfl agg22 (at1 q7.2) h) ?_
    obtain ⟨z8, q9, h0⟩ := bind_elim h0
    refine AD.op [23, 26] rfl (by kernel_rfl) rfl rfl (fun _ _ h => AOp.farith rfl rfl (ltb rfl) rfl rfl q9 h) ?_
    refine AD.op [27] rfl (by kernel_rfl) rfl rfl (fun _ _ h => AOp.assign rfl rfl (ltb rfl) rfl h) ?_
    refine AD.done ?_
    refine AO.nil ?_
    change AC _ _ _ _
    refine AC.seq ?_
    refine AC.draw 8 mixed (by kernel_rfl) ?_
    refine AD.op [1] rfl (by kernel_rfl) rfl rfl (fun _ _ h => AOp.move rfl rfl (ltb rfl) rfl h) ?_
    obtain ⟨x10, q11, h0⟩ := idx_elim h0
    refine AD.op [28] rfl (by kernel_rfl) rfl rfl (fun _ _ h => AOp.indexDs (cells := (List.map keS0 a1)) rfl rfl (ltb rfl) rfl rfl el65 (by decide) q11.1 (lt1 q11.2) h) ?_
    refine AD.op [29] rfl (by kernel_rfl) rfl rfl (fun _ _ h => AOp.loadEp rfl rfl (ltb rfl) rfl agg22 (at1 q11.2) h) ?_
    refine AD.op [0] rfl (by kernel_rfl) rfl rfl (fun _ _ h => AOp.move rfl rfl (ltb rfl) rfl h) ?_
    obtain ⟨x12, q13, h0⟩ := idx_elim h0
    refine AD.op [31] rfl (by kernel_rfl) rfl rfl (fun _ _ h => AOp.indexDs (cells := (List.map keS0 a0)) rfl rfl (ltb rfl) rfl rfl el65 (by decide) q13.1 (lt1 q13.2) h) ?_
    refine AD.op [32] rfl (by kernel_rfl) rfl rfl (fun _ _ h => AOp.loadEp rfl rfl (ltb rfl) rfl agg22 (at1 q13.2) h) ?_
    obtain ⟨z14, q15, h0⟩ := bind_elim h0
    refine AD.op [30, 33] rfl (by kernel_rfl) rfl rfl (fun _ _ h => AOp.farith rfl rfl (ltb rfl) rfl rfl q15 h) ?_
    refine AD.op [34] rfl (by kernel_rfl) rfl rfl (fun _ _ h => AOp.assign rfl rfl (ltb rfl) rfl h) ?_
    refine AD.done ?_
    refine AO.nil ?_
    change AC _ _ _ _
    refine AC.seq ?_
    refine AC.draw 8 mixed (by kernel_rfl) ?_
    refine AD.op [2] rfl (by kernel_rfl) rfl rfl (fun _ _ h => AOp.move rfl rfl (ltb rfl) rfl h) ?_
    obtain ⟨x16, q17, h0⟩ := idx_elim h0
    refine AD.op [35] rfl (by kernel_rfl) rfl rfl (fun _ _ h => AOp.indexDs (cells := (List.map keS0 a2)) rfl rfl (ltb rfl) rfl rfl el65 (by decide) q17.1 (lt1 q17.2) h) ?_
    refine AD.op [36] rfl (by kernel_rfl) rfl rfl (fun _ _ h => AOp.loadEp rfl rfl (ltb rfl) rfl agg22 (at1 q17.2) h) ?_
    refine AD.op [1] rfl (by kernel_rfl) rfl rfl (fun _ _ h => AOp.move rfl rfl (ltb rfl) rfl h) ?_
    obtain ⟨x18, q19, h0⟩ := idx_elim h0
    refine AD.op [38] rfl (by kernel_rfl) rfl rfl (fun _ _ h => AOp.indexDs (cells := (List.map keS0 a1)) rfl rfl (ltb rfl) rfl rfl el65 (by decide) q19.1 (lt1 q19.2) h) ?_
    refine AD.op [39] rfl (by kernel_rfl) rfl rfl (fun _ _ h => AOp.loadEp rfl rfl (ltb rfl) rfl agg22 (at1 q19.2) h) ?_
    obtain ⟨z20, q21, h0⟩ := bind_elim h0
    refine AD.op [37, 40] rfl (by kernel_rfl) rfl rfl (fun _ _ h => AOp.farith rfl rfl (ltb rfl) rfl rfl q21 h) ?_
    refine AD.op [41] rfl (by kernel_rfl) rfl rfl (fun _ _ h => AOp.assign rfl rfl (ltb rfl) rfl h) ?_
    refine AD.done ?_
    refine AO.nil ?_
    change AC _ _ _ _
    refine AC.seq ?_
    refine AC.draw 8 mixed (by kernel_rfl) ?_
    refine AD.op [2] rfl (by kernel_rfl) rfl rfl (fun _ _ h => AOp.move rfl rfl (ltb rfl) rfl h) ?_
    obtain ⟨x22, q23, h0⟩ := idx_elim h0
    refine AD.op [42] rfl (by kernel_rfl) rfl rfl (fun _ _ h => AOp.indexDs (cells := (List.map keS0 a2)) rfl rfl (ltb rfl) rfl rfl el65 (by decide) q23.1 (lt1 q23.2) h) ?_
    refine AD.op [43] rfl (by kernel_rfl) rfl rfl (fun _ _ h => AOp.loadEp rfl rfl (ltb rfl) rfl agg22 (at1 q23.2) h) ?_
    refine AD.op [1] rfl (by kernel_rfl) rfl rfl (fun _ _ h => AOp.move rfl rfl (ltb rfl) rfl h) ?_
    obtain ⟨x24, q25, h0⟩ := idx_elim h0
    refine AD.op [45] rfl (by kernel_rfl) rfl rfl (fun _ _ h => AOp.indexDs (cells := (List.map keS0 a1)) rfl rfl (ltb rfl) rfl rfl el65 (by decide) q25.1 (lt1 q25.2) h) ?_
    refine AD.op [46] rfl (by kernel_rfl) rfl rfl (fun _ _ h => AOp.loadEp rfl rfl (ltb rfl) rfl agg22 (at1 q25.2) h) ?_
    obtain ⟨z26, q27, h0⟩ := bind_elim h0
    refine AD.op [44, 47] rfl (by kernel_rfl) rfl rfl (fun _ _ h => AOp.farith rfl rfl (ltb rfl) rfl rfl q27 h) ?_
    refine AD.op [48] rfl (by kernel_rfl) rfl rfl (fun _ _ h => AOp.assign rfl rfl (ltb rfl) rfl h) ?_
    refine AD.done ?_
    refine AO.nil ?_
    change AC _ _ _ _
    refine AC.seq ?_
    refine AC.region ?_
    refine AO.op rfl (AOp.move rfl rfl (ltb rfl) rfl ?_)
    refine AO.op rfl (AOp.move rfl rfl (ltb rfl) rfl ?_)
    obtain ⟨z28, q29, h0⟩ := bind_elim h0
    refine AO.op rfl (AOp.farith rfl rfl (ltb rfl) rfl rfl q29 ?_)
    refine AO.op rfl (AOp.assign rfl rfl (ltb rfl) rfl ?_)
    refine AO.nil ?_
    change AC _ _ _ _
    refine AC.seq ?_
    refine AC.region ?_
    refine AO.op rfl (AOp.move rfl rfl (ltb rfl) rfl ?_)
    refine AO.op rfl (AOp.move rfl rfl (ltb rfl) rfl ?_)
    obtain ⟨z30, q31, h0⟩ := bind_elim h0
    refine AO.op rfl (AOp.farith rfl rfl (ltb rfl) rfl rfl q31 ?_)
    refine AO.op rfl (AOp.assign rfl rfl (ltb rfl) rfl ?_)
    refine AO.nil ?_
    change AC _ _ _ _
    refine AC.seq ?_
    refine AC.region ?_
    refine AO.op rfl (AOp.move rfl rfl (ltb rfl) rfl ?_)
    refine AO.op rfl (AOp.move rfl rfl (ltb rfl) rfl ?_)
    obtain ⟨z32, q33, h0⟩ := bind_elim h0
    refine AO.op rfl (AOp.farith rfl rfl (ltb rfl) rfl rfl q33 ?_)
    obtain ⟨y34, q35, h0⟩ := bind_elim h0
    refine AO.op rfl (AOp.callD rfl rfl (ltb rfl) rfl rfl (w_orientationBasedOnSign z32 y34 q35) ?_)
    rintro _ rfl
    refine AO.op rfl (AOp.assign rfl rfl (ltb rfl) rfl ?_)
    refine AO.nil ?_
    change AC _ _ _ _
    refine AC.ret ?_
    change RetQ _ _ _ .ret _
    obtain rfl := Option.some.inj h0
    refine retq rfl rfl

set_option maxRecDepth 100000 in
set_option maxHeartbeats 1000000 in
/-- (*pub-orthodrome/pub/gogeom/xy.convexHullCalculator).isBetween -/
theorem w_convexHullCalculator_isBetween (a0 : TXy_convexHullCalculator) (a1 : (List Nat)) (a2 : (List Nat)) (a3 : (List Nat)) (r0 : Bool) (h0 : p_convexHullCalculator_isBetween a0 a1 a2 a3 = some r0) : FnD Tryd.prog 59 [.pt (c_TXy_convexHullCalculator a0), eS0 a1, eS0 a2, eS0 a3] (fun r => r = dbool r0) := by
  refine FnD.of (by kernel_rfl) Tryd.func59 rfl Tryd.ntmps59 rfl (leb rfl) fun W ok => ?_
  unfold p_convexHullCalculator_isBetween at h0
  refine AC.seq ?_
  refine AC.region ?_
  refine AO.op rfl (AOp.assign rfl rfl (ltb rfl) rfl ?_)
  refine AO.nil ?_
  change AC _ _ _ _
  refine AC.seq ?_
  refine AC.seq ?_
  refine AC.region ?_
  refine AO.op rfl (AOp.move rfl rfl (ltb rfl) rfl ?_)
  refine AO.op rfl (AOp.move rfl rfl (ltb rfl) rfl ?_)
  refine AO.op rfl (AOp.move rfl rfl (ltb rfl) rfl ?_)
  obtain ⟨y1, q2, h0⟩ := bind_elim h0
  refine AO.op rfl (AOp.callD rfl rfl (ltb rfl) rfl rfl (w_OrientationIndex a1 a2 a3 y1 q2) ?_)
  rintro _ rfl
  refine AO.op rfl (AOp.ineq rfl rfl (ltb rfl) rfl rfl ?_)
  refine AO.nil ?_
  change AC _ _ _ _
  refine AC.cond rfl (fun q3 => ?_) (fun q3 => ?_)
  · replace h0 := cT h0 q3
    refine AC.seq ?_
    refine AC.region ?_
    refine AO.op rfl (AOp.assign rfl rfl (ltb rfl) rfl ?_)
    refine AO.nil ?_
    change AC _ _ _ _
    refine AC.ret ?_
    change RetQ _ _ _ .ret _
    obtain rfl := Option.some.inj h0
    refine retq rfl rfl
  · replace h0 := cF h0 q3
    refine AC.skip ?_
    change AC _ _ _ _
    refine AC.joinP (V := Unit) [1, 2, 3] [] 0 (fun g4 => []) (fun g4 => []) (fun g4 => (p_convexHullCalculator_isBetween_k1 a1 a2 a3) g4 = some r0) rfl ?_ ?_
    · refine AC.seq ?_
      refine AC.draw 7 mixed (by kernel_rfl) ?_
      refine AD.op [1] rfl (by kernel_rfl) rfl rfl (fun _ _ h => AOp.move rfl rfl (ltb rfl) rfl h) ?_
      obtain ⟨x31, q32, h0⟩ := idx_elim h0
      refine AD.op [14] rfl (by kernel_rfl) rfl rfl (fun _ _ h => AOp.indexDs (cells := (List.map keS0 a1)) rfl rfl (ltb rfl) rfl rfl el42 (by decide) q32.1 (lt1 q32.2) h) ?_
      refine AD.op [15] rfl (by kernel_rfl) rfl rfl (fun _ _ h => AOp.loadEp rfl rfl (ltb rfl) rfl agg22 (at1 q32.2) h) ?_
      refine AD.op [3] rfl (by kernel_rfl) rfl rfl (fun _ _ h => AOp.move rfl rfl (ltb rfl) rfl h) ?_
      obtain ⟨x33, q34, h0⟩ := idx_elim h0
      refine AD.op [17] rfl (by kernel_rfl) rfl rfl (fun _ _ h => AOp.indexDs (cells := (List.map keS0 a3)) rfl rfl (ltb rfl) rfl rfl el42 (by decide) q34.1 (lt1 q34.2) h) ?_
      refine AD.op [18] rfl (by kernel_rfl) rfl rfl (fun _ _ h => AOp.loadEp rfl rfl (ltb rfl) rfl agg22 (at1 q34.2) h) ?_
      refine AD.op [16, 19] rfl (by kernel_rfl) rfl rfl (fun _ _ h => AOp.fneq rfl rfl (ltb rfl) rfl rfl h) ?_
      refine AD.done ?_
      refine AO.nil ?_
      change AC _ _ _ _
      refine AC.cond rfl (fun q35 => ?_) (fun q35 => ?_)
      · replace h0 := cT h0 q35
        refine AC.joinP (V := Unit) [1, 2, 3] [] 0 (fun g36 => []) (fun g36 => []) (fun g36 => (p_convexHullCalculator_isBetween_k3 a1 a2 a3) g36 = some r0) rfl ?_ ?_
        · refine AC.seq ?_
          refine AC.draw 16 mixed (by kernel_rfl) ?_
          refine AD.op [1] rfl (by kernel_rfl) rfl rfl (fun _ _ h => AOp.move rfl rfl (ltb rfl) rfl h) ?_
          obtain ⟨x47, q48, h0⟩ := idx_elim h0
          refine AD.op [21] rfl (by kernel_rfl) rfl rfl (fun _ _ h => AOp.indexDs (cells := (List.map keS0 a1)) rfl rfl (ltb rfl) rfl rfl el42 (by decide) q48.1 (lt1 q48.2) h) ?_
          refine AD.op [22] rfl (by kernel_rfl) rfl rfl (fun _ _ h => AOp.loadEp rfl rfl (ltb rfl) rfl agg22 (at1 q48.2) h) ?_
          refine AD.op [2] rfl (by kernel_rfl) rfl rfl (fun _ _ h => AOp.move rfl rfl (ltb rfl) rfl h) ?_
          obtain ⟨x49, q50, h0⟩ := idx_elim h0
          refine AD.op [24] rfl (by kernel_rfl) rfl rfl (fun _ _ h => AOp.indexDs (cells := (List.map keS0 a2)) rfl rfl (ltb rfl) rfl rfl el42 (by decide) q50.1 (lt1 q50.2) h) ?_
          refine AD.op [25] rfl (by kernel_rfl) rfl rfl (fun _ _ h => AOp.loadEp rfl rfl (ltb rfl) rfl agg22 (at1 q50.2) h) ?_
          refine AD.op [23, 26] rfl (by kernel_rfl) rfl rfl (fun _ _ h => AOp.fleq rfl rfl (ltb rfl) rfl rfl h) ?_
          refine AD.op [27] rfl (by kernel_rfl) rfl rfl (fun _ _ h => AOp.move rfl rfl (ltb rfl) rfl h) ?_
          refine AD.dec (fle x47 x49) (fun q51 => ?_) (fun q51 => ?_)
          · replace h0 := cT h0 q51
            refine AD.opY [2, 28] rfl rfl rfl q51 (by kernel_rfl) rfl rfl (fun _ _ h => AOp.move rfl rfl (ltb rfl) rfl h) ?_
            obtain ⟨x52, q53, h0⟩ := idx_elim h0
            refine AD.opY [28, 29] rfl rfl rfl q51 (by kernel_rfl) rfl rfl (fun _ _ h => AOp.indexDs (cells := (List.map keS0 a2)) rfl rfl (ltb rfl) rfl rfl el42 (by decide) q53.1 (lt1 q53.2) h) ?_
            refine AD.opY [28, 30] rfl rfl rfl q51 (by kernel_rfl) rfl rfl (fun _ _ h => AOp.loadEp rfl rfl (ltb rfl) rfl agg22 (at1 q53.2) h) ?_
            refine AD.opY [3, 28] rfl rfl rfl q51 (by kernel_rfl) rfl rfl (fun _ _ h => AOp.move rfl rfl (ltb rfl) rfl h) ?_
            obtain ⟨x54, q55, h0⟩ := idx_elim h0
            refine AD.opY [28, 32] rfl rfl rfl q51 (by kernel_rfl) rfl rfl (fun _ _ h => AOp.indexDs (cells := (List.map keS0 a3)) rfl rfl (ltb rfl) rfl rfl el42 (by decide) q55.1 (lt1 q55.2) h) ?_
            refine AD.opY [28, 33] rfl rfl rfl q51 (by kernel_rfl) rfl rfl (fun _ _ h => AOp.loadEp rfl rfl (ltb rfl) rfl agg22 (at1 q55.2) h) ?_
            refine AD.opY [28, 31, 34] rfl rfl rfl q51 (by kernel_rfl) rfl rfl (fun _ _ h => AOp.fleq rfl rfl (ltb rfl) rfl rfl h) ?_
            refine AD.op [28, 35] rfl (by kernel_rfl) rfl rfl (fun _ _ h => AOp.pick rfl rfl (ltb rfl) rfl q51 rfl h) ?_
            refine AD.done ?_
            refine AO.nil ?_
            change AC _ _ _ _
            refine AC.cond rfl (fun q56 => ?_) (fun q56 => ?_)
            · replace h0 := cT h0 q56
              refine AC.seq ?_
              refine AC.region ?_
              refine AO.op rfl (AOp.assign rfl rfl (ltb rfl) rfl ?_)
              refine AO.nil ?_
              change AC _ _ _ _
              refine AC.ret ?_
              change RetQ _ _ _ .ret _
              obtain rfl := Option.some.inj h0
              refine retq rfl rfl
            · replace h0 := cF h0 q56
              refine AC.skip ?_
              exact ⟨(), _, rfl, (LeL.refl _), rfl, rfl, h0⟩
          · replace h0 := cF h0 q51
            refine AD.opN rfl rfl rfl (ltb rfl) rfl q51 ?_
            refine AD.opN rfl rfl rfl (ltb rfl) rfl q51 ?_
            refine AD.opN rfl rfl rfl (ltb rfl) rfl q51 ?_
            refine AD.opN rfl rfl rfl (ltb rfl) rfl q51 ?_
            refine AD.opN rfl rfl rfl (ltb rfl) rfl q51 ?_
            refine AD.opN rfl rfl rfl (ltb rfl) rfl q51 ?_
            refine AD.opN rfl rfl rfl (ltb rfl) rfl q51 ?_
            refine AD.op [28, 35] rfl (by kernel_rfl) rfl rfl (fun _ _ h => AOp.pickN rfl rfl (ltb rfl) rfl q51 rfl h) ?_
            refine AD.done ?_
            refine AO.nil ?_
            change AC _ _ _ _
            refine AC.condF rfl rfl ?_
            refine AC.skip ?_
            exact ⟨(), _, rfl, (LeL.refl _), rfl, rfl, h0⟩
        · intro g36 h0
          unfold p_convexHullCalculator_isBetween_k3 at h0
          refine AC.seq ?_
          refine AC.draw 16 mixed (by kernel_rfl) ?_
          refine AD.op [3] rfl (by kernel_rfl) rfl rfl (fun _ _ h => AOp.move rfl rfl (ltb rfl) rfl h) ?_
          obtain ⟨x37, q38, h0⟩ := idx_elim h0
          refine AD.op [37] rfl (by kernel_rfl) rfl rfl (fun _ _ h => AOp.indexDs (cells := (List.map keS0 a3)) rfl rfl (ltb rfl) rfl rfl el42 (by decide) q38.1 (lt1 q38.2) h) ?_
          refine AD.op [38] rfl (by kernel_rfl) rfl rfl (fun _ _ h => AOp.loadEp rfl rfl (ltb rfl) rfl agg22 (at1 q38.2) h) ?_
          refine AD.op [2] rfl (by kernel_rfl) rfl rfl (fun _ _ h => AOp.move rfl rfl (ltb rfl) rfl h) ?_
          obtain ⟨x39, q40, h0⟩ := idx_elim h0
          refine AD.op [40] rfl (by kernel_rfl) rfl rfl (fun _ _ h => AOp.indexDs (cells := (List.map keS0 a2)) rfl rfl (ltb rfl) rfl rfl el42 (by decide) q40.1 (lt1 q40.2) h) ?_
          refine AD.op [41] rfl (by kernel_rfl) rfl rfl (fun _ _ h => AOp.loadEp rfl rfl (ltb rfl) rfl agg22 (at1 q40.2) h) ?_
          refine AD.op [39, 42] rfl (by kernel_rfl) rfl rfl (fun _ _ h => AOp.fleq rfl rfl (ltb rfl) rfl rfl h) ?_
          refine AD.op [43] rfl (by kernel_rfl) rfl rfl (fun _ _ h => AOp.move rfl rfl (ltb rfl) rfl h) ?_
          refine AD.dec (fle x37 x39) (fun q41 => ?_) (fun q41 => ?_)
          · replace h0 := cT h0 q41
            refine AD.opY [2, 44] rfl rfl rfl q41 (by kernel_rfl) rfl rfl (fun _ _ h => AOp.move rfl rfl (ltb rfl) rfl h) ?_
            obtain ⟨x42, q43, h0⟩ := idx_elim h0
            refine AD.opY [44, 45] rfl rfl rfl q41 (by kernel_rfl) rfl rfl (fun _ _ h => AOp.indexDs (cells := (List.map keS0 a2)) rfl rfl (ltb rfl) rfl rfl el42 (by decide) q43.1 (lt1 q43.2) h) ?_
            refine AD.opY [44, 46] rfl rfl rfl q41 (by kernel_rfl) rfl rfl (fun _ _ h => AOp.loadEp rfl rfl (ltb rfl) rfl agg22 (at1 q43.2) h) ?_
            refine AD.opY [1, 44] rfl rfl rfl q41 (by kernel_rfl) rfl rfl (fun _ _ h => AOp.move rfl rfl (ltb rfl) rfl h) ?_
            obtain ⟨x44, q45, h0⟩ := idx_elim h0
            refine AD.opY [44, 48] rfl rfl rfl q41 (by kernel_rfl) rfl rfl (fun _ _ h => AOp.indexDs (cells := (List.map keS0 a1)) rfl rfl (ltb rfl) rfl rfl el42 (by decide) q45.1 (lt1 q45.2) h) ?_
            refine AD.opY [44, 49] rfl rfl rfl q41 (by kernel_rfl) rfl rfl (fun _ _ h => AOp.loadEp rfl rfl (ltb rfl) rfl agg22 (at1 q45.2) h) ?_
            refine AD.opY [44, 47, 50] rfl rfl rfl q41 (by kernel_rfl) rfl rfl (fun _ _ h => AOp.fleq rfl rfl (ltb rfl) rfl rfl h) ?_
            refine AD.op [44, 51] rfl (by kernel_rfl) rfl rfl (fun _ _ h => AOp.pick rfl rfl (ltb rfl) rfl q41 rfl h) ?_
            refine AD.done ?_
            refine AO.nil ?_
            change AC _ _ _ _
            refine AC.cond rfl (fun q46 => ?_) (fun q46 => ?_)
            · replace h0 := cT h0 q46
              refine AC.seq ?_
              refine AC.region ?_
              refine AO.op rfl (AOp.assign rfl rfl (ltb rfl) rfl ?_)
              refine AO.nil ?_
              change AC _ _ _ _
              refine AC.ret ?_
              change RetQ _ _ _ .ret _
              obtain rfl := Option.some.inj h0
              refine retq rfl rfl
            · replace h0 := cF h0 q46
              refine AC.skip ?_
              exact ⟨(), _, rfl, (LeL.refl _), rfl, rfl, h0⟩
          · replace h0 := cF h0 q41
            refine AD.opN rfl rfl rfl (ltb rfl) rfl q41 ?_
            refine AD.opN rfl rfl rfl (ltb rfl) rfl q41 ?_
            refine AD.opN rfl rfl rfl (ltb rfl) rfl q41 ?_
            refine AD.opN rfl rfl rfl (ltb rfl) rfl q41 ?_
            refine AD.opN rfl rfl rfl (ltb rfl) rfl q41 ?_
            refine AD.opN rfl rfl rfl (ltb rfl) rfl q41 ?_
            refine AD.opN rfl rfl rfl (ltb rfl) rfl q41 ?_
            refine AD.op [44, 51] rfl (by kernel_rfl) rfl rfl (fun _ _ h => AOp.pickN rfl rfl (ltb rfl) rfl q41 rfl h) ?_
            refine AD.done ?_
            refine AO.nil ?_
            change AC _ _ _ _
            refine AC.condF rfl rfl ?_
            refine AC.skip ?_
            exact ⟨(), _, rfl, (LeL.refl _), rfl, rfl, h0⟩
      · replace h0 := cF h0 q35
        refine AC.skip ?_
        exact ⟨(), _, rfl, (LeL.refl _), rfl, rfl, h0⟩
    · intro g4 h0
      unfold p_convexHullCalculator_isBetween_k1 at h0
      refine AC.seq ?_
      refine AC.seq ?_
      refine AC.draw 7 mixed (by kernel_rfl) ?_
      refine AD.op [1] rfl (by kernel_rfl) rfl rfl (fun _ _ h => AOp.move rfl rfl (ltb rfl) rfl h) ?_
      obtain ⟨x5, q6, h0⟩ := idx_elim h0
      refine AD.op [53] rfl (by kernel_rfl) rfl rfl (fun _ _ h => AOp.indexDs (cells := (List.map keS0 a1)) rfl rfl (ltb rfl) rfl rfl el42 (by decide) q6.1 (lt1 q6.2) h) ?_
      refine AD.op [54] rfl (by kernel_rfl) rfl rfl (fun _ _ h => AOp.loadEp rfl rfl (ltb rfl) rfl agg22 (at1 q6.2) h) ?_
      refine AD.op [3] rfl (by kernel_rfl) rfl rfl (fun _ _ h => AOp.move rfl rfl (ltb rfl) rfl h) ?_
      obtain ⟨x7, q8, h0⟩ := idx_elim h0
      refine AD.op [56] rfl (by kernel_rfl) rfl rfl (fun _ _ h => AOp.indexDs (cells := (List.map keS0 a3)) rfl rfl (ltb rfl) rfl rfl el42 (by decide) q8.1 (lt1 q8.2) h) ?_
      refine AD.op [57] rfl (by kernel_rfl) rfl rfl (fun _ _ h => AOp.loadEp rfl rfl (ltb rfl) rfl agg22 (at1 q8.2) h) ?_
      refine AD.op [55, 58] rfl (by kernel_rfl) rfl rfl (fun _ _ h => AOp.fneq rfl rfl (ltb rfl) rfl rfl h) ?_
      refine AD.done ?_
      refine AO.nil ?_
      change AC _ _ _ _
      refine AC.cond rfl (fun q9 => ?_) (fun q9 => ?_)
      · replace h0 := cT h0 q9
        refine AC.joinP (V := Unit) [1, 2, 3] [] 0 (fun g10 => []) (fun g10 => []) (fun g10 => (p_convexHullCalculator_isBetween_k2 a1 a2 a3) g10 = some r0) rfl ?_ ?_
        · refine AC.seq ?_
          refine AC.draw 16 mixed (by kernel_rfl) ?_
          refine AD.op [1] rfl (by kernel_rfl) rfl rfl (fun _ _ h => AOp.move rfl rfl (ltb rfl) rfl h) ?_
          obtain ⟨x21, q22, h0⟩ := idx_elim h0
          refine AD.op [60] rfl (by kernel_rfl) rfl rfl (fun _ _ h => AOp.indexDs (cells := (List.map keS0 a1)) rfl rfl (ltb rfl) rfl rfl el42 (by decide) q22.1 (lt1 q22.2) h) ?_
          refine AD.op [61] rfl (by kernel_rfl) rfl rfl (fun _ _ h => AOp.loadEp rfl rfl (ltb rfl) rfl agg22 (at1 q22.2) h) ?_
          refine AD.op [2] rfl (by kernel_rfl) rfl rfl (fun _ _ h => AOp.move rfl rfl (ltb rfl) rfl h) ?_
          obtain ⟨x23, q24, h0⟩ := idx_elim h0
          refine AD.op [63] rfl (by kernel_rfl) rfl rfl (fun _ _ h => AOp.indexDs (cells := (List.map keS0 a2)) rfl rfl (ltb rfl) rfl rfl el42 (by decide) q24.1 (lt1 q24.2) h) ?_
          refine AD.op [64] rfl (by kernel_rfl) rfl rfl (fun _ _ h => AOp.loadEp rfl rfl (ltb rfl) rfl agg22 (at1 q24.2) h) ?_
          refine AD.op [62, 65] rfl (by kernel_rfl) rfl rfl (fun _ _ h => AOp.fleq rfl rfl (ltb rfl) rfl rfl h) ?_
          refine AD.op [66] rfl (by kernel_rfl) rfl rfl (fun _ _ h => AOp.move rfl rfl (ltb rfl) rfl h) ?_
          refine AD.dec (fle x21 x23) (fun q25 => ?_) (fun q25 => ?_)
          · replace h0 := cT h0 q25
            refine AD.opY [2, 67] rfl rfl rfl q25 (by kernel_rfl) rfl rfl (fun _ _ h => AOp.move rfl rfl (ltb rfl) rfl h) ?_
            obtain ⟨x26, q27, h0⟩ := idx_elim h0
            refine AD.opY [67, 68] rfl rfl rfl q25 (by kernel_rfl) rfl rfl (fun _ _ h => AOp.indexDs (cells := (List.map keS0 a2)) rfl rfl (ltb rfl) rfl rfl el42 (by decide) q27.1 (lt1 q27.2) h) ?_
            refine AD.opY [67, 69] rfl rfl rfl q25 (by kernel_rfl) rfl rfl (fun _ _ h => AOp.loadEp rfl rfl (ltb rfl) rfl agg22 (at1 q27.2) h) ?_
            refine AD.opY [3, 67] rfl rfl rfl q25 (by kernel_rfl) rfl rfl (fun _ _ h => AOp.move rfl rfl (ltb rfl) rfl h) ?_
            obtain ⟨x28, q29, h0⟩ := idx_elim h0
            refine AD.opY [67, 71] rfl rfl rfl q25 (by kernel_rfl) rfl rfl (fun _ _ h => AOp.indexDs (cells := (List.map keS0 a3)) rfl rfl (ltb rfl) rfl rfl el42 (by decide) q29.1 (lt1 q29.2) h) ?_
            refine AD.opY [67, 72] rfl rfl rfl q25 (by kernel_rfl) rfl rfl (fun _ _ h => AOp.loadEp rfl rfl (ltb rfl) rfl agg22 (at1 q29.2) h) ?_
            refine AD.opY [67, 70, 73] rfl rfl rfl q25 (by kernel_rfl) rfl rfl (fun _ _ h => AOp.fleq rfl rfl (ltb rfl) rfl rfl h) ?_
            refine AD.op [67, 74] rfl (by kernel_rfl) rfl rfl (fun _ _ h => AOp.pick rfl rfl (ltb rfl) rfl q25 rfl h) ?_
            refine AD.done ?_
            refine AO.nil ?_
            change AC _ _ _ _
            refine AC.cond rfl (fun q30 => ?_) (fun q30 => ?_)
            · replace h0 := cT h0 q30
              refine AC.seq ?_
              refine AC.region ?_
              refine AO.op rfl (AOp.assign rfl rfl (ltb rfl) rfl ?_)
              refine AO.nil ?_
              change AC _ _ _ _
              refine AC.ret ?_
              change RetQ _ _ _ .ret _
              obtain rfl := Option.some.inj h0
              refine retq rfl rfl
            · replace h0 := cF h0 q30
              refine AC.skip ?_
              exact ⟨(), _, rfl, (LeL.refl _), rfl, rfl, h0⟩
          · replace h0 := cF h0 q25
            refine AD.opN rfl rfl rfl (ltb rfl) rfl q25 ?_
            refine AD.opN rfl rfl rfl (ltb rfl) rfl q25 ?_
            refine AD.opN rfl rfl rfl (ltb rfl) rfl q25 ?_
            refine AD.opN rfl rfl rfl (ltb rfl) rfl q25 ?_
            refine AD.opN rfl rfl rfl (ltb rfl) rfl q25 ?_
            refine AD.opN rfl rfl rfl (ltb rfl) rfl q25 ?_
            refine AD.opN rfl rfl rfl (ltb rfl) rfl q25 ?_
            refine AD.op [67, 74] rfl (by kernel_rfl) rfl rfl (fun _ _ h => AOp.pickN rfl rfl (ltb rfl) rfl q25 rfl h) ?_
            refine AD.done ?_
            refine AO.nil ?_
            change AC _ _ _ _
            refine AC.condF rfl rfl ?_
            refine AC.skip ?_
            exact ⟨(), _, rfl, (LeL.refl _), rfl, rfl, h0⟩
        · intro g10 h0
          unfold p_convexHullCalculator_isBetween_k2 at h0
          refine AC.seq ?_
          refine AC.draw 16 mixed (by kernel_rfl) ?_
          refine AD.op [3] rfl (by kernel_rfl) rfl rfl (fun _ _ h => AOp.move rfl rfl (ltb rfl) rfl h) ?_
          obtain ⟨x11, q12, h0⟩ := idx_elim h0
          refine AD.op [76] rfl (by kernel_rfl) rfl rfl (fun _ _ h => AOp.indexDs (cells := (List.map keS0 a3)) rfl rfl (ltb rfl) rfl rfl el42 (by decide) q12.1 (lt1 q12.2) h) ?_
          refine AD.op [77] rfl (by kernel_rfl) rfl rfl (fun _ _ h => AOp.loadEp rfl rfl (ltb rfl) rfl agg22 (at1 q12.2) h) ?_
          refine AD.op [2] rfl (by kernel_rfl) rfl rfl (fun _ _ h => AOp.move rfl rfl (ltb rfl) rfl h) ?_
          obtain ⟨x13, q14, h0⟩ := idx_elim h0
          refine AD.op [79] rfl (by kernel_rfl) rfl rfl (fun _ _ h => AOp.indexDs (cells := (List.map keS0 a2)) rfl rfl (ltb rfl) rfl rfl el42 (by decide) q14.1 (lt1 q14.2) h) ?_
          refine AD.op [80] rfl (by kernel_rfl) rfl rfl (fun _ _ h => AOp.loadEp rfl rfl (ltb rfl) rfl agg22 (at1 q14.2) h) ?_
          refine AD.op [78, 81] rfl (by kernel_rfl) rfl rfl (fun _ _ h => AOp.fleq rfl rfl (ltb rfl) rfl rfl h) ?_
          refine AD.op [82] rfl (by kernel_rfl) rfl rfl (fun _ _ h => AOp.move rfl rfl (ltb rfl) rfl h) ?_
          refine AD.dec (fle x11 x13) (fun q15 => ?_) (fun q15 => ?_)
          · replace h0 := cT h0 q15
            refine AD.opY [2, 83] rfl rfl rfl q15 (by kernel_rfl) rfl rfl (fun _ _ h => AOp.move rfl rfl (ltb rfl) rfl h) ?_
            obtain ⟨x16, q17, h0⟩ := idx_elim h0
            refine AD.opY [83, 84] rfl rfl rfl q15 (by kernel_rfl) rfl rfl (fun _ _ h => AOp.indexDs (cells := (List.map keS0 a2)) rfl rfl (ltb rfl) rfl rfl el42 (by decide) q17.1 (lt1 q17.2) h) ?_
            refine AD.opY [83, 85] rfl rfl rfl q15 (by kernel_rfl) rfl rfl (fun _ _ h => AOp.loadEp rfl rfl (ltb rfl) rfl agg22 (at1 q17.2) h) ?_
            refine AD.opY [1, 83] rfl rfl rfl q15 (by kernel_rfl) rfl rfl (fun _ _ h => AOp.move rfl rfl (ltb rfl) rfl h) ?_
            obtain ⟨x18, q19, h0⟩ := idx_elim h0
            refine AD.opY [83, 87] rfl rfl rfl q15 (by kernel_rfl) rfl rfl (fun _ _ h => AOp.indexDs (cells := (List.map keS0 a1)) rfl rfl (ltb rfl) rfl rfl el42 (by decide) q19.1 (lt1 q19.2) h) ?_
            refine AD.opY [83, 88] rfl rfl rfl q15 (by kernel_rfl) rfl rfl (fun _ _ h => AOp.loadEp rfl rfl (ltb rfl) rfl agg22 (at1 q19.2) h) ?_
            refine AD.opY [83, 86, 89] rfl rfl rfl q15 (by kernel_rfl) rfl rfl (fun _ _ h => AOp.fleq rfl rfl (ltb rfl) rfl rfl h) ?_
            refine AD.op [83, 90] rfl (by kernel_rfl) rfl rfl (fun _ _ h => AOp.pick rfl rfl (ltb rfl) rfl q15 rfl h) ?_
            refine AD.done ?_
            refine AO.nil ?_
            change AC _ _ _ _
            refine AC.cond rfl (fun q20 => ?_) (fun q20 => ?_)
            · replace h0 := cT h0 q20
              refine AC.seq ?_
              refine AC.region ?_
              refine AO.op rfl (AOp.assign rfl rfl (ltb rfl) rfl ?_)
              refine AO.nil ?_
              change AC _ _ _ _
              refine AC.ret ?_
              change RetQ _ _ _ .ret _
              obtain rfl := Option.some.inj h0
              refine retq rfl rfl
            · replace h0 := cF h0 q20
              refine AC.skip ?_
              change AC _ _ _ _
              refine AC.seq ?_
              refine AC.region ?_
              refine AO.op rfl (AOp.assign rfl rfl (ltb rfl) rfl ?_)
              refine AO.nil ?_
              change AC _ _ _ _
              refine AC.ret ?_
              change RetQ _ _ _ .ret _
              obtain rfl := Option.some.inj h0
              refine retq rfl rfl
          · replace h0 := cF h0 q15
            refine AD.opN rfl rfl rfl (ltb rfl) rfl q15 ?_
            refine AD.opN rfl rfl rfl (ltb rfl) rfl q15 ?_
            refine AD.opN rfl rfl rfl (ltb rfl) rfl q15 ?_
            refine AD.opN rfl rfl rfl (ltb rfl) rfl q15 ?_
            refine AD.opN rfl rfl rfl (ltb rfl) rfl q15 ?_
            refine AD.opN rfl rfl rfl (ltb rfl) rfl q15 ?_
            refine AD.opN rfl rfl rfl (ltb rfl) rfl q15 ?_
            refine AD.op [83, 90] rfl (by kernel_rfl) rfl rfl (fun _ _ h => AOp.pickN rfl rfl (ltb rfl) rfl q15 rfl h) ?_
            refine AD.done ?_
            refine AO.nil ?_
            change AC _ _ _ _
            refine AC.condF rfl rfl ?_
            refine AC.skip ?_
            change AC _ _ _ _
            refine AC.seq ?_
            refine AC.region ?_
            refine AO.op rfl (AOp.assign rfl rfl (ltb rfl) rfl ?_)
            refine AO.nil ?_
            change AC _ _ _ _
            refine AC.ret ?_
            change RetQ _ _ _ .ret _
            obtain rfl := Option.some.inj h0
            refine retq rfl rfl
      · replace h0 := cF h0 q9
        refine AC.skip ?_
        change AC _ _ _ _
        refine AC.seq ?_
        refine AC.region ?_
        refine AO.op rfl (AOp.assign rfl rfl (ltb rfl) rfl ?_)
        refine AO.nil ?_
        change AC _ _ _ _
        refine AC.ret ?_
        change RetQ _ _ _ .ret _
        obtain rfl := Option.some.inj h0
        refine retq rfl rfl

set_option maxRecDepth 100000 in
set_option maxHeartbeats 1000000 in
/-- (*pub-orthodrome/pub/gogeom/xy.convexHullCalculator).cleanRing -/
theorem w_convexHullCalculator_cleanRing (F : Nat) (a0 : TXy_convexHullCalculator) (a1 : (List Nat)) (r0 : (List Nat)) (h0 : p_convexHullCalculator_cleanRing F a0 a1 = some r0) : FnD Tryd.prog 60 [.pt (c_TXy_convexHullCalculator a0), eS0 a1] (fun r => r = eS0 r0) := by
  refine FnD.of (by kernel_rfl) Tryd.func60 rfl Tryd.ntmps60 rfl (leb rfl) fun W ok => ?_
  unfold p_convexHullCalculator_cleanRing at h0
  refine AC.seq ?_
  refine AC.region ?_
  refine AO.op rfl (AOp.assign rfl rfl (ltb rfl) rfl ?_)
  refine AO.nil ?_
  change AC _ _ _ _
  refine AC.seq ?_
  refine AC.region ?_
  refine AO.op rfl (AOp.buildOwn rfl rfl (ltb rfl) el42 zero22 rfl (leb rfl) rfl rfl rfl rfl ?_)
  refine AO.op rfl (AOp.assign rfl rfl (ltb rfl) rfl ?_)
  refine AO.nil ?_
  change AC _ _ _ _
  refine AC.seq ?_
  refine AC.region ?_
  refine AO.op rfl (AOp.assign rfl rfl (ltb rfl) rfl ?_)
  refine AO.nil ?_
  change AC _ _ _ _
  refine AC.seq ?_
  refine AC.seq ?_
  refine AC.region ?_
  refine AO.op rfl (AOp.assign rfl rfl (ltb rfl) rfl ?_)
  refine AO.nil ?_
  change AC _ _ _ _
  obtain ⟨o1, l2, h0⟩ := bind_elim h0
  refine AC.joinE (V := (List Nat)) [0, 1] [5] 1 (fun g3 => [(5, .own 0)]) (fun g3 => [.grow 22 1 (List.map keS0 g3)]) (fun g3 => (p_convexHullCalculator_cleanRing_k1 a0 a1) g3 = some r0) rfl ?_ ?_
  · refine AC.block ?_
    refine AC.loopP (V := (Option (List Nat) × Int × (List Nat))) (p_convexHullCalculator_cleanRing_l2 a0 a1) o1 [0, 1] [5, 6, 7] 1 (fun g7 => [(5, .own 0), (6, .d (oN eS0 g7.1)), (7, .d (di .i64 g7.2.1))]) (fun g7 => [.grow 22 1 (List.map keS0 g7.2.2)]) F (none, (0 : Int), []) l2 rfl rfl (LeL.refl _) rfl rfl ?_
    intro n9 g7 h1
    unfold p_convexHullCalculator_cleanRing_l2 at h1
    refine AC.seq ?_
    refine AC.seq ?_
    refine AC.region ?_
    refine AO.op rfl (AOp.move rfl rfl (ltb rfl) rfl ?_)
    refine AO.op rfl (AOp.move rfl rfl (ltb rfl) rfl ?_)
    refine AO.op rfl (AOp.lenDs (n := a1.length) (cells := (List.map keS0 a1)) rfl rfl (ltb rfl) rfl el42 (by decide) (len1 _ _) ?_)
    refine AO.op rfl (AOp.move rfl rfl (ltb rfl) rfl ?_)
    refine AO.op rfl (AOp.nilCheck rfl rfl (ltb rfl) rfl rfl ?_)
    refine AO.op rfl (AOp.fieldAddrPt rfl rfl (ltb rfl) rfl fo101_1 ?_)
    refine AO.op rfl (AOp.loadEp rfl rfl (ltb rfl) rfl agg3 rfl ?_)
    obtain ⟨q10, h1⟩ := need_elim h1
    refine AO.op rfl (AOp.isub rfl rfl (ltb rfl) rfl rfl rfl q10.1 q10.2 ?_)
    refine AO.op rfl (AOp.ilss rfl rfl (ltb rfl) rfl rfl ?_)
    refine AO.nil ?_
    change AC _ _ _ _
    refine AC.cond rfl (fun q11 => ?_) (fun q11 => ?_)
    · replace h1 := cT h1 q11
      refine AC.skip ?_
      change AC _ _ _ _
      refine AC.seq ?_
      refine AC.block ?_
      refine AC.seq ?_
      refine AC.seq ?_
      refine AC.region ?_
      refine AO.op rfl (AOp.move rfl rfl (ltb rfl) rfl ?_)
      refine AO.op rfl (AOp.move rfl rfl (ltb rfl) rfl ?_)
      refine AO.op rfl (AOp.move rfl rfl (ltb rfl) rfl ?_)
      refine AO.op rfl (AOp.move rfl rfl (ltb rfl) rfl ?_)
      refine AO.op rfl (AOp.move rfl rfl (ltb rfl) rfl ?_)
      refine AO.op rfl (AOp.nilCheck rfl rfl (ltb rfl) rfl rfl ?_)
      refine AO.op rfl (AOp.fieldAddrPt rfl rfl (ltb rfl) rfl fo101_1 ?_)
      refine AO.op rfl (AOp.loadEp rfl rfl (ltb rfl) rfl agg3 rfl ?_)
      obtain ⟨q12, h1⟩ := need_elim h1
      refine AO.op rfl (AOp.iadd rfl rfl (ltb rfl) rfl rfl rfl q12.1 q12.2 ?_)
      obtain ⟨y13, q14, h1⟩ := bind_elim h1
      refine AO.op rfl (AOp.callD rfl rfl (ltb rfl) rfl rfl (w_Equal a1 g7.2.1 a1 (g7.2.1 + a0.stride) y13 q14) ?_)
      rintro _ rfl
      refine AO.nil ?_
      change AC _ _ _ _
      refine AC.cond rfl (fun q15 => ?_) (fun q15 => ?_)
      · replace h1 := cT h1 q15
        refine AC.exit ?_
        change AC _ _ _ _
        refine AC.region ?_
        refine AO.op rfl (AOp.move rfl rfl (ltb rfl) rfl ?_)
        refine AO.op rfl (AOp.move rfl rfl (ltb rfl) rfl ?_)
        refine AO.op rfl (AOp.nilCheck rfl rfl (ltb rfl) rfl rfl ?_)
        refine AO.op rfl (AOp.fieldAddrPt rfl rfl (ltb rfl) rfl fo101_1 ?_)
        refine AO.op rfl (AOp.loadEp rfl rfl (ltb rfl) rfl agg3 rfl ?_)
        obtain ⟨q16, h1⟩ := need_elim h1
        refine AO.op rfl (AOp.iadd rfl rfl (ltb rfl) rfl rfl rfl q16.1 q16.2 ?_)
        refine AO.op rfl (AOp.assign rfl rfl (ltb rfl) rfl ?_)
        refine AO.nil ?_
        exact ⟨(g7.1, (g7.2.1 + a0.stride), g7.2.2), _, rfl, (LeL.refl _), rfl, rfl, h1⟩
      · replace h1 := cF h1 q15
        refine AC.skip ?_
        change AC _ _ _ _
        refine AC.seq ?_
        refine AC.region ?_
        refine AO.op rfl (AOp.move rfl rfl (ltb rfl) rfl ?_)
        refine AO.op rfl (AOp.move rfl rfl (ltb rfl) rfl ?_)
        refine AO.op rfl (AOp.move rfl rfl (ltb rfl) rfl ?_)
        refine AO.op rfl (AOp.move rfl rfl (ltb rfl) rfl ?_)
        refine AO.op rfl (AOp.nilCheck rfl rfl (ltb rfl) rfl rfl ?_)
        refine AO.op rfl (AOp.fieldAddrPt rfl rfl (ltb rfl) rfl fo101_1 ?_)
        refine AO.op rfl (AOp.loadEp rfl rfl (ltb rfl) rfl agg3 rfl ?_)
        obtain ⟨q17, h1⟩ := need_elim h1
        refine AO.op rfl (AOp.iadd rfl rfl (ltb rfl) rfl rfl rfl q17.1 q17.2 ?_)
        obtain ⟨q18, h1⟩ := need_elim h1
        refine AO.op rfl (AOp.sliceD (cells := (List.map keS0 a1)) (n := a1.length) (l := (g7.2.1).toNat) (hh := ((g7.2.1 + a0.stride)).toNat) rfl rfl (ltb rfl) rfl (.inr ⟨_, _, _, rfl, rfl, q18.1.1, rfl⟩) (.inr ⟨_, _, _, rfl, rfl, q18.1.2, rfl⟩) el42 (by decide) (len1 _ _) q18.2.1 q18.2.2 (sub1 _ _ _ _) ?_)
        refine AO.op rfl (AOp.assign rfl rfl (ltb rfl) rfl ?_)
        refine AO.nil ?_
        change AC _ _ _ _
        refine AC.seq ?_
        refine AC.draw 20 mixed (by kernel_rfl) ?_
        refine AD.op [1] rfl (by kernel_rfl) rfl rfl (fun _ _ h => AOp.move rfl rfl (ltb rfl) rfl h) ?_
        refine AD.op [7] rfl (by kernel_rfl) rfl rfl (fun _ _ h => AOp.move rfl rfl (ltb rfl) rfl h) ?_
        refine AD.op [0] rfl (by kernel_rfl) rfl rfl (fun _ _ h => AOp.move rfl rfl (ltb rfl) rfl h) ?_
        refine AD.op [47] rfl (by kernel_rfl) rfl rfl (fun _ _ h => AOp.nilCheck rfl rfl (ltb rfl) rfl rfl h) ?_
        refine AD.op [48] rfl (by kernel_rfl) rfl rfl (fun _ _ h => AOp.fieldAddrPt rfl rfl (ltb rfl) rfl fo101_1 h) ?_
        refine AD.op [49] rfl (by kernel_rfl) rfl rfl (fun _ _ h => AOp.loadEp rfl rfl (ltb rfl) rfl agg3 rfl h) ?_
        obtain ⟨q19, h1⟩ := need_elim h1
        refine AD.op [46, 50] rfl (by kernel_rfl) rfl rfl (fun _ _ h => AOp.iadd rfl rfl (ltb rfl) rfl rfl rfl q19.1 q19.2 h) ?_
        refine AD.op [7] rfl (by kernel_rfl) rfl rfl (fun _ _ h => AOp.move rfl rfl (ltb rfl) rfl h) ?_
        refine AD.op [0] rfl (by kernel_rfl) rfl rfl (fun _ _ h => AOp.move rfl rfl (ltb rfl) rfl h) ?_
        refine AD.op [53] rfl (by kernel_rfl) rfl rfl (fun _ _ h => AOp.nilCheck rfl rfl (ltb rfl) rfl rfl h) ?_
        refine AD.op [54] rfl (by kernel_rfl) rfl rfl (fun _ _ h => AOp.fieldAddrPt rfl rfl (ltb rfl) rfl fo101_1 h) ?_
        refine AD.op [55] rfl (by kernel_rfl) rfl rfl (fun _ _ h => AOp.loadEp rfl rfl (ltb rfl) rfl agg3 rfl h) ?_
        obtain ⟨q20, h1⟩ := need_elim h1
        refine AD.op [52, 56] rfl (by kernel_rfl) rfl rfl (fun _ _ h => AOp.iadd rfl rfl (ltb rfl) rfl rfl rfl q20.1 q20.2 h) ?_
        refine AD.op [0] rfl (by kernel_rfl) rfl rfl (fun _ _ h => AOp.move rfl rfl (ltb rfl) rfl h) ?_
        refine AD.op [58] rfl (by kernel_rfl) rfl rfl (fun _ _ h => AOp.nilCheck rfl rfl (ltb rfl) rfl rfl h) ?_
        refine AD.op [59] rfl (by kernel_rfl) rfl rfl (fun _ _ h => AOp.fieldAddrPt rfl rfl (ltb rfl) rfl fo101_1 h) ?_
        refine AD.op [60] rfl (by kernel_rfl) rfl rfl (fun _ _ h => AOp.loadEp rfl rfl (ltb rfl) rfl agg3 rfl h) ?_
        obtain ⟨q21, h1⟩ := need_elim h1
        refine AD.op [57, 61] rfl (by kernel_rfl) rfl rfl (fun _ _ h => AOp.iadd rfl rfl (ltb rfl) rfl rfl rfl q21.1 q21.2 h) ?_
        obtain ⟨q22, h1⟩ := need_elim h1
        refine AD.op [45, 51, 62] rfl (by kernel_rfl) rfl rfl (fun _ _ h => AOp.sliceD (cells := (List.map keS0 a1)) (n := a1.length) (l := ((g7.2.1 + a0.stride)).toNat) (hh := (((g7.2.1 + a0.stride) + a0.stride)).toNat) rfl rfl (ltb rfl) rfl (.inr ⟨_, _, _, rfl, rfl, q22.1.1, rfl⟩) (.inr ⟨_, _, _, rfl, rfl, q22.1.2, rfl⟩) el42 (by decide) (len1 _ _) q22.2.1 q22.2.2 (sub1 _ _ _ _) h) ?_
        refine AD.op [63] rfl (by kernel_rfl) rfl rfl (fun _ _ h => AOp.assign rfl rfl (ltb rfl) rfl h) ?_
        refine AD.done ?_
        refine AO.nil ?_
        change AC _ _ _ _
        refine AC.seq ?_
        refine AC.joinP (V := Bool) [0, 1, 5, 6, 7, 8] [72] 1 (fun g23 => [(72, .d (dbool g23))]) (fun g23 => [.grow 22 1 (List.map keS0 g7.2.2)]) (fun g23 => (p_convexHullCalculator_cleanRing_k3 a0 a1 g7 (iter (p_convexHullCalculator_cleanRing_l2 a0 a1) n9)) g23 = some o1) rfl ?_ ?_
        · refine AC.region ?_
          refine AO.op rfl (AOp.move rfl rfl (ltb rfl) rfl ?_)
          obtain ⟨q28, h1⟩ := need_elim h1
          refine AO.op rfl (AOp.nilNeql (f := eS0) (x0 := g7.1) Tryd.underlying42 rfl rfl (ltb rfl) rfl (neO_cons (fun _ _ => ⟨_, _, _, rfl⟩) q28) ?_)
          refine AO.op rfl (AOp.move rfl rfl (ltb rfl) rfl ?_)
          refine AO.dec (!(g7.1).isNone) (fun q29 => ?_) (fun q29 => ?_)
          · replace h1 := cT h1 q29
            refine AO.guardY rfl rfl rfl q29 (AOp.move rfl rfl (ltb rfl) rfl ?_)
            refine AO.guardY rfl rfl rfl q29 (AOp.move rfl rfl (ltb rfl) rfl ?_)
            refine AO.guardY rfl rfl rfl q29 (AOp.move rfl rfl (ltb rfl) rfl ?_)
            refine AO.guardY rfl rfl rfl q29 (AOp.move rfl rfl (ltb rfl) rfl ?_)
            refine AO.sub 68 rfl (SVLe.oN (f := eS0) rfl g7.1) ?_
            obtain ⟨y30, q31, h1⟩ := bind_elim h1
            refine AO.guardY rfl rfl rfl q29 (AOp.callD rfl rfl (ltb rfl) rfl rfl (w_convexHullCalculator_isBetween a0 (g7.1.getD []) ((a1.drop (g7.2.1).toNat).take (((g7.2.1 + a0.stride)).toNat - (g7.2.1).toNat)) ((a1.drop ((g7.2.1 + a0.stride)).toNat).take ((((g7.2.1 + a0.stride) + a0.stride)).toNat - ((g7.2.1 + a0.stride)).toNat)) y30 q31) ?_)
            rintro _ rfl
            refine AO.op rfl (AOp.pick rfl rfl (ltb rfl) rfl q29 rfl ?_)
            refine AO.nil ?_
            exact ⟨y30, _, rfl, (LeL.refl _), rfl, rfl, h1⟩
          · replace h1 := cF h1 q29
            refine AO.guardN rfl rfl rfl (ltb rfl) rfl q29 ?_
            refine AO.guardN rfl rfl rfl (ltb rfl) rfl q29 ?_
            refine AO.guardN rfl rfl rfl (ltb rfl) rfl q29 ?_
            refine AO.guardN rfl rfl rfl (ltb rfl) rfl q29 ?_
            refine AO.guardN rfl rfl rfl (ltb rfl) rfl q29 ?_
            refine AO.op rfl (AOp.pickN rfl rfl (ltb rfl) rfl q29 rfl ?_)
            refine AO.nil ?_
            exact ⟨false, _, rfl, (LeL.refl _), rfl, rfl, h1⟩
        · intro g23 h1
          unfold p_convexHullCalculator_cleanRing_k3 at h1
          refine AC.cond rfl (fun q24 => ?_) (fun q24 => ?_)
          · replace h1 := cT h1 q24
            refine AC.exit ?_
            change AC _ _ _ _
            refine AC.region ?_
            refine AO.op rfl (AOp.move rfl rfl (ltb rfl) rfl ?_)
            refine AO.op rfl (AOp.move rfl rfl (ltb rfl) rfl ?_)
            refine AO.op rfl (AOp.nilCheck rfl rfl (ltb rfl) rfl rfl ?_)
            refine AO.op rfl (AOp.fieldAddrPt rfl rfl (ltb rfl) rfl fo101_1 ?_)
            refine AO.op rfl (AOp.loadEp rfl rfl (ltb rfl) rfl agg3 rfl ?_)
            obtain ⟨q25, h1⟩ := need_elim h1
            refine AO.op rfl (AOp.iadd rfl rfl (ltb rfl) rfl rfl rfl q25.1 q25.2 ?_)
            refine AO.op rfl (AOp.assign rfl rfl (ltb rfl) rfl ?_)
            refine AO.nil ?_
            exact ⟨(g7.1, (g7.2.1 + a0.stride), g7.2.2), _, rfl, (LeL.refl _), rfl, rfl, h1⟩
          · replace h1 := cF h1 q24
            refine AC.skip ?_
            change AC _ _ _ _
            refine AC.seq ?_
            refine AC.region ?_
            refine AO.op rfl (AOp.move rfl rfl (ltb rfl) rfl ?_)
            refine AO.op rfl (AOp.move rfl rfl (ltb rfl) rfl ?_)
            obtain ⟨q26, h1⟩ := need_elim h1
            refine AO.op rfl (AOp.appendOwn' (n := g7.2.2.length) (m := ((a1.drop (g7.2.1).toNat).take (((g7.2.1 + a0.stride)).toNat - (g7.2.1).toNat)).length) (news := (List.map keS0 ((a1.drop (g7.2.1).toNat).take (((g7.2.1 + a0.stride)).toNat - (g7.2.1).toNat)))) rfl rfl (ltb rfl) rfl rfl el42 info22 rfl (by decide) rfl (len1 _ _) (len1 _ _) (one1 _ (fun _ => rfl) _) q26 (by decide) rfl rfl (cat1 _ _ _) ?_)
            refine AO.op rfl (AOp.assign rfl rfl (ltb rfl) rfl ?_)
            refine AO.nil ?_
            change AC _ _ _ _
            refine AC.region ?_
            refine AO.op rfl (AOp.move rfl rfl (ltb rfl) rfl ?_)
            refine AO.op rfl (AOp.assign rfl rfl (ltb rfl) rfl ?_)
            refine AO.nil ?_
            change AC _ _ _ _
            refine AC.region ?_
            refine AO.op rfl (AOp.move rfl rfl (ltb rfl) rfl ?_)
            refine AO.op rfl (AOp.move rfl rfl (ltb rfl) rfl ?_)
            refine AO.op rfl (AOp.nilCheck rfl rfl (ltb rfl) rfl rfl ?_)
            refine AO.op rfl (AOp.fieldAddrPt rfl rfl (ltb rfl) rfl fo101_1 ?_)
            refine AO.op rfl (AOp.loadEp rfl rfl (ltb rfl) rfl agg3 rfl ?_)
            obtain ⟨q27, h1⟩ := need_elim h1
            refine AO.op rfl (AOp.iadd rfl rfl (ltb rfl) rfl rfl rfl q27.1 q27.2 ?_)
            refine AO.op rfl (AOp.assign rfl rfl (ltb rfl) rfl ?_)
            refine AO.nil ?_
            exact ⟨((some ((a1.drop (g7.2.1).toNat).take (((g7.2.1 + a0.stride)).toNat - (g7.2.1).toNat))), (g7.2.1 + a0.stride), (g7.2.2 ++ ((a1.drop (g7.2.1).toNat).take (((g7.2.1 + a0.stride)).toNat - (g7.2.1).toNat)))), _, rfl, (LeL.refl _), rfl, rfl, h1⟩
    · replace h1 := cF h1 q11
      refine AC.exit ?_
      obtain rfl := Option.some.inj h1
      exact ⟨g7.2.2, _, rfl, (LeL.refl _), rfl, rfl, aftL h0⟩
  · intro g3 h0
    unfold p_convexHullCalculator_cleanRing_k1 at h0
    change AC _ _ _ _
    refine AC.seq ?_
    refine AC.region ?_
    refine AO.op rfl (AOp.move rfl rfl (ltb rfl) rfl ?_)
    refine AO.op rfl (AOp.move rfl rfl (ltb rfl) rfl ?_)
    refine AO.op rfl (AOp.move rfl rfl (ltb rfl) rfl ?_)
    refine AO.op rfl (AOp.lenDs (n := a1.length) (cells := (List.map keS0 a1)) rfl rfl (ltb rfl) rfl el42 (by decide) (len1 _ _) ?_)
    refine AO.op rfl (AOp.move rfl rfl (ltb rfl) rfl ?_)
    refine AO.op rfl (AOp.nilCheck rfl rfl (ltb rfl) rfl rfl ?_)
    refine AO.op rfl (AOp.fieldAddrPt rfl rfl (ltb rfl) rfl fo101_1 ?_)
    refine AO.op rfl (AOp.loadEp rfl rfl (ltb rfl) rfl agg3 rfl ?_)
    obtain ⟨q4, h0⟩ := need_elim h0
    refine AO.op rfl (AOp.isub rfl rfl (ltb rfl) rfl rfl rfl q4.1 q4.2 ?_)
    obtain ⟨q5, h0⟩ := need_elim h0
    refine AO.op rfl (AOp.sliceD (cells := (List.map keS0 a1)) (n := a1.length) (l := ((((a1.length : Nat) : Int) - a0.stride)).toNat) (hh := a1.length) rfl rfl (ltb rfl) rfl (.inr ⟨_, _, _, rfl, rfl, q5.1.1, rfl⟩) (.inl ⟨rfl, rfl⟩) el42 (by decide) (len1 _ _) q5.2.1 q5.2.2 (sub1 _ _ _ _) ?_)
    obtain ⟨q6, h0⟩ := need_elim h0
    refine AO.op rfl (AOp.appendOwn' (n := g3.length) (m := ((a1.drop ((((a1.length : Nat) : Int) - a0.stride)).toNat).take (a1.length - ((((a1.length : Nat) : Int) - a0.stride)).toNat)).length) (news := (List.map keS0 ((a1.drop ((((a1.length : Nat) : Int) - a0.stride)).toNat).take (a1.length - ((((a1.length : Nat) : Int) - a0.stride)).toNat)))) rfl rfl (ltb rfl) rfl rfl el42 info22 rfl (by decide) rfl (len1 _ _) (len1 _ _) (one1 _ (fun _ => rfl) _) q6 (by decide) rfl rfl (cat1 _ _ _) ?_)
    refine AO.op rfl (AOp.assign rfl rfl (ltb rfl) rfl ?_)
    refine AO.nil ?_
    change AC _ _ _ _
    refine AC.ret ?_
    change RetQ _ _ _ .ret _
    obtain rfl := Option.some.inj h0
    refine retq rfl rfl

set_option maxRecDepth 100000 in
set_option maxHeartbeats 1000000 in
/-- pub-orthodrome/pub/gogeom/xy.DoorClean -/
theorem w_DoorClean (F : Nat) (a0 : Int) (a1 : (List Nat)) (r0 : (List Nat)) (h0 : p_DoorClean F a0 a1 = some r0) : FnD Tryd.prog 41 [di .i64 a0, eS0 a1] (fun r => r = eS0 r0) := by
  refine FnD.of (by kernel_rfl) Tryd.func41 rfl Tryd.ntmps41 rfl (leb rfl) fun W ok => ?_
  unfold p_DoorClean at h0
  refine AC.seq ?_
  refine AC.region ?_
  refine AO.op rfl (AOp.assign rfl rfl (ltb rfl) rfl ?_)
  refine AO.nil ?_
  change AC _ _ _ _
  refine AC.seq ?_
  refine AC.region ?_
  refine AO.op rfl (AOp.move rfl rfl (ltb rfl) rfl ?_)
  refine AO.op rfl (AOp.move rfl rfl (ltb rfl) rfl ?_)
  obtain ⟨y1, q2, h0⟩ := bind_elim h0
  refine AO.op rfl (AOp.callD rfl rfl (ltb rfl) rfl rfl (w_doorHull a0 a1 y1 q2) ?_)
  rintro _ rfl
  refine AO.op rfl (AOp.move rfl rfl (ltb rfl) rfl ?_)
  obtain ⟨y3, q4, h0⟩ := bind_elim h0
  refine AO.op rfl (AOp.callD rfl rfl (ltb rfl) rfl rfl (w_convexHullCalculator_cleanRing F y1 a1 y3 q4) ?_)
  rintro _ rfl
  refine AO.op rfl (AOp.assign rfl rfl (ltb rfl) rfl ?_)
  refine AO.nil ?_
  change AC _ _ _ _
  refine AC.ret ?_
  change RetQ _ _ _ .ret _
  obtain rfl := Option.some.inj h0
  refine retq rfl rfl

set_option maxRecDepth 100000 in
set_option maxHeartbeats 1000000 in
/-- pub-orthodrome/impl.HullClean -/
theorem w_HullClean (F : Nat) (a0 : Int) (a1 : (List Nat)) (r0 : ((List Nat) × Bool)) (h0 : p_HullClean F a0 a1 = some r0) : FnD Tryd.prog 19 [di .i64 a0, eS0 a1] (fun r => r = .tu [eS0 r0.1, dbool r0.2]) := by
  refine FnD.wrap (g := 39) (m := 2) (fun vs w h => idle39 vs w h) (by kernel_rfl) Tryd.func19 rfl Tryd.ntmps19 rfl (leb rfl) fun W ok => ?_
  unfold p_HullClean at h0
  refine AW.seq ?_
  refine AC.region ?_
  refine AO.op rfl (AOp.alloc rfl rfl (ltb rfl) zero42 rfl ?_)
  refine AO.op rfl (AOp.alloc rfl rfl (ltb rfl) zero4 rfl ?_)
  refine AO.nil ?_
  refine ⟨rfl, ?_⟩
  refine AW.defer (caps := [.tmp 4, .tmp 5]) rfl rfl rfl (ltb rfl) rfl rfl rfl rfl (by kernel_rfl) rfl fun df => ?_
  refine AC.seq ?_
  refine AC.region ?_
  refine AO.op rfl (AOp.move rfl rfl (ltb rfl) rfl ?_)
  refine AO.op rfl (AOp.move rfl rfl (ltb rfl) rfl ?_)
  obtain ⟨y1, q2, h0⟩ := bind_elim h0
  refine AO.op rfl (AOp.callD rfl rfl (ltb rfl) rfl rfl (w_floats a1 y1 q2) ?_)
  rintro _ rfl
  obtain ⟨y3, q4, h0⟩ := bind_elim h0
  refine AO.op rfl (AOp.callD rfl rfl (ltb rfl) rfl rfl (w_DoorClean F a0 y1 y3 q4) ?_)
  rintro _ rfl
  obtain ⟨y5, q6, h0⟩ := bind_elim h0
  refine AO.op rfl (AOp.callD rfl rfl (ltb rfl) rfl rfl (w_floats y3 y5 q6) ?_)
  rintro _ rfl
  refine AO.op rfl (AOp.store rfl rfl rfl rfl size42 rfl rfl rfl (leb rfl) ?_)
  refine AO.op rfl (AOp.store rfl rfl rfl rfl size4 rfl rfl rfl (leb rfl) ?_)
  refine AO.nil ?_
  change AC _ _ _ _
  refine AC.ret ?_
  change RetQ _ _ _ .ret _
  obtain rfl := Option.some.inj h0
  refine retq rfl rfl

set_option maxRecDepth 100000 in
set_option maxHeartbeats 1000000 in
/-- pub-orthodrome/laws.sameFloats -/
theorem w_sameFloats (F : Nat) (a0 : (List Nat)) (a1 : (List Nat)) (r0 : Bool) (h0 : p_sameFloats F a0 a1 = some r0) : FnD Tryd.prog 20 [eS0 a0, eS0 a1] (fun r => r = dbool r0) := by
  refine FnD.of (by kernel_rfl) Tryd.func20 rfl Tryd.ntmps20 rfl (leb rfl) fun W ok => ?_
  unfold p_sameFloats at h0
  refine AC.seq ?_
  refine AC.region ?_
  refine AO.op rfl (AOp.assign rfl rfl (ltb rfl) rfl ?_)
  refine AO.nil ?_
  change AC _ _ _ _
  refine AC.seq ?_
  refine AC.seq ?_
  refine AC.region ?_
  refine AO.op rfl (AOp.move rfl rfl (ltb rfl) rfl ?_)
  refine AO.op rfl (AOp.lenDs (n := a0.length) (cells := (List.map keS0 a0)) rfl rfl (ltb rfl) rfl el42 (by decide) (len1 _ _) ?_)
  refine AO.op rfl (AOp.move rfl rfl (ltb rfl) rfl ?_)
  refine AO.op rfl (AOp.lenDs (n := a1.length) (cells := (List.map keS0 a1)) rfl rfl (ltb rfl) rfl el42 (by decide) (len1 _ _) ?_)
  refine AO.op rfl (AOp.ineq rfl rfl (ltb rfl) rfl rfl ?_)
  refine AO.nil ?_
  change AC _ _ _ _
  refine AC.cond rfl (fun q1 => ?_) (fun q1 => ?_)
  · replace h0 := cT h0 q1
    refine AC.seq ?_
    refine AC.region ?_
    refine AO.op rfl (AOp.assign rfl rfl (ltb rfl) rfl ?_)
    refine AO.nil ?_
    change AC _ _ _ _
    refine AC.ret ?_
    change RetQ _ _ _ .ret _
    obtain rfl := Option.some.inj h0
    refine retq rfl rfl
  · replace h0 := cF h0 q1
    refine AC.skip ?_
    change AC _ _ _ _
    refine AC.seq ?_
    refine AC.seq ?_
    refine AC.region ?_
    refine AO.op rfl (AOp.move rfl rfl (ltb rfl) rfl ?_)
    refine AO.op rfl (AOp.lenDs (n := a0.length) (cells := (List.map keS0 a0)) rfl rfl (ltb rfl) rfl el42 (by decide) (len1 _ _) ?_)
    refine AO.op rfl (AOp.move rfl rfl (ltb rfl) rfl ?_)
    refine AO.nil ?_
    change AC _ _ _ _
    obtain ⟨o2, l3, h0⟩ := bind_elim h0
    refine AC.joinE (V := Unit) [] [] 0 (fun g4 => []) (fun g4 => []) (fun g4 => p_sameFloats_k1 g4 = some r0) rfl ?_ ?_
    · refine AC.block ?_
      refine AC.loopP (V := Int) (p_sameFloats_l2 a0 a1) o2 [1, 12, 13] [14] 0 (fun g5 => [(14, .d (di .i64 g5))]) (fun g5 => []) F (0 : Int) l3 rfl rfl (LeL.refl _) rfl rfl ?_
      intro n7 g5 h1
      unfold p_sameFloats_l2 at h1
      refine AC.seq ?_
      refine AC.region ?_
      refine AO.op rfl (AOp.ilss rfl rfl (ltb rfl) rfl rfl ?_)
      refine AO.nil ?_
      change AC _ _ _ _
      refine AC.seq ?_
      refine AC.cond rfl (fun q8 => ?_) (fun q8 => ?_)
      · replace h1 := cT h1 q8
        refine AC.skip ?_
        change AC _ _ _ _
        refine AC.seq ?_
        refine AC.block ?_
        refine AC.seq ?_
        refine AC.region ?_
        refine AO.op rfl (AOp.move rfl rfl (ltb rfl) rfl ?_)
        obtain ⟨x9, q10, h1⟩ := idx_elim h1
        refine AO.op rfl (AOp.indexDs (cells := (List.map keS0 a0)) rfl rfl (ltb rfl) rfl rfl el42 (by decide) q10.1 (lt1 q10.2) ?_)
        refine AO.op rfl (AOp.loadEp rfl rfl (ltb rfl) rfl agg22 (at1 q10.2) ?_)
        refine AO.op rfl (AOp.assign rfl rfl (ltb rfl) rfl ?_)
        refine AO.op rfl (AOp.assign rfl rfl (ltb rfl) rfl ?_)
        refine AO.nil ?_
        change AC _ _ _ _
        refine AC.seq ?_
        refine AC.draw 22 mixed (by kernel_rfl) ?_
        refine AD.op [6] rfl (by kernel_rfl) rfl rfl (fun _ _ h => AOp.move rfl rfl (ltb rfl) rfl h) ?_
        refine AD.op [1] rfl (by kernel_rfl) rfl rfl (fun _ _ h => AOp.move rfl rfl (ltb rfl) rfl h) ?_
        refine AD.op [5] rfl (by kernel_rfl) rfl rfl (fun _ _ h => AOp.move rfl rfl (ltb rfl) rfl h) ?_
        obtain ⟨x11, q12, h1⟩ := idx_elim h1
        refine AD.op [20, 21] rfl (by kernel_rfl) rfl rfl (fun _ _ h => AOp.indexDs (cells := (List.map keS0 a1)) rfl rfl (ltb rfl) rfl rfl el42 (by decide) q12.1 (lt1 q12.2) h) ?_
        refine AD.op [22] rfl (by kernel_rfl) rfl rfl (fun _ _ h => AOp.loadEp rfl rfl (ltb rfl) rfl agg22 (at1 q12.2) h) ?_
        refine AD.op [19, 23] rfl (by kernel_rfl) rfl rfl (fun _ _ h => AOp.fneq rfl rfl (ltb rfl) rfl rfl h) ?_
        refine AD.op [24] rfl (by kernel_rfl) rfl rfl (fun _ _ h => AOp.move rfl rfl (ltb rfl) rfl h) ?_
        refine AD.dec (!feq x9 x11) (fun q13 => ?_) (fun q13 => ?_)
        · replace h1 := cT h1 q13
          refine AD.opY [6, 25] rfl rfl rfl q13 (by kernel_rfl) rfl rfl (fun _ _ h => AOp.move rfl rfl (ltb rfl) rfl h) ?_
          refine AD.opY [6, 25] rfl rfl rfl q13 (by kernel_rfl) rfl rfl (fun _ _ h => AOp.move rfl rfl (ltb rfl) rfl h) ?_
          refine AD.opY [25, 26, 27] rfl rfl rfl q13 (by kernel_rfl) rfl rfl (fun _ _ h => AOp.feql rfl rfl (ltb rfl) rfl rfl h) ?_
          refine AD.opY [25, 28] rfl rfl rfl q13 (by kernel_rfl) rfl rfl (fun _ _ h => AOp.move rfl rfl (ltb rfl) rfl h) ?_
          refine AD.dec (feq x9 x9) (fun q14 => ?_) (fun q14 => ?_)
          · replace h1 := cT h1 q14
            refine AD.opN rfl rfl rfl (ltb rfl) rfl q14 ?_
            refine AD.opN rfl rfl rfl (ltb rfl) rfl q14 ?_
            refine AD.opN rfl rfl rfl (ltb rfl) rfl q14 ?_
            refine AD.opN rfl rfl rfl (ltb rfl) rfl q14 ?_
            refine AD.opN rfl rfl rfl (ltb rfl) rfl q14 ?_
            refine AD.opN rfl rfl rfl (ltb rfl) rfl q14 ?_
            refine AD.opN rfl rfl rfl (ltb rfl) rfl q14 ?_
            refine AD.opN rfl rfl rfl (ltb rfl) rfl q14 ?_
            refine AD.opN rfl rfl rfl (ltb rfl) rfl q14 ?_
            refine AD.opY [25, 29, 38] rfl rfl rfl q13 (by kernel_rfl) rfl rfl (fun _ _ h => AOp.pick rfl rfl (ltb rfl) rfl q14 rfl h) ?_
            refine AD.op [25, 39] rfl (by kernel_rfl) rfl rfl (fun _ _ h => AOp.pick rfl rfl (ltb rfl) rfl q13 rfl h) ?_
            refine AD.done ?_
            refine AO.nil ?_
            change AC _ _ _ _
            refine AC.condT rfl rfl ?_
            refine AC.seq ?_
            refine AC.region ?_
            refine AO.op rfl (AOp.assign rfl rfl (ltb rfl) rfl ?_)
            refine AO.nil ?_
            change AC _ _ _ _
            refine AC.ret ?_
            change RetQ _ _ _ .ret _
            obtain rfl := Option.some.inj h1
            replace h0 := aftR h0
            obtain rfl := Option.some.inj h0
            refine retq rfl rfl
          · replace h1 := cF h1 q14
            refine AD.opY [1, 29] rfl rfl rfl q14 (by kernel_rfl) rfl rfl (fun _ _ h => AOp.move rfl rfl (ltb rfl) rfl h) ?_
            refine AD.opY [5, 29] rfl rfl rfl q14 (by kernel_rfl) rfl rfl (fun _ _ h => AOp.move rfl rfl (ltb rfl) rfl h) ?_
            obtain ⟨x15, q16, h1⟩ := idx_elim h1
            refine AD.opY [29, 30, 31] rfl rfl rfl q14 (by kernel_rfl) rfl rfl (fun _ _ h => AOp.indexDs (cells := (List.map keS0 a1)) rfl rfl (ltb rfl) rfl rfl el42 (by decide) q16.1 (lt1 q16.2) h) ?_
            refine AD.opY [29, 32] rfl rfl rfl q14 (by kernel_rfl) rfl rfl (fun _ _ h => AOp.loadEp rfl rfl (ltb rfl) rfl agg22 (at1 q16.2) h) ?_
            refine AD.opY [1, 29] rfl rfl rfl q14 (by kernel_rfl) rfl rfl (fun _ _ h => AOp.move rfl rfl (ltb rfl) rfl h) ?_
            refine AD.opY [5, 29] rfl rfl rfl q14 (by kernel_rfl) rfl rfl (fun _ _ h => AOp.move rfl rfl (ltb rfl) rfl h) ?_
            obtain ⟨x17, q18, h1⟩ := idx_elim h1
            refine AD.opY [29, 34, 35] rfl rfl rfl q14 (by kernel_rfl) rfl rfl (fun _ _ h => AOp.indexDs (cells := (List.map keS0 a1)) rfl rfl (ltb rfl) rfl rfl el42 (by decide) q18.1 (lt1 q18.2) h) ?_
            refine AD.opY [29, 36] rfl rfl rfl q14 (by kernel_rfl) rfl rfl (fun _ _ h => AOp.loadEp rfl rfl (ltb rfl) rfl agg22 (at1 q18.2) h) ?_
            refine AD.opY [29, 33, 37] rfl rfl rfl q14 (by kernel_rfl) rfl rfl (fun _ _ h => AOp.feql rfl rfl (ltb rfl) rfl rfl h) ?_
            refine AD.opY [25, 29, 38] rfl rfl rfl q13 (by kernel_rfl) rfl rfl (fun _ _ h => AOp.pickN rfl rfl (ltb rfl) rfl q14 rfl h) ?_
            refine AD.op [25, 39] rfl (by kernel_rfl) rfl rfl (fun _ _ h => AOp.pick rfl rfl (ltb rfl) rfl q13 rfl h) ?_
            refine AD.done ?_
            refine AO.nil ?_
            change AC _ _ _ _
            refine AC.cond rfl (fun q19 => ?_) (fun q19 => ?_)
            · replace h1 := cT h1 q19
              refine AC.seq ?_
              refine AC.region ?_
              refine AO.op rfl (AOp.assign rfl rfl (ltb rfl) rfl ?_)
              refine AO.nil ?_
              change AC _ _ _ _
              refine AC.ret ?_
              change RetQ _ _ _ .ret _
              obtain rfl := Option.some.inj h1
              replace h0 := aftR h0
              obtain rfl := Option.some.inj h0
              refine retq rfl rfl
            · replace h1 := cF h1 q19
              refine AC.skip ?_
              change AC _ _ _ _
              refine AC.region ?_
              obtain ⟨q20, h1⟩ := need_elim h1
              refine AO.op rfl (AOp.iadd rfl rfl (ltb rfl) rfl rfl rfl q20.1 q20.2 ?_)
              refine AO.op rfl (AOp.move rfl rfl (ltb rfl) rfl ?_)
              refine AO.nil ?_
              exact ⟨(g5 + (1 : Int)), _, rfl, (LeL.refl _), rfl, rfl, h1⟩
        · replace h1 := cF h1 q13
          refine AD.opN rfl rfl rfl (ltb rfl) rfl q13 ?_
          refine AD.opN rfl rfl rfl (ltb rfl) rfl q13 ?_
          refine AD.opN rfl rfl rfl (ltb rfl) rfl q13 ?_
          refine AD.opN rfl rfl rfl (ltb rfl) rfl q13 ?_
          refine AD.opU rfl rfl rfl (ltb rfl) rfl ?_
          refine AD.opU rfl rfl rfl (ltb rfl) rfl ?_
          refine AD.opU rfl rfl rfl (ltb rfl) rfl ?_
          refine AD.opU rfl rfl rfl (ltb rfl) rfl ?_
          refine AD.opU rfl rfl rfl (ltb rfl) rfl ?_
          refine AD.opU rfl rfl rfl (ltb rfl) rfl ?_
          refine AD.opU rfl rfl rfl (ltb rfl) rfl ?_
          refine AD.opU rfl rfl rfl (ltb rfl) rfl ?_
          refine AD.opU rfl rfl rfl (ltb rfl) rfl ?_
          refine AD.opN rfl rfl rfl (ltb rfl) rfl q13 ?_
          refine AD.op [25, 39] rfl (by kernel_rfl) rfl rfl (fun _ _ h => AOp.pickN rfl rfl (ltb rfl) rfl q13 rfl h) ?_
          refine AD.done ?_
          refine AO.nil ?_
          change AC _ _ _ _
          refine AC.condF rfl rfl ?_
          refine AC.skip ?_
          change AC _ _ _ _
          refine AC.region ?_
          obtain ⟨q21, h1⟩ := need_elim h1
          refine AO.op rfl (AOp.iadd rfl rfl (ltb rfl) rfl rfl rfl q21.1 q21.2 ?_)
          refine AO.op rfl (AOp.move rfl rfl (ltb rfl) rfl ?_)
          refine AO.nil ?_
          exact ⟨(g5 + (1 : Int)), _, rfl, (LeL.refl _), rfl, rfl, h1⟩
      · replace h1 := cF h1 q8
        refine AC.exit ?_
        obtain rfl := Option.some.inj h1
        exact ⟨(), _, rfl, (LeL.refl _), rfl, rfl, aftL h0⟩
    · intro g4 h0
      unfold p_sameFloats_k1 at h0
      change AC _ _ _ _
      refine AC.seq ?_
      refine AC.region ?_
      refine AO.op rfl (AOp.assign rfl rfl (ltb rfl) rfl ?_)
      refine AO.nil ?_
      change AC _ _ _ _
      refine AC.ret ?_
      change RetQ _ _ _ .ret _
      obtain rfl := Option.some.inj h0
      refine retq rfl rfl

set_option maxRecDepth 100000 in
set_option maxHeartbeats 1000000 in
/-- pub-orthodrome/laws.FnHullClean -/
theorem w_FnHullClean (F : Nat) (a0 : Int) (a1 : (List Nat)) (r0 : Bool) (h0 : p_FnHullClean F a0 a1 = some r0) : FnD Tryd.prog 5 [di .i64 a0, eS0 a1] (fun r => r = dbool r0) := by
  refine FnD.of (by kernel_rfl) Tryd.func5 rfl Tryd.ntmps5 rfl (leb rfl) fun W ok => ?_
  unfold p_FnHullClean at h0
  refine AC.seq ?_
  refine AC.region ?_
  refine AO.op rfl (AOp.assign rfl rfl (ltb rfl) rfl ?_)
  refine AO.nil ?_
  change AC _ _ _ _
  refine AC.seq ?_
  refine AC.seq ?_
  refine AC.region ?_
  refine AO.op rfl (AOp.move rfl rfl (ltb rfl) rfl ?_)
  refine AO.op rfl (AOp.lenDs (n := a1.length) (cells := (List.map keS0 a1)) rfl rfl (ltb rfl) rfl el42 (by decide) (len1 _ _) ?_)
  refine AO.op rfl (AOp.igtr rfl rfl (ltb rfl) rfl rfl ?_)
  refine AO.nil ?_
  change AC _ _ _ _
  refine AC.cond rfl (fun q1 => ?_) (fun q1 => ?_)
  · replace h0 := cT h0 q1
    refine AC.seq ?_
    refine AC.region ?_
    refine AO.op rfl (AOp.assign rfl rfl (ltb rfl) rfl ?_)
    refine AO.nil ?_
    change AC _ _ _ _
    refine AC.ret ?_
    change RetQ _ _ _ .ret _
    obtain rfl := Option.some.inj h0
    refine retq rfl rfl
  · replace h0 := cF h0 q1
    refine AC.skip ?_
    change AC _ _ _ _
    refine AC.seq ?_
    refine AC.region ?_
    refine AO.op rfl (AOp.move rfl rfl (ltb rfl) rfl ?_)
    refine AO.op rfl (AOp.move rfl rfl (ltb rfl) rfl ?_)
    obtain ⟨y2, q3, h0⟩ := bind_elim h0
    refine AO.op rfl (AOp.callD rfl rfl (ltb rfl) rfl rfl (w_flatTo F a0 a1 (4715268809856909312 : Nat) (60 : Int) y2 q3) ?_)
    rintro _ rfl
    refine AO.op rfl (AOp.move rfl rfl (ltb rfl) rfl ?_)
    first | refine AO.op rfl (AOp.extractD rfl rfl (ltb rfl) rfl rfl ?_) | refine AO.op rfl (AOp.extract rfl rfl (ltb rfl) rfl rfl ?_)
    first | refine AO.op rfl (AOp.extractD rfl rfl (ltb rfl) rfl rfl ?_) | refine AO.op rfl (AOp.extract rfl rfl (ltb rfl) rfl rfl ?_)
    refine AO.op rfl (AOp.assign rfl rfl (ltb rfl) rfl ?_)
    refine AO.op rfl (AOp.assign rfl rfl (ltb rfl) rfl ?_)
    refine AO.nil ?_
    change AC _ _ _ _
    refine AC.seq ?_
    refine AC.joinP (V := Bool) [0, 1, 5] [28] 0 (fun g4 => [(28, .d (dbool g4))]) (fun g4 => []) (fun g4 => (p_FnHullClean_k1 a0 a1 F y2) g4 = some r0) rfl ?_ ?_
    · refine AC.region ?_
      refine AO.op rfl (AOp.move rfl rfl (ltb rfl) rfl ?_)
      refine AO.op rfl (AOp.bnot rfl rfl (ltb rfl) rfl ?_)
      refine AO.op rfl (AOp.move rfl rfl (ltb rfl) rfl ?_)
      refine AO.dec (!y2.2) (fun q61 => ?_) (fun q61 => ?_)
      · replace h0 := cT h0 q61
        refine AO.guardN rfl rfl rfl (ltb rfl) rfl q61 ?_
        refine AO.guardN rfl rfl rfl (ltb rfl) rfl q61 ?_
        refine AO.guardN rfl rfl rfl (ltb rfl) rfl q61 ?_
        refine AO.op rfl (AOp.pick rfl rfl (ltb rfl) rfl q61 rfl ?_)
        refine AO.nil ?_
        exact ⟨true, _, rfl, (LeL.refl _), rfl, rfl, h0⟩
      · replace h0 := cF h0 q61
        refine AO.guardY rfl rfl rfl q61 (AOp.move rfl rfl (ltb rfl) rfl ?_)
        refine AO.guardY rfl rfl rfl q61 (AOp.lenDs (n := y2.1.length) (cells := (List.flatMap c_TImpl_P2 y2.1)) rfl rfl (ltb rfl) rfl el43 (by decide) (lenN _ 2 (fun _ => rfl) _) ?_)
        refine AO.guardY rfl rfl rfl q61 (AOp.ilss rfl rfl (ltb rfl) rfl rfl ?_)
        refine AO.op rfl (AOp.pickN rfl rfl (ltb rfl) rfl q61 rfl ?_)
        refine AO.nil ?_
        exact ⟨(decide (((y2.1.length : Nat) : Int) < (2 : Int))), _, rfl, (LeL.refl _), rfl, rfl, h0⟩
    · intro g4 h0
      unfold p_FnHullClean_k1 at h0
      refine AC.cond rfl (fun q5 => ?_) (fun q5 => ?_)
      · replace h0 := cT h0 q5
        refine AC.seq ?_
        refine AC.region ?_
        refine AO.op rfl (AOp.assign rfl rfl (ltb rfl) rfl ?_)
        refine AO.nil ?_
        change AC _ _ _ _
        refine AC.ret ?_
        change RetQ _ _ _ .ret _
        obtain rfl := Option.some.inj h0
        refine retq rfl rfl
      · replace h0 := cF h0 q5
        refine AC.skip ?_
        change AC _ _ _ _
        refine AC.seq ?_
        refine AC.region ?_
        refine AO.op rfl (AOp.move rfl rfl (ltb rfl) rfl ?_)
        refine AO.op rfl (AOp.move rfl rfl (ltb rfl) rfl ?_)
        obtain ⟨y6, q7, h0⟩ := bind_elim h0
        refine AO.op rfl (AOp.callD rfl rfl (ltb rfl) rfl rfl (w_rowsOf F a0 a1 y6 q7) ?_)
        rintro _ rfl
        refine AO.op rfl (AOp.assign rfl rfl (ltb rfl) rfl ?_)
        refine AO.nil ?_
        change AC _ _ _ _
        refine AC.seq ?_
        refine AC.region ?_
        refine AO.op rfl (AOp.assign rfl rfl (ltb rfl) rfl ?_)
        refine AO.nil ?_
        change AC _ _ _ _
        refine AC.seq ?_
        refine AC.region ?_
        refine AO.op rfl (AOp.assign rfl rfl (ltb rfl) rfl ?_)
        refine AO.nil ?_
        change AC _ _ _ _
        refine AC.seq ?_
        refine AC.seq ?_
        refine AC.region ?_
        refine AO.op rfl (AOp.move rfl rfl (ltb rfl) rfl ?_)
        refine AO.op rfl (AOp.lenDs (n := y2.1.length) (cells := (List.flatMap c_TImpl_P2 y2.1)) rfl rfl (ltb rfl) rfl el43 (by decide) (lenN _ 2 (fun _ => rfl) _) ?_)
        obtain ⟨q8, h0⟩ := need_elim h0
        refine AO.op rfl (AOp.isub rfl rfl (ltb rfl) rfl rfl rfl q8.1 q8.2 ?_)
        refine AO.op rfl (AOp.move rfl rfl (ltb rfl) rfl ?_)
        refine AO.nil ?_
        change AC _ _ _ _
        refine AC.adopt 8 22 1 rfl ?_
        obtain ⟨o9, l10, h0⟩ := bind_elim h0
        refine AC.joinE (V := (List Nat)) [0, 1, 7] [8] 1 (fun g11 => [(8, .own 0)]) (fun g11 => [.grow 22 1 (List.map keS0 g11)]) (fun g11 => (p_FnHullClean_k2 a0 a1 F y6) g11 = some r0) rfl ?_ ?_
        · refine AC.block ?_
          refine AC.loopP (V := (Int × Int × (List Nat))) (p_FnHullClean_l3 F y2 y6) o9 [0, 1, 5, 7, 34] [8, 9, 35] 1 (fun g21 => [(8, .own 0), (9, .d (di .i64 g21.1)), (35, .d (di .i64 g21.2.1))]) (fun g21 => [.grow 22 1 (List.map keS0 g21.2.2)]) F ((-1 : Int), (0 : Int), []) l10 rfl rfl (LeL.refl _) rfl rfl ?_
          intro n23 g21 h1
          unfold p_FnHullClean_l3 at h1
          refine AC.seq ?_
          refine AC.region ?_
          refine AO.op rfl (AOp.ilss rfl rfl (ltb rfl) rfl rfl ?_)
          refine AO.nil ?_
          change AC _ _ _ _
          refine AC.seq ?_
          refine AC.cond rfl (fun q24 => ?_) (fun q24 => ?_)
          · replace h1 := cT h1 q24
            refine AC.skip ?_
            change AC _ _ _ _
            refine AC.seq ?_
            refine AC.block ?_
            refine AC.seq ?_
            refine AC.region ?_
            refine AO.op rfl (AOp.move rfl rfl (ltb rfl) rfl ?_)
            refine AO.op rfl (AOp.assign rfl rfl (ltb rfl) rfl ?_)
            refine AO.nil ?_
            change AC _ _ _ _
            refine AC.seq ?_
            refine AC.seq ?_
            refine AC.draw 10 mixed (by kernel_rfl) ?_
            refine AD.op [5] rfl (by kernel_rfl) rfl rfl (fun _ _ h => AOp.move rfl rfl (ltb rfl) rfl h) ?_
            refine AD.op [10] rfl (by kernel_rfl) rfl rfl (fun _ _ h => AOp.move rfl rfl (ltb rfl) rfl h) ?_
            obtain ⟨x25, q26, h1⟩ := idx_elim h1
            refine AD.op [38, 39] rfl (by kernel_rfl) rfl rfl (fun _ _ h => AOp.indexDs (cells := (List.flatMap c_TImpl_P2 y2.1)) rfl rfl (ltb rfl) rfl rfl el43 (by decide) q26.1 (ltN 2 (fun _ => rfl) (by decide) q26.2) h) ?_
            refine AD.op [40] rfl (by kernel_rfl) rfl rfl (fun _ _ h => AOp.loadEpN rfl rfl (ltb rfl) rfl agg24 size24 (leN 2 (fun _ => rfl) q26.2) (atN 2 (fun _ => rfl) q26.2) h) ?_
            refine AD.op [5] rfl (by kernel_rfl) rfl rfl (fun _ _ h => AOp.move rfl rfl (ltb rfl) rfl h) ?_
            refine AD.op [10] rfl (by kernel_rfl) rfl rfl (fun _ _ h => AOp.move rfl rfl (ltb rfl) rfl h) ?_
            obtain ⟨q27, h1⟩ := need_elim h1
            refine AD.op [43] rfl (by kernel_rfl) rfl rfl (fun _ _ h => AOp.iadd rfl rfl (ltb rfl) rfl rfl rfl q27.1 q27.2 h) ?_
            obtain ⟨x28, q29, h1⟩ := idx_elim h1
            refine AD.op [42, 44] rfl (by kernel_rfl) rfl rfl (fun _ _ h => AOp.indexDs (cells := (List.flatMap c_TImpl_P2 y2.1)) rfl rfl (ltb rfl) rfl rfl el43 (by decide) q29.1 (ltN 2 (fun _ => rfl) (by decide) q29.2) h) ?_
            refine AD.op [45] rfl (by kernel_rfl) rfl rfl (fun _ _ h => AOp.loadEpN rfl rfl (ltb rfl) rfl agg24 size24 (leN 2 (fun _ => rfl) q29.2) (atN 2 (fun _ => rfl) q29.2) h) ?_
            refine AD.op [41, 46] rfl (by kernel_rfl) rfl rfl (fun _ _ h => AOp.seql (n := 9) rfl rfl (ltb rfl) rfl rfl agg24 eg24 (by decide) (eq24 _ _ _ _) h) ?_
            refine AD.done ?_
            refine AO.nil ?_
            change AC _ _ _ _
            refine AC.cond rfl (fun q30 => ?_) (fun q30 => ?_)
            · replace h1 := cT h1 q30
              refine AC.exit ?_
              change AC _ _ _ _
              refine AC.region ?_
              obtain ⟨q31, h1⟩ := need_elim h1
              refine AO.op rfl (AOp.iadd rfl rfl (ltb rfl) rfl rfl rfl q31.1 q31.2 ?_)
              refine AO.op rfl (AOp.move rfl rfl (ltb rfl) rfl ?_)
              refine AO.nil ?_
              exact ⟨(g21.1, (g21.2.1 + (1 : Int)), g21.2.2), _, rfl, (LeL.refl _), rfl, rfl, h1⟩
            · replace h1 := cF h1 q30
              refine AC.skip ?_
              change AC _ _ _ _
              refine AC.joinP (V := Unit) [0, 1, 5, 7, 8, 10, 34, 35] [] 1 (fun g32 => []) (fun g32 => [.grow 22 1 (List.map keS0 g21.2.2)]) (fun g32 => (p_FnHullClean_k4 y6 g21 (iter (p_FnHullClean_l3 F y2 y6) n23)) g32 = some o9) rfl ?_ ?_
              · refine AC.seq ?_
                refine AC.draw 33 mixed (by kernel_rfl) ?_
                refine AD.op [9] rfl (by kernel_rfl) rfl rfl (fun _ _ h => AOp.move rfl rfl (ltb rfl) rfl h) ?_
                refine AD.op [48] rfl (by kernel_rfl) rfl rfl (fun _ _ h => AOp.igeq rfl rfl (ltb rfl) rfl rfl h) ?_
                refine AD.op [49] rfl (by kernel_rfl) rfl rfl (fun _ _ h => AOp.move rfl rfl (ltb rfl) rfl h) ?_
                refine AD.dec (decide ((0 : Int) ≤ g21.1)) (fun q37 => ?_) (fun q37 => ?_)
                · replace h1 := cT h1 q37
                  refine AD.opY [5, 50] rfl rfl rfl q37 (by kernel_rfl) rfl rfl (fun _ _ h => AOp.move rfl rfl (ltb rfl) rfl h) ?_
                  refine AD.opY [9, 50] rfl rfl rfl q37 (by kernel_rfl) rfl rfl (fun _ _ h => AOp.move rfl rfl (ltb rfl) rfl h) ?_
                  obtain ⟨x38, q39, h1⟩ := idx_elim h1
                  refine AD.opY [50, 51, 52] rfl rfl rfl q37 (by kernel_rfl) rfl rfl (fun _ _ h => AOp.indexDs (cells := (List.flatMap c_TImpl_P2 y2.1)) rfl rfl (ltb rfl) rfl rfl el43 (by decide) q39.1 (ltN 2 (fun _ => rfl) (by decide) q39.2) h) ?_
                  refine AD.opY [50, 53] rfl rfl rfl q37 (by kernel_rfl) rfl rfl (fun _ _ h => AOp.loadEpN rfl rfl (ltb rfl) rfl agg24 size24 (leN 2 (fun _ => rfl) q39.2) (atN 2 (fun _ => rfl) q39.2) h) ?_
                  refine AD.opY [5, 50] rfl rfl rfl q37 (by kernel_rfl) rfl rfl (fun _ _ h => AOp.move rfl rfl (ltb rfl) rfl h) ?_
                  refine AD.opY [10, 50] rfl rfl rfl q37 (by kernel_rfl) rfl rfl (fun _ _ h => AOp.move rfl rfl (ltb rfl) rfl h) ?_
                  obtain ⟨q40, h1⟩ := need_elim h1
                  refine AD.opY [50, 56] rfl rfl rfl q37 (by kernel_rfl) rfl rfl (fun _ _ h => AOp.iadd rfl rfl (ltb rfl) rfl rfl rfl q40.1 q40.2 h) ?_
                  obtain ⟨x41, q42, h1⟩ := idx_elim h1
                  refine AD.opY [50, 55, 57] rfl rfl rfl q37 (by kernel_rfl) rfl rfl (fun _ _ h => AOp.indexDs (cells := (List.flatMap c_TImpl_P2 y2.1)) rfl rfl (ltb rfl) rfl rfl el43 (by decide) q42.1 (ltN 2 (fun _ => rfl) (by decide) q42.2) h) ?_
                  refine AD.opY [50, 58] rfl rfl rfl q37 (by kernel_rfl) rfl rfl (fun _ _ h => AOp.loadEpN rfl rfl (ltb rfl) rfl agg24 size24 (leN 2 (fun _ => rfl) q42.2) (atN 2 (fun _ => rfl) q42.2) h) ?_
                  refine AD.opY [50, 54, 59] rfl rfl rfl q37 (by kernel_rfl) rfl rfl (fun _ _ h => AOp.sneq (n := 9) rfl rfl (ltb rfl) rfl rfl agg24 eg24 (by decide) (eq24 _ _ _ _) h) ?_
                  refine AD.op [50, 60] rfl (by kernel_rfl) rfl rfl (fun _ _ h => AOp.pick rfl rfl (ltb rfl) rfl q37 rfl h) ?_
                  refine AD.op [61] rfl (by kernel_rfl) rfl rfl (fun _ _ h => AOp.move rfl rfl (ltb rfl) rfl h) ?_
                  refine AD.dec (!(feq x38.X x41.X && (feq x38.Y x41.Y && true))) (fun q43 => ?_) (fun q43 => ?_)
                  · replace h1 := cT h1 q43
                    refine AD.opY [5, 62] rfl rfl rfl q43 (by kernel_rfl) rfl rfl (fun _ _ h => AOp.move rfl rfl (ltb rfl) rfl h) ?_
                    refine AD.opY [10, 62] rfl rfl rfl q43 (by kernel_rfl) rfl rfl (fun _ _ h => AOp.move rfl rfl (ltb rfl) rfl h) ?_
                    obtain ⟨x44, q45, h1⟩ := idx_elim h1
                    refine AD.opY [62, 63, 64] rfl rfl rfl q43 (by kernel_rfl) rfl rfl (fun _ _ h => AOp.indexDs (cells := (List.flatMap c_TImpl_P2 y2.1)) rfl rfl (ltb rfl) rfl rfl el43 (by decide) q45.1 (ltN 2 (fun _ => rfl) (by decide) q45.2) h) ?_
                    refine AD.opY [62, 65] rfl rfl rfl q43 (by kernel_rfl) rfl rfl (fun _ _ h => AOp.loadEpN rfl rfl (ltb rfl) rfl agg24 size24 (leN 2 (fun _ => rfl) q45.2) (atN 2 (fun _ => rfl) q45.2) h) ?_
                    obtain ⟨y46, q47, h1⟩ := bind_elim h1
                    refine AD.opY [62, 66] rfl rfl rfl q43 (by kernel_rfl) rfl rfl (fun _ _ h => AOp.callD rfl rfl (ltb rfl) rfl rfl (w_exactly F x44 y46 q47) (by rintro _ rfl; exact h)) ?_
                    refine AD.opY [5, 62] rfl rfl rfl q43 (by kernel_rfl) rfl rfl (fun _ _ h => AOp.move rfl rfl (ltb rfl) rfl h) ?_
                    refine AD.opY [9, 62] rfl rfl rfl q43 (by kernel_rfl) rfl rfl (fun _ _ h => AOp.move rfl rfl (ltb rfl) rfl h) ?_
                    obtain ⟨x48, q49, h1⟩ := idx_elim h1
                    refine AD.opY [62, 68, 69] rfl rfl rfl q43 (by kernel_rfl) rfl rfl (fun _ _ h => AOp.indexDs (cells := (List.flatMap c_TImpl_P2 y2.1)) rfl rfl (ltb rfl) rfl rfl el43 (by decide) q49.1 (ltN 2 (fun _ => rfl) (by decide) q49.2) h) ?_
                    refine AD.opY [62, 70] rfl rfl rfl q43 (by kernel_rfl) rfl rfl (fun _ _ h => AOp.loadEpN rfl rfl (ltb rfl) rfl agg24 size24 (leN 2 (fun _ => rfl) q49.2) (atN 2 (fun _ => rfl) q49.2) h) ?_
                    obtain ⟨y50, q51, h1⟩ := bind_elim h1
                    refine AD.opY [62, 71] rfl rfl rfl q43 (by kernel_rfl) rfl rfl (fun _ _ h => AOp.callD rfl rfl (ltb rfl) rfl rfl (w_exactly F x48 y50 q51) (by rintro _ rfl; exact h)) ?_
                    refine AD.opY [5, 62] rfl rfl rfl q43 (by kernel_rfl) rfl rfl (fun _ _ h => AOp.move rfl rfl (ltb rfl) rfl h) ?_
                    refine AD.opY [10, 62] rfl rfl rfl q43 (by kernel_rfl) rfl rfl (fun _ _ h => AOp.move rfl rfl (ltb rfl) rfl h) ?_
                    obtain ⟨q52, h1⟩ := need_elim h1
                    refine AD.opY [62, 74] rfl rfl rfl q43 (by kernel_rfl) rfl rfl (fun _ _ h => AOp.iadd rfl rfl (ltb rfl) rfl rfl rfl q52.1 q52.2 h) ?_
                    obtain ⟨x53, q54, h1⟩ := idx_elim h1
                    refine AD.opY [62, 73, 75] rfl rfl rfl q43 (by kernel_rfl) rfl rfl (fun _ _ h => AOp.indexDs (cells := (List.flatMap c_TImpl_P2 y2.1)) rfl rfl (ltb rfl) rfl rfl el43 (by decide) q54.1 (ltN 2 (fun _ => rfl) (by decide) q54.2) h) ?_
                    refine AD.opY [62, 76] rfl rfl rfl q43 (by kernel_rfl) rfl rfl (fun _ _ h => AOp.loadEpN rfl rfl (ltb rfl) rfl agg24 size24 (leN 2 (fun _ => rfl) q54.2) (atN 2 (fun _ => rfl) q54.2) h) ?_
                    obtain ⟨y55, q56, h1⟩ := bind_elim h1
                    refine AD.opY [62, 77] rfl rfl rfl q43 (by kernel_rfl) rfl rfl (fun _ _ h => AOp.callD rfl rfl (ltb rfl) rfl rfl (w_exactly F x53 y55 q56) (by rintro _ rfl; exact h)) ?_
                    obtain ⟨y57, q58, h1⟩ := bind_elim h1
                    refine AD.opY [62, 67, 72, 78] rfl rfl rfl q43 (by kernel_rfl) rfl rfl (fun _ _ h => AOp.callD rfl rfl (ltb rfl) rfl rfl (w_OnSegment F y46 y50 y55 y57 q58) (by rintro _ rfl; exact h)) ?_
                    refine AD.op [62, 79] rfl (by kernel_rfl) rfl rfl (fun _ _ h => AOp.pick rfl rfl (ltb rfl) rfl q43 rfl h) ?_
                    refine AD.done ?_
                    refine AO.nil ?_
                    change AC _ _ _ _
                    refine AC.cond rfl (fun q59 => ?_) (fun q59 => ?_)
                    · replace h1 := cT h1 q59
                      refine AC.exit ?_
                      change AC _ _ _ _
                      refine AC.region ?_
                      obtain ⟨q60, h1⟩ := need_elim h1
                      refine AO.op rfl (AOp.iadd rfl rfl (ltb rfl) rfl rfl rfl q60.1 q60.2 ?_)
                      refine AO.op rfl (AOp.move rfl rfl (ltb rfl) rfl ?_)
                      refine AO.nil ?_
                      exact ⟨(g21.1, (g21.2.1 + (1 : Int)), g21.2.2), _, rfl, (LeL.refl _), rfl, rfl, h1⟩
                    · replace h1 := cF h1 q59
                      refine AC.skip ?_
                      exact ⟨(), _, rfl, (LeL.refl _), rfl, rfl, h1⟩
                  · replace h1 := cF h1 q43
                    refine AD.opN rfl rfl rfl (ltb rfl) rfl q43 ?_
                    refine AD.opN rfl rfl rfl (ltb rfl) rfl q43 ?_
                    refine AD.opN rfl rfl rfl (ltb rfl) rfl q43 ?_
                    refine AD.opN rfl rfl rfl (ltb rfl) rfl q43 ?_
                    refine AD.opN rfl rfl rfl (ltb rfl) rfl q43 ?_
                    refine AD.opN rfl rfl rfl (ltb rfl) rfl q43 ?_
                    refine AD.opN rfl rfl rfl (ltb rfl) rfl q43 ?_
                    refine AD.opN rfl rfl rfl (ltb rfl) rfl q43 ?_
                    refine AD.opN rfl rfl rfl (ltb rfl) rfl q43 ?_
                    refine AD.opN rfl rfl rfl (ltb rfl) rfl q43 ?_
                    refine AD.opN rfl rfl rfl (ltb rfl) rfl q43 ?_
                    refine AD.opN rfl rfl rfl (ltb rfl) rfl q43 ?_
                    refine AD.opN rfl rfl rfl (ltb rfl) rfl q43 ?_
                    refine AD.opN rfl rfl rfl (ltb rfl) rfl q43 ?_
                    refine AD.opN rfl rfl rfl (ltb rfl) rfl q43 ?_
                    refine AD.opN rfl rfl rfl (ltb rfl) rfl q43 ?_
                    refine AD.opN rfl rfl rfl (ltb rfl) rfl q43 ?_
                    refine AD.op [62, 79] rfl (by kernel_rfl) rfl rfl (fun _ _ h => AOp.pickN rfl rfl (ltb rfl) rfl q43 rfl h) ?_
                    refine AD.done ?_
                    refine AO.nil ?_
                    change AC _ _ _ _
                    refine AC.condF rfl rfl ?_
                    refine AC.skip ?_
                    exact ⟨(), _, rfl, (LeL.refl _), rfl, rfl, h1⟩
                · replace h1 := cF h1 q37
                  refine AD.opN rfl rfl rfl (ltb rfl) rfl q37 ?_
                  refine AD.opN rfl rfl rfl (ltb rfl) rfl q37 ?_
                  refine AD.opN rfl rfl rfl (ltb rfl) rfl q37 ?_
                  refine AD.opN rfl rfl rfl (ltb rfl) rfl q37 ?_
                  refine AD.opN rfl rfl rfl (ltb rfl) rfl q37 ?_
                  refine AD.opN rfl rfl rfl (ltb rfl) rfl q37 ?_
                  refine AD.opN rfl rfl rfl (ltb rfl) rfl q37 ?_
                  refine AD.opN rfl rfl rfl (ltb rfl) rfl q37 ?_
                  refine AD.opN rfl rfl rfl (ltb rfl) rfl q37 ?_
                  refine AD.opN rfl rfl rfl (ltb rfl) rfl q37 ?_
                  refine AD.op [50, 60] rfl (by kernel_rfl) rfl rfl (fun _ _ h => AOp.pickN rfl rfl (ltb rfl) rfl q37 rfl h) ?_
                  refine AD.op [61] rfl (by kernel_rfl) rfl rfl (fun _ _ h => AOp.move rfl rfl (ltb rfl) rfl h) ?_
                  refine AD.opN rfl rfl rfl (ltb rfl) rfl rfl ?_
                  refine AD.opN rfl rfl rfl (ltb rfl) rfl rfl ?_
                  refine AD.opN rfl rfl rfl (ltb rfl) rfl rfl ?_
                  refine AD.opN rfl rfl rfl (ltb rfl) rfl rfl ?_
                  refine AD.opN rfl rfl rfl (ltb rfl) rfl rfl ?_
                  refine AD.opN rfl rfl rfl (ltb rfl) rfl rfl ?_
                  refine AD.opN rfl rfl rfl (ltb rfl) rfl rfl ?_
                  refine AD.opN rfl rfl rfl (ltb rfl) rfl rfl ?_
                  refine AD.opN rfl rfl rfl (ltb rfl) rfl rfl ?_
                  refine AD.opN rfl rfl rfl (ltb rfl) rfl rfl ?_
                  refine AD.opN rfl rfl rfl (ltb rfl) rfl rfl ?_
                  refine AD.opN rfl rfl rfl (ltb rfl) rfl rfl ?_
                  refine AD.opN rfl rfl rfl (ltb rfl) rfl rfl ?_
                  refine AD.opN rfl rfl rfl (ltb rfl) rfl rfl ?_
                  refine AD.opN rfl rfl rfl (ltb rfl) rfl rfl ?_
                  refine AD.opN rfl rfl rfl (ltb rfl) rfl rfl ?_
                  refine AD.opN rfl rfl rfl (ltb rfl) rfl rfl ?_
                  refine AD.op [62, 79] rfl (by kernel_rfl) rfl rfl (fun _ _ h => AOp.pickN rfl rfl (ltb rfl) rfl rfl rfl h) ?_
                  refine AD.done ?_
                  refine AO.nil ?_
                  change AC _ _ _ _
                  refine AC.condF rfl rfl ?_
                  refine AC.skip ?_
                  exact ⟨(), _, rfl, (LeL.refl _), rfl, rfl, h1⟩
              · intro g32 h1
                unfold p_FnHullClean_k4 at h1
                refine AC.seq ?_
                refine AC.region ?_
                refine AO.op rfl (AOp.move rfl rfl (ltb rfl) rfl ?_)
                refine AO.op rfl (AOp.move rfl rfl (ltb rfl) rfl ?_)
                refine AO.op rfl (AOp.move rfl rfl (ltb rfl) rfl ?_)
                obtain ⟨x33, q34, h1⟩ := idx_elim h1
                refine AO.op rfl (AOp.indexDs (cells := (List.map keS2 y6)) rfl rfl (ltb rfl) rfl rfl el46 (by decide) q34.1 (lt1 q34.2) ?_)
                refine AO.op rfl (AOp.loadEp rfl rfl (ltb rfl) rfl agg42 (at1 q34.2) ?_)
                obtain ⟨q35, h1⟩ := need_elim h1
                refine AO.op rfl (AOp.appendOwn' (n := g21.2.2.length) (m := x33.length) (news := (List.map keS0 x33)) rfl rfl (ltb rfl) rfl rfl el42 info22 rfl (by decide) rfl (len1 _ _) (len1 _ _) (one1 _ (fun _ => rfl) _) q35 (by decide) rfl rfl (cat1 _ _ _) ?_)
                refine AO.op rfl (AOp.assign rfl rfl (ltb rfl) rfl ?_)
                refine AO.nil ?_
                change AC _ _ _ _
                refine AC.region ?_
                refine AO.op rfl (AOp.move rfl rfl (ltb rfl) rfl ?_)
                refine AO.op rfl (AOp.assign rfl rfl (ltb rfl) rfl ?_)
                refine AO.nil ?_
                change AC _ _ _ _
                refine AC.region ?_
                obtain ⟨q36, h1⟩ := need_elim h1
                refine AO.op rfl (AOp.iadd rfl rfl (ltb rfl) rfl rfl rfl q36.1 q36.2 ?_)
                refine AO.op rfl (AOp.move rfl rfl (ltb rfl) rfl ?_)
                refine AO.nil ?_
                exact ⟨(g21.2.1, (g21.2.1 + (1 : Int)), (g21.2.2 ++ x33)), _, rfl, (LeL.refl _), rfl, rfl, h1⟩
          · replace h1 := cF h1 q24
            refine AC.exit ?_
            obtain rfl := Option.some.inj h1
            exact ⟨g21.2.2, _, rfl, (LeL.refl _), rfl, rfl, aftL h0⟩
        · intro g11 h0
          unfold p_FnHullClean_k2 at h0
          change AC _ _ _ _
          refine AC.seq ?_
          refine AC.region ?_
          refine AO.op rfl (AOp.move rfl rfl (ltb rfl) rfl ?_)
          refine AO.op rfl (AOp.move rfl rfl (ltb rfl) rfl ?_)
          refine AO.op rfl (AOp.move rfl rfl (ltb rfl) rfl ?_)
          refine AO.op rfl (AOp.lenDs (n := y6.length) (cells := (List.map keS2 y6)) rfl rfl (ltb rfl) rfl el46 (by decide) (len1 _ _) ?_)
          obtain ⟨q12, h0⟩ := need_elim h0
          refine AO.op rfl (AOp.isub rfl rfl (ltb rfl) rfl rfl rfl q12.1 q12.2 ?_)
          obtain ⟨x13, q14, h0⟩ := idx_elim h0
          refine AO.op rfl (AOp.indexDs (cells := (List.map keS2 y6)) rfl rfl (ltb rfl) rfl rfl el46 (by decide) q14.1 (lt1 q14.2) ?_)
          refine AO.op rfl (AOp.loadEp rfl rfl (ltb rfl) rfl agg42 (at1 q14.2) ?_)
          obtain ⟨q15, h0⟩ := need_elim h0
          refine AO.op rfl (AOp.appendOwn' (n := g11.length) (m := x13.length) (news := (List.map keS0 x13)) rfl rfl (ltb rfl) rfl rfl el42 info22 rfl (by decide) rfl (len1 _ _) (len1 _ _) (one1 _ (fun _ => rfl) _) q15 (by decide) rfl rfl (cat1 _ _ _) ?_)
          refine AO.op rfl (AOp.assign rfl rfl (ltb rfl) rfl ?_)
          refine AO.nil ?_
          change AC _ _ _ _
          refine AC.seq ?_
          refine AC.region ?_
          refine AO.op rfl (AOp.move rfl rfl (ltb rfl) rfl ?_)
          refine AO.op rfl (AOp.move rfl rfl (ltb rfl) rfl ?_)
          obtain ⟨y16, q17, h0⟩ := bind_elim h0
          refine AO.op rfl (AOp.callD rfl rfl (ltb rfl) rfl rfl (w_HullClean F a0 a1 y16 q17) ?_)
          rintro _ rfl
          refine AO.op rfl (AOp.move rfl rfl (ltb rfl) rfl ?_)
          first | refine AO.op rfl (AOp.extractD rfl rfl (ltb rfl) rfl rfl ?_) | refine AO.op rfl (AOp.extract rfl rfl (ltb rfl) rfl rfl ?_)
          first | refine AO.op rfl (AOp.extractD rfl rfl (ltb rfl) rfl rfl ?_) | refine AO.op rfl (AOp.extract rfl rfl (ltb rfl) rfl rfl ?_)
          refine AO.op rfl (AOp.assign rfl rfl (ltb rfl) rfl ?_)
          refine AO.op rfl (AOp.assign rfl rfl (ltb rfl) rfl ?_)
          refine AO.nil ?_
          change AC _ _ _ _
          refine AC.seq ?_
          refine AC.region ?_
          refine AO.op rfl (AOp.move rfl rfl (ltb rfl) rfl ?_)
          refine AO.op rfl (AOp.move rfl rfl (ltb rfl) rfl ?_)
          refine AO.dec y16.2 (fun q18 => ?_) (fun q18 => ?_)
          · replace h0 := cT h0 q18
            refine AO.guardY rfl rfl rfl q18 (AOp.move rfl rfl (ltb rfl) rfl ?_)
            refine AO.guardY rfl rfl rfl q18 (AOp.move rfl rfl (ltb rfl) rfl ?_)
            refine AO.freezeG 0 rfl rfl rfl ?_
            obtain ⟨y19, q20, h0⟩ := bind_elim h0
            refine AO.guardY rfl rfl rfl q18 (AOp.callD rfl rfl (ltb rfl) rfl rfl (w_sameFloats F y16.1 (g11 ++ x13) y19 q20) ?_)
            rintro _ rfl
            refine AO.op rfl (AOp.pick rfl rfl (ltb rfl) rfl q18 rfl ?_)
            refine AO.op rfl (AOp.assign rfl rfl (ltb rfl) rfl ?_)
            refine AO.nil ?_
            change AC _ _ _ _
            refine AC.ret ?_
            change RetQ _ _ _ .ret _
            obtain rfl := Option.some.inj h0
            refine retq rfl rfl
          · replace h0 := cF h0 q18
            refine AO.guardN rfl rfl rfl (ltb rfl) rfl q18 ?_
            refine AO.guardN rfl rfl rfl (ltb rfl) rfl q18 ?_
            refine AO.guardN rfl rfl rfl (ltb rfl) rfl q18 ?_
            refine AO.op rfl (AOp.pickN rfl rfl (ltb rfl) rfl q18 rfl ?_)
            refine AO.op rfl (AOp.assign rfl rfl (ltb rfl) rfl ?_)
            refine AO.nil ?_
            change AC _ _ _ _
            refine AC.ret ?_
            change RetQ _ _ _ .ret _
            obtain rfl := Option.some.inj h0
            refine retq rfl rfl

end Go.Proofs.YtohpmbodfpjjmaaDoor.Wk
