/- Proved: functions of the program compute what the printed functions say, wherever these say something. -/
import Derived.Test.YtohpmbodfpjjmaaPRi
import Derived.Test.YtohpmbodfpjjmaaFltFloor
import Derived.Test.YtohpmbodfpjjmaaVmDraw4
import Derived.Test.YtohpmbodfpjjmaaVmIfc
import Derived.Test.YtohpmbodfpjjmaaVmNew
import Derived.Test.YtohpmbodfpjjmaaVmNaN
import Derived.Test.YtohpmbodfpjjmaaFltDy
import Derived.Test.YtohpmbodfpjjmaaFltMin
import Derived.Test.YtohpmbodfpjjmaaVmFin
import Derived.Test.YtohpmbodfpjjmaaProg
namespace Go.Proofs.Ytohpmbodfpjjmaa.Wk
open Go.Vm
set_option linter.unusedVariables false
set_option linter.unusedSimpArgs false
theorem agg106 : aggT Try.prog 106 = some false := by kernel_rfl
theorem agg22 : aggT Try.prog 22 = some false := by kernel_rfl
theorem agg24 : aggT Try.prog 24 = some true := by kernel_rfl
theorem agg28 : aggT Try.prog 28 = some false := by kernel_rfl
theorem agg3 : aggT Try.prog 3 = some false := by kernel_rfl
theorem agg30 : aggT Try.prog 30 = some true := by kernel_rfl
theorem agg32 : aggT Try.prog 32 = some true := by kernel_rfl
theorem agg37 : aggT Try.prog 37 = some true := by kernel_rfl
theorem agg4 : aggT Try.prog 4 = some false := by kernel_rfl
theorem agg79 : aggT Try.prog 79 = some false := by kernel_rfl
theorem eg24 : Try.prog.eqGuardType Try.prog.depth 24 = false := by kernel_rfl
theorem el28 : elemT Try.prog 28 = some (106, 1) := by kernel_rfl
theorem el61 : elemT Try.prog 61 = some (22, 1) := by kernel_rfl
theorem el62 : elemT Try.prog 62 = some (24, 2) := by kernel_rfl
theorem el69 : elemT Try.prog 69 = some (37, 6) := by kernel_rfl
theorem el79 : elemT Try.prog 79 = some (22, 1) := by kernel_rfl
theorem eq24 (a0 : Nat) (a1 : Nat) (b0 : Nat) (b1 : Nat) : eqT Try.prog 9 24 [.float .f64 a0, .float .f64 a1] [.float .f64 b0, .float .f64 b1] = some (feq a0 b0 && (feq a1 b1 && true)) := by kernel_rfl
theorem fo123_0 : fieldOff Try.prog 123 0 = some 0 := by kernel_rfl
theorem fo123_1 : fieldOff Try.prog 123 1 = some 1 := by kernel_rfl
theorem fo123_2 : fieldOff Try.prog 123 2 = some 2 := by kernel_rfl
theorem fo24_0 : fieldOff Try.prog 24 0 = some 0 := by kernel_rfl
theorem fo24_1 : fieldOff Try.prog 24 1 = some 1 := by kernel_rfl
theorem fo30_0 : fieldOff Try.prog 30 0 = some 0 := by kernel_rfl
theorem fo30_1 : fieldOff Try.prog 30 1 = some 1 := by kernel_rfl
theorem fo32_0 : fieldOff Try.prog 32 0 = some 0 := by kernel_rfl
theorem fo32_1 : fieldOff Try.prog 32 1 = some 2 := by kernel_rfl
theorem fo37_0 : fieldOff Try.prog 37 0 = some 0 := by kernel_rfl
theorem fo37_1 : fieldOff Try.prog 37 1 = some 3 := by kernel_rfl
theorem idle66 (vs : Array Value) (w : World) (h : vs.size = 2) : CallsD Try.prog 66 vs .returning w fun e u' w' => e = .returned (.tuple #[]) ∧ u' = .returning ∧ w' = w := by
  obtain ⟨x0, x1, rfl⟩ : ∃ x0 x1, vs = #[x0, x1] := by
    obtain ⟨l⟩ := vs
    match l, h with
    | [x0, x1], _ => exact ⟨x0, x1, rfl⟩
  refine callsD_of_wpS Try.func66 rfl fun c₀ cs hu => ?_
  apply wpS_seq
  apply wpS_region
  simp [wpOpsS, go_sem, recoverD, hu, Try.ntmps66, Exit.thenS]
  refine wpS_cond (t := false) (by simp [Act.eval, Array.replicate]) ?_
  simp only [Bool.false_eq_true, if_false]
  refine wpS_of_wp (wp_skip ?_)
  cases c₀
  simp_all [bodyPostS, results, Try.results66]
theorem info106 : (Try.prog.info? 106).map (fun i => (i.zero, i.size, i.bytes)) = some (some (.int .u32 0), 1, 4) := by kernel_rfl
theorem info24 : (Try.prog.info? 24).map (fun i => (i.zero, i.size, i.bytes)) = some (some (.agg #[.float .f64 0, .float .f64 0]), 2, 16) := by kernel_rfl
theorem info37 : (Try.prog.info? 37).map (fun i => (i.zero, i.size, i.bytes)) = some (some (.agg #[.bool false, .slice none 0 0, .int .i64 0, .bool false, .slice none 0 0, .int .i64 0]), 6, 80) := by kernel_rfl
theorem mixed : Try.prog.follows .mixedOrders = true := by kernel_rfl
def pl123 : Nat → Option (Nat × Nat) := fun i => ([(0, 1), (1, 1), (2, 1)] : List (Nat × Nat))[i]?
theorem places123 : placesT Try.prog 123 = some pl123 := by kernel_rfl
def pl24 : Nat → Option (Nat × Nat) := fun i => ([(0, 1), (1, 1)] : List (Nat × Nat))[i]?
theorem places24 : placesT Try.prog 24 = some pl24 := by kernel_rfl
def pl30 : Nat → Option (Nat × Nat) := fun i => ([(0, 1), (1, 1)] : List (Nat × Nat))[i]?
theorem places30 : placesT Try.prog 30 = some pl30 := by kernel_rfl
def pl32 : Nat → Option (Nat × Nat) := fun i => ([(0, 2), (2, 1)] : List (Nat × Nat))[i]?
theorem places32 : placesT Try.prog 32 = some pl32 := by kernel_rfl
def pl37 : Nat → Option (Nat × Nat) := fun i => ([(0, 3), (3, 3)] : List (Nat × Nat))[i]?
theorem places37 : placesT Try.prog 37 = some pl37 := by kernel_rfl
theorem size106 : sizeT Try.prog 106 = some 1 := by kernel_rfl
theorem size123 : sizeT Try.prog 123 = some 3 := by kernel_rfl
theorem size24 : sizeT Try.prog 24 = some 2 := by kernel_rfl
theorem size3 : sizeT Try.prog 3 = some 1 := by kernel_rfl
theorem size30 : sizeT Try.prog 30 = some 2 := by kernel_rfl
theorem size32 : sizeT Try.prog 32 = some 3 := by kernel_rfl
theorem size37 : sizeT Try.prog 37 = some 6 := by kernel_rfl
theorem size4 : sizeT Try.prog 4 = some 1 := by kernel_rfl
theorem zero106 : (Try.prog.info? 106).map (·.zero) = some (some (.int .u32 0)) := by kernel_rfl
theorem zero123 : (Try.prog.info? 123).map (·.zero) = some (some (.agg #[.slice none 0 0, .int .i64 0, .bool false])) := by kernel_rfl
theorem zero22 : (Try.prog.info? 22).map (·.zero) = some (some (.float .f64 0)) := by kernel_rfl
theorem zero24 : (Try.prog.info? 24).map (·.zero) = some (some (.agg #[.float .f64 0, .float .f64 0])) := by kernel_rfl
theorem zero30 : (Try.prog.info? 30).map (·.zero) = some (some (.agg #[.bool false, .slice none 0 0])) := by kernel_rfl
theorem zero32 : (Try.prog.info? 32).map (·.zero) = some (some (.agg #[.bool false, .slice none 0 0, .int .i64 0])) := by kernel_rfl
theorem zero37 : (Try.prog.info? 37).map (·.zero) = some (some (.agg #[.bool false, .slice none 0 0, .int .i64 0, .bool false, .slice none 0 0, .int .i64 0])) := by kernel_rfl
theorem zero4 : (Try.prog.info? 4).map (·.zero) = some (some (.bool false)) := by kernel_rfl
set_option maxRecDepth 100000 in
set_option maxHeartbeats 1000000 in
/-- pub-orthodrome/spec.Stride -/
theorem w_Stride (a0 : Int) (r0 : Int) (h0 : p_Stride a0 = some r0) : FnD Try.prog 65 [di .i64 a0] (fun r => r = di .i64 r0) := by
  refine FnD.of (by kernel_rfl) Try.func65 rfl Try.ntmps65 rfl (leb rfl) fun W ok => ?_
  unfold p_Stride at h0
  refine AC.seq ?_
  refine AC.region ?_
  refine AO.op rfl (AOp.assign rfl rfl (ltb rfl) rfl ?_)
  refine AO.nil ?_
  change AC _ _ _ _
  refine AC.seq ?_
  refine AC.block ?_
  refine AC.seq ?_
  refine AC.region ?_
  refine AO.op rfl (AOp.move rfl rfl (ltb rfl) rfl ?_)
  refine AO.op rfl (AOp.ilss rfl rfl (ltb rfl) rfl rfl ?_)
  refine AO.op rfl (AOp.assign rfl rfl (ltb rfl) rfl ?_)
  refine AO.nil ?_
  change AC _ _ _ _
  refine AC.cond rfl (fun q1 => ?_) (fun q1 => ?_)
  · replace h0 := cT h0 q1
    refine AC.seq ?_
    refine AC.region ?_
    refine AO.op rfl (AOp.assign rfl rfl (ltb rfl) rfl ?_)
    refine AO.nil ?_
    change AC _ _ _ _
    refine AC.ret ?_
    change RetQ _ _ _ .ret _
    obtain rfl := Option.some.inj h0
    refine retq rfl rfl
  replace h0 := cF h0 q1
  refine AC.seq ?_
  refine AC.region ?_
  refine AO.op rfl (AOp.move rfl rfl (ltb rfl) rfl ?_)
  refine AO.op rfl (AOp.ieql rfl rfl (ltb rfl) rfl rfl ?_)
  refine AO.op rfl (AOp.assign rfl rfl (ltb rfl) rfl ?_)
  refine AO.nil ?_
  change AC _ _ _ _
  refine AC.cond rfl (fun q2 => ?_) (fun q2 => ?_)
  · replace h0 := cT h0 q2
    refine AC.seq ?_
    refine AC.region ?_
    refine AO.op rfl (AOp.assign rfl rfl (ltb rfl) rfl ?_)
    refine AO.nil ?_
    change AC _ _ _ _
    refine AC.ret ?_
    change RetQ _ _ _ .ret _
    obtain rfl := Option.some.inj h0
    refine retq rfl rfl
  replace h0 := cF h0 q2
  refine AC.seq ?_
  refine AC.region ?_
  refine AO.op rfl (AOp.move rfl rfl (ltb rfl) rfl ?_)
  refine AO.op rfl (AOp.ieql rfl rfl (ltb rfl) rfl rfl ?_)
  refine AO.op rfl (AOp.move rfl rfl (ltb rfl) rfl ?_)
  refine AO.dec (decide (a0 = (2 : Int))) (fun q3 => ?_) (fun q3 => ?_)
  · replace h0 := cT h0 q3
    refine AO.guardN rfl rfl rfl (ltb rfl) rfl q3 ?_
    refine AO.guardN rfl rfl rfl (ltb rfl) rfl q3 ?_
    refine AO.op rfl (AOp.pick rfl rfl (ltb rfl) rfl q3 rfl ?_)
    refine AO.op rfl (AOp.assign rfl rfl (ltb rfl) rfl ?_)
    refine AO.nil ?_
    change AC _ _ _ _
    refine AC.condT rfl rfl ?_
    refine AC.seq ?_
    refine AC.region ?_
    refine AO.op rfl (AOp.assign rfl rfl (ltb rfl) rfl ?_)
    refine AO.nil ?_
    change AC _ _ _ _
    refine AC.ret ?_
    change RetQ _ _ _ .ret _
    obtain rfl := Option.some.inj h0
    refine retq rfl rfl
  replace h0 := cF h0 q3
  refine AO.guardY rfl rfl rfl q3 (AOp.move rfl rfl (ltb rfl) rfl ?_)
  refine AO.guardY rfl rfl rfl q3 (AOp.ieql rfl rfl (ltb rfl) rfl rfl ?_)
  refine AO.op rfl (AOp.pickN rfl rfl (ltb rfl) rfl q3 rfl ?_)
  refine AO.op rfl (AOp.assign rfl rfl (ltb rfl) rfl ?_)
  refine AO.nil ?_
  change AC _ _ _ _
  refine AC.cond rfl (fun q4 => ?_) (fun q4 => ?_)
  · replace h0 := cT h0 q4
    refine AC.seq ?_
    refine AC.region ?_
    refine AO.op rfl (AOp.assign rfl rfl (ltb rfl) rfl ?_)
    refine AO.nil ?_
    change AC _ _ _ _
    refine AC.ret ?_
    change RetQ _ _ _ .ret _
    obtain rfl := Option.some.inj h0
    refine retq rfl rfl
  replace h0 := cF h0 q4
  refine AC.skip ?_
  change AC _ _ _ _
  refine AC.seq ?_
  refine AC.region ?_
  refine AO.op rfl (AOp.move rfl rfl (ltb rfl) rfl ?_)
  refine AO.op rfl (AOp.assign rfl rfl (ltb rfl) rfl ?_)
  refine AO.nil ?_
  change AC _ _ _ _
  refine AC.ret ?_
  change RetQ _ _ _ .ret _
  obtain rfl := Option.some.inj h0
  refine retq rfl rfl

open Flt (truncD okF inR K20)
def notNan (x : Nat) : Prop := (FloatKind.f64.decode x).isNaN = false
def truncS (x : Nat) (d : Ieee.Datum) : Sem Value :=
  match d with
  | .nan s t =>
    if FloatKind.f64.format.quiet t = t then pure (.float .f64 x) else do
      let kept ← choose (.extern "math.Floor,Ceil,Trunc,RoundToEven.signallingNaN kept" 2)
      pure (.float .f64 (if kept == 1 then x else FloatKind.f64.encode (.nan s (FloatKind.f64.format.quiet t))))
  | d => pure (.float .f64 (FloatKind.f64.encode (d.integral .zero)))
theorem run_trunc (P : Program) (x : Nat) (h : notNan x) (w : World) : (Extern.MathFloor.toIntegral "math.archTrunc" .zero #[.float .f64 x]).run P w = .ok (.float .f64 (truncD x)) w := by
  unfold notNan at h
  have e : Extern.MathFloor.toIntegral "math.archTrunc" .zero #[.float .f64 x] = truncS x (FloatKind.f64.decode x) := rfl
  have e2 : ∀ d : Ieee.Datum, d.isNaN = false → truncS x d = pure (.float .f64 (FloatKind.f64.encode (d.integral .zero))) := by
    intro d hd
    cases d with
    | nan s t => cases hd
    | number s m e => rfl
    | infinity s => rfl
  rw [e, e2 _ h]
  rfl

theorem callTrunc (x : Nat) (h : notNan x) (w : World) : (callFunc 87 #[.float .f64 x]).run Try.prog w = .ok (.value (.float .f64 (truncD x))) w := by
  rw [run_callFunc_extern Try.func87 (by kernel_rfl) (by kernel_rfl) (by kernel_rfl) (e := Extern.MathFloor.toIntegral "math.archTrunc" .zero) (by kernel_rfl), run_trunc Try.prog x h]
  rfl

theorem inR_nn (m x : Nat) (h : fle x m = true) : notNan x := by
  unfold fle at h
  unfold notNan
  unfold Ieee.Format.order at h
  show (Ieee.double.read x).isNaN = false
  generalize Ieee.double.read x = d at *
  cases d with
  | nan s t => simp [Ieee.Datum.order] at h
  | number s m e => rfl
  | infinity s => rfl

set_option maxRecDepth 100000 in
/-- math.Trunc -/
theorem trunc (x : Nat) (h : notNan x) : FnD Try.prog 70 [dfl x] (fun r => r = dfl (truncD x)) := by
  refine FnD.of (by kernel_rfl) Try.func70 rfl Try.ntmps70 rfl (leb rfl) fun W ok => ?_
  refine AC.seq ?_
  refine AC.region ?_
  refine AO.op rfl (AOp.assign rfl rfl (ltb rfl) rfl ?_)
  refine AO.nil ?_
  change AC _ _ _ _
  refine AC.seq ?_
  refine AC.condT rfl rfl ?_
  refine AC.seq ?_
  refine AC.region ?_
  refine AO.op rfl (AOp.move rfl rfl (ltb rfl) rfl ?_)
  refine AO.op rfl (AOp.callX [.float .f64 x] rfl rfl (ltb rfl) rfl (callTrunc x h) ?_)
  refine AO.op rfl (AOp.assign rfl rfl (ltb rfl) rfl ?_)
  refine AO.nil ?_
  change AC _ _ _ _
  refine AC.ret ?_
  change RetQ _ _ _ .ret _
  refine retq rfl ?_
  exact rfl

theorem notNan_of {x : Nat} (h : Flt.isNan x = false) : notNan x := h
theorem callTruncA (x : Nat) (h : Flt.isNan x = true) (w : World) : ∃ r w', (callFunc 87 #[.float .f64 x]).run Try.prog w = .ok (.value r) w' ∧ (w' = w ∨ w' = w.drew) ∧ ∃ z, r = .float .f64 z ∧ Flt.isNan z = true := by
  obtain ⟨r, w', h1, h2, h3⟩ := Flt.run_truncA Try.prog x h w
  refine ⟨r, w', ?_, h2, h3⟩
  rw [run_callFunc_extern Try.func87 (by kernel_rfl) (by kernel_rfl) (by kernel_rfl) (e := Extern.MathFloor.toIntegral "math.archTrunc" .zero) (by kernel_rfl), h1]
  rfl
set_option maxRecDepth 100000 in
theorem truncNN (x : Nat) (h : Flt.isNan x = true) : FnD Try.prog 70 [dfl x] (fun r => ∃ z, r = dfl z ∧ Flt.isNan z = true) := by
  refine FnD.of (by kernel_rfl) Try.func70 rfl Try.ntmps70 rfl (leb rfl) fun W ok => ?_
  refine AC.seq ?_
  refine AC.region ?_
  refine AO.op rfl (AOp.assign rfl rfl (ltb rfl) rfl ?_)
  refine AO.nil ?_
  change AC _ _ _ _
  refine AC.seq ?_
  refine AC.condT rfl rfl ?_
  refine AC.seq ?_
  refine AC.region ?_
  refine AO.op rfl (AOp.move rfl rfl (ltb rfl) rfl ?_)
  refine AO.op rfl (AOp.callXA [.float .f64 x] rfl rfl (ltb rfl) rfl (callTruncA x h) ?_)
  rintro _ ⟨z, rfl, hz⟩
  refine AO.op rfl (AOp.assign rfl rfl (ltb rfl) rfl ?_)
  refine AO.nil ?_
  change AC _ _ _ _
  refine AC.ret ?_
  change RetQ _ _ _ .ret _
  refine retq rfl ?_
  exact ⟨z, rfl, hz⟩

theorem truncA (x : Nat) : FnD Try.prog 70 [dfl x] (fun r => ∃ z, r = dfl z ∧ Flt.TruncR x z) := by
  cases h : Flt.isNan x with
  | false => exact (trunc x h).mono fun r hr => ⟨_, hr, fun _ => rfl, fun h2 => by rw [h] at h2; cases h2⟩
  | true => exact (truncNN x h).mono fun r ⟨z, h1, h2⟩ => ⟨z, h1, fun h3 => by (rw [h] at h3; cases h3), fun _ => h2⟩

theorem callBitsA (x : Nat) (w : World) : (callFunc 71 #[.float .f64 x]).run Try.prog w = .ok (.value (.int .u64 x)) w := by
  rw [run_callFunc_extern Try.func71 (by kernel_rfl) (by kernel_rfl) (by kernel_rfl) (e := Extern.MathFloatBits.float64bits) (by kernel_rfl), run_f64bits Try.prog x]
  rfl
theorem callFromBitsA (x : Nat) (w : World) : (callFunc 76 #[.int .u64 x]).run Try.prog w = .ok (.value (.float .f64 x)) w := by
  rw [run_callFunc_extern Try.func76 (by kernel_rfl) (by kernel_rfl) (by kernel_rfl) (e := Extern.MathFloatBits.float64frombits) (by kernel_rfl), run_f64frombits Try.prog x]
  rfl

set_option maxRecDepth 100000 in
/-- math.Abs -/
theorem mathAbs (x : Nat) : FnD Try.prog 47 [dfl x] (fun r => r = dfl (Flt.fabs x)) := by
  refine FnD.of (by kernel_rfl) Try.func47 rfl Try.ntmps47 rfl (leb rfl) fun W ok => ?_
  refine AC.seq ?_
  refine AC.region ?_
  refine AO.op rfl (AOp.assign rfl rfl (ltb rfl) rfl ?_)
  refine AO.nil ?_
  change AC _ _ _ _
  refine AC.seq ?_
  refine AC.region ?_
  refine AO.op rfl (AOp.move rfl rfl (ltb rfl) rfl ?_)
  refine AO.op rfl (AOp.callX [.float .f64 x] rfl rfl (ltb rfl) rfl (callBitsA x) ?_)
  refine AO.op rfl (AOp.ibits (by simp) rfl rfl (ltb rfl) rfl rfl (andNot_abs x) ?_)
  refine AO.op rfl (AOp.callX [.int .u64 ((Flt.fabs x : Nat) : Int)] rfl rfl (ltb rfl) rfl (callFromBitsA _) ?_)
  refine AO.op rfl (AOp.assign rfl rfl (ltb rfl) rfl ?_)
  refine AO.nil ?_
  change AC _ _ _ _
  refine AC.ret ?_
  change RetQ _ _ _ .ret _
  refine retq rfl ?_
  exact rfl

set_option maxRecDepth 100000 in
set_option maxHeartbeats 1000000 in
/-- pub-orthodrome/laws.wholeTo -/
theorem w_wholeTo (F : Nat) (a0 : Nat) (a1 : (List Nat)) (r0 : Bool) (h0 : p_wholeTo F a0 a1 = some r0) : FnD Try.prog 34 [dfl a0, eS0 a1] (fun r => r = dbool r0) := by
  refine FnD.of (by kernel_rfl) Try.func34 rfl Try.ntmps34 rfl (leb rfl) fun W ok => ?_
  unfold p_wholeTo at h0
  refine AC.seq ?_
  refine AC.region ?_
  refine AO.op rfl (AOp.assign rfl rfl (ltb rfl) rfl ?_)
  refine AO.nil ?_
  change AC _ _ _ _
  refine AC.seq ?_
  refine AC.seq ?_
  refine AC.region ?_
  refine AO.op rfl (AOp.move rfl rfl (ltb rfl) rfl ?_)
  refine AO.op rfl (AOp.lenDs (n := a1.length) (cells := (List.map keS0 a1)) rfl rfl (ltb rfl) rfl el61 (by decide) (len1 _ _) ?_)
  refine AO.op rfl (AOp.move rfl rfl (ltb rfl) rfl ?_)
  refine AO.nil ?_
  change AC _ _ _ _
  obtain ⟨o1, l2, h0⟩ := bind_elim h0
  refine AC.joinE (V := Unit) [] [] 0 (fun g3 => []) (fun g3 => []) (fun g3 => p_wholeTo_k1 g3 = some r0) rfl ?_ ?_
  · refine AC.block ?_
    refine AC.loopP (V := Int) (p_wholeTo_l2 a0 a1) o1 [0, 7, 8] [9] 0 (fun g4 => [(9, .d (di .i64 g4))]) (fun g4 => []) F (0 : Int) l2 rfl rfl (LeL.refl _) rfl rfl ?_
    intro n6 g4 h1
    unfold p_wholeTo_l2 at h1
    refine AC.seq ?_
    refine AC.region ?_
    refine AO.op rfl (AOp.ilss rfl rfl (ltb rfl) rfl rfl ?_)
    refine AO.nil ?_
    change AC _ _ _ _
    refine AC.seq ?_
    refine AC.cond rfl (fun q7 => ?_) (fun q7 => ?_)
    · replace h1 := cT h1 q7
      refine AC.skip ?_
      change AC _ _ _ _
      refine AC.seq ?_
      refine AC.block ?_
      refine AC.seq ?_
      refine AC.region ?_
      obtain ⟨x8, q9, h1⟩ := idx_elim h1
      refine AO.op rfl (AOp.indexDs (cells := (List.map keS0 a1)) rfl rfl (ltb rfl) rfl rfl el61 (by decide) q9.1 (lt1 q9.2) ?_)
      refine AO.op rfl (AOp.loadEp rfl rfl (ltb rfl) rfl agg22 (at1 q9.2) ?_)
      refine AO.op rfl (AOp.assign rfl rfl (ltb rfl) rfl ?_)
      refine AO.nil ?_
      change AC _ _ _ _
      refine AC.seq ?_
      refine AC.region ?_
      refine AO.op rfl (AOp.move rfl rfl (ltb rfl) rfl ?_)
      refine AO.op rfl (AOp.move rfl rfl (ltb rfl) rfl ?_)
      refine AO.op rfl (AOp.callD rfl rfl (ltb rfl) rfl rfl (truncA x8) ?_)
      rintro _ ⟨z10, rfl, hz11⟩
      refine AO.op rfl (AOp.fneq rfl rfl (ltb rfl) rfl rfl ?_)
      rw [hz11.feq]
      refine AO.op rfl (AOp.move rfl rfl (ltb rfl) rfl ?_)
      refine AO.dec (!feq x8 (Flt.truncN x8)) (fun q12 => ?_) (fun q12 => ?_)
      · replace h1 := cT h1 q12
        refine AO.guardN rfl rfl rfl (ltb rfl) rfl q12 ?_
        refine AO.guardN rfl rfl rfl (ltb rfl) rfl q12 ?_
        refine AO.guardN rfl rfl rfl (ltb rfl) rfl q12 ?_
        refine AO.guardN rfl rfl rfl (ltb rfl) rfl q12 ?_
        refine AO.op rfl (AOp.pick rfl rfl (ltb rfl) rfl q12 rfl ?_)
        refine AO.nil ?_
        change AC _ _ _ _
        refine AC.condT rfl rfl ?_
        refine AC.seq ?_
        refine AC.region ?_
        refine AO.op rfl (AOp.assign rfl rfl (ltb rfl) rfl ?_)
        refine AO.nil ?_
        change AC _ _ _ _
        refine AC.ret ?_
        change RetQ _ _ _ .ret _
        obtain rfl := Option.some.inj h1
        replace h0 := aftR h0
        obtain rfl := Option.some.inj h0
        refine retq rfl rfl
      replace h1 := cF h1 q12
      refine AO.guardY rfl rfl rfl q12 (AOp.move rfl rfl (ltb rfl) rfl ?_)
      refine AO.guardY rfl rfl rfl q12 (AOp.callD rfl rfl (ltb rfl) rfl rfl (mathAbs x8) ?_)
      rintro _ rfl
      refine AO.guardY rfl rfl rfl q12 (AOp.move rfl rfl (ltb rfl) rfl ?_)
      refine AO.guardY rfl rfl rfl q12 (AOp.fgtr rfl rfl (ltb rfl) rfl rfl ?_)
      refine AO.op rfl (AOp.pickN rfl rfl (ltb rfl) rfl q12 rfl ?_)
      refine AO.nil ?_
      change AC _ _ _ _
      refine AC.cond rfl (fun q13 => ?_) (fun q13 => ?_)
      · replace h1 := cT h1 q13
        refine AC.seq ?_
        refine AC.region ?_
        refine AO.op rfl (AOp.assign rfl rfl (ltb rfl) rfl ?_)
        refine AO.nil ?_
        change AC _ _ _ _
        refine AC.ret ?_
        change RetQ _ _ _ .ret _
        obtain rfl := Option.some.inj h1
        replace h0 := aftR h0
        obtain rfl := Option.some.inj h0
        refine retq rfl rfl
      replace h1 := cF h1 q13
      refine AC.skip ?_
      change AC _ _ _ _
      refine AC.region ?_
      obtain ⟨q14, h1⟩ := need_elim h1
      refine AO.op rfl (AOp.iadd rfl rfl (ltb rfl) rfl rfl rfl q14.1 q14.2 ?_)
      refine AO.op rfl (AOp.move rfl rfl (ltb rfl) rfl ?_)
      refine AO.nil ?_
      exact ⟨(g4 + (1 : Int)), _, rfl, (LeL.refl _), rfl, rfl, h1⟩
    replace h1 := cF h1 q7
    refine AC.exit ?_
    obtain rfl := Option.some.inj h1
    exact ⟨(), _, rfl, (LeL.refl _), rfl, rfl, aftL h0⟩
  intro g3 h0
  unfold p_wholeTo_k1 at h0
  change AC _ _ _ _
  refine AC.seq ?_
  refine AC.region ?_
  refine AO.op rfl (AOp.assign rfl rfl (ltb rfl) rfl ?_)
  refine AO.nil ?_
  change AC _ _ _ _
  refine AC.ret ?_
  change RetQ _ _ _ .ret _
  obtain rfl := Option.some.inj h0
  refine retq rfl rfl

set_option maxRecDepth 100000 in
set_option maxHeartbeats 1000000 in
/-- pub-orthodrome/laws.planeTo -/
theorem w_planeTo (F : Nat) (a0 : Nat) (a1 : (List TImpl_P2)) (r0 : Bool) (h0 : p_planeTo F a0 a1 = some r0) : FnD Try.prog 8 [dfl a0, eS1 a1] (fun r => r = dbool r0) := by
  refine FnD.of (by kernel_rfl) Try.func8 rfl Try.ntmps8 rfl (leb rfl) fun W ok => ?_
  unfold p_planeTo at h0
  refine AC.seq ?_
  refine AC.region ?_
  refine AO.op rfl (AOp.assign rfl rfl (ltb rfl) rfl ?_)
  refine AO.nil ?_
  change AC _ _ _ _
  refine AC.seq ?_
  refine AC.seq ?_
  refine AC.region ?_
  refine AO.op rfl (AOp.move rfl rfl (ltb rfl) rfl ?_)
  refine AO.op rfl (AOp.lenDs (n := a1.length) (cells := (List.flatMap c_TImpl_P2 a1)) rfl rfl (ltb rfl) rfl el62 (by decide) (lenN _ 2 (fun _ => rfl) _) ?_)
  refine AO.op rfl (AOp.move rfl rfl (ltb rfl) rfl ?_)
  refine AO.nil ?_
  change AC _ _ _ _
  obtain ⟨o1, l2, h0⟩ := bind_elim h0
  refine AC.joinE (V := Unit) [] [] 0 (fun g3 => []) (fun g3 => []) (fun g3 => p_planeTo_k1 g3 = some r0) rfl ?_ ?_
  · refine AC.block ?_
    refine AC.loopP (V := Int) (p_planeTo_l2 a0 a1 F) o1 [0, 7, 8] [9] 0 (fun g4 => [(9, .d (di .i64 g4))]) (fun g4 => []) F (0 : Int) l2 rfl rfl (LeL.refl _) rfl rfl ?_
    intro n6 g4 h1
    unfold p_planeTo_l2 at h1
    refine AC.seq ?_
    refine AC.region ?_
    refine AO.op rfl (AOp.ilss rfl rfl (ltb rfl) rfl rfl ?_)
    refine AO.nil ?_
    change AC _ _ _ _
    refine AC.seq ?_
    refine AC.cond rfl (fun q7 => ?_) (fun q7 => ?_)
    · replace h1 := cT h1 q7
      refine AC.skip ?_
      change AC _ _ _ _
      refine AC.seq ?_
      refine AC.block ?_
      refine AC.seq ?_
      refine AC.region ?_
      obtain ⟨x8, q9, h1⟩ := idx_elim h1
      refine AO.op rfl (AOp.indexDs (cells := (List.flatMap c_TImpl_P2 a1)) rfl rfl (ltb rfl) rfl rfl el62 (by decide) q9.1 (ltN 2 (fun _ => rfl) (by decide) q9.2) ?_)
      refine AO.op rfl (AOp.loadEpN rfl rfl (ltb rfl) rfl agg24 size24 (leN 2 (fun _ => rfl) q9.2) (atN 2 (fun _ => rfl) q9.2) ?_)
      refine AO.op rfl (AOp.alloc rfl rfl (ltb rfl) zero24 rfl ?_)
      refine AO.op rfl (AOp.store rfl rfl rfl rfl size24 rfl rfl rfl (leb rfl) ?_)
      refine AO.nil ?_
      change AC _ _ _ _
      refine AC.seq ?_
      refine AC.region ?_
      refine AO.op rfl (AOp.move rfl rfl (ltb rfl) rfl ?_)
      refine AO.op rfl (AOp.fieldAddr rfl rfl (ltb rfl) rfl fo24_0 ?_)
      refine AO.op rfl (AOp.load1 rfl rfl (ltb rfl) rfl agg22 rfl rfl ?_)
      refine AO.op rfl (AOp.fieldAddr rfl rfl (ltb rfl) rfl fo24_1 ?_)
      refine AO.op rfl (AOp.load1 rfl rfl (ltb rfl) rfl agg22 rfl rfl ?_)
      refine AO.op rfl (AOp.buildSliceD rfl rfl (ltb rfl) el61 zero22 rfl (leb rfl) rfl rfl rfl rfl ?_)
      obtain ⟨y10, q11, h1⟩ := bind_elim h1
      refine AO.op rfl (AOp.callD rfl rfl (ltb rfl) rfl rfl (w_wholeTo F a0 [x8.X, x8.Y] y10 q11) ?_)
      rintro _ rfl
      refine AO.op rfl (AOp.bnot rfl rfl (ltb rfl) rfl ?_)
      refine AO.nil ?_
      change AC _ _ _ _
      refine AC.cond rfl (fun q12 => ?_) (fun q12 => ?_)
      · replace h1 := cT h1 q12
        refine AC.seq ?_
        refine AC.region ?_
        refine AO.op rfl (AOp.assign rfl rfl (ltb rfl) rfl ?_)
        refine AO.nil ?_
        change AC _ _ _ _
        refine AC.ret ?_
        change RetQ _ _ _ .ret _
        obtain rfl := Option.some.inj h1
        replace h0 := aftR h0
        obtain rfl := Option.some.inj h0
        refine retq rfl rfl
      replace h1 := cF h1 q12
      refine AC.skip ?_
      change AC _ _ _ _
      refine AC.region ?_
      obtain ⟨q13, h1⟩ := need_elim h1
      refine AO.op rfl (AOp.iadd rfl rfl (ltb rfl) rfl rfl rfl q13.1 q13.2 ?_)
      refine AO.op rfl (AOp.move rfl rfl (ltb rfl) rfl ?_)
      refine AO.nil ?_
      exact ⟨(g4 + (1 : Int)), _, rfl, (LeL.refl _), rfl, rfl, h1⟩
    replace h1 := cF h1 q7
    refine AC.exit ?_
    obtain rfl := Option.some.inj h1
    exact ⟨(), _, rfl, (LeL.refl _), rfl, rfl, aftL h0⟩
  intro g3 h0
  unfold p_planeTo_k1 at h0
  change AC _ _ _ _
  refine AC.seq ?_
  refine AC.region ?_
  refine AO.op rfl (AOp.assign rfl rfl (ltb rfl) rfl ?_)
  refine AO.nil ?_
  change AC _ _ _ _
  refine AC.ret ?_
  change RetQ _ _ _ .ret _
  obtain rfl := Option.some.inj h0
  refine retq rfl rfl

set_option maxRecDepth 100000 in
set_option maxHeartbeats 1000000 in
/-- pub-orthodrome/laws.flatTo -/
theorem w_flatTo (F : Nat) (a0 : Int) (a1 : (List Nat)) (a2 : Nat) (a3 : Int) (r0 : ((List TImpl_P2) × Bool)) (h0 : p_flatTo F a0 a1 a2 a3 = some r0) : FnD Try.prog 29 [di .i64 a0, eS0 a1, dfl a2, di .i64 a3] (fun r => r = .tu [eS1 r0.1, dbool r0.2]) := by
  refine FnD.of (by kernel_rfl) Try.func29 rfl Try.ntmps29 rfl (leb rfl) fun W ok => ?_
  unfold p_flatTo at h0
  refine AC.seq ?_
  refine AC.region ?_
  refine AO.op rfl (AOp.assign rfl rfl (ltb rfl) rfl ?_)
  refine AO.op rfl (AOp.assign rfl rfl (ltb rfl) rfl ?_)
  refine AO.nil ?_
  change AC _ _ _ _
  refine AC.seq ?_
  refine AC.joinP (V := Bool) [0, 1, 2, 3, 8] [17] 0 (fun g1 => [(17, .d (dbool g1))]) (fun g1 => []) (fun g1 => (p_flatTo_k1 a0 a1 a2 a3 F) g1 = some r0) rfl ?_ ?_
  · refine AC.region ?_
    refine AO.op rfl (AOp.move rfl rfl (ltb rfl) rfl ?_)
    refine AO.op rfl (AOp.ilss rfl rfl (ltb rfl) rfl rfl ?_)
    refine AO.op rfl (AOp.move rfl rfl (ltb rfl) rfl ?_)
    refine AO.dec (decide (a0 < (1 : Int))) (fun q26 => ?_) (fun q26 => ?_)
    · replace h0 := cT h0 q26
      refine AO.guardN rfl rfl rfl (ltb rfl) rfl q26 ?_
      refine AO.guardN rfl rfl rfl (ltb rfl) rfl q26 ?_
      refine AO.op rfl (AOp.pick rfl rfl (ltb rfl) rfl q26 rfl ?_)
      refine AO.nil ?_
      exact ⟨true, _, rfl, (LeL.refl _), rfl, rfl, h0⟩
    replace h0 := cF h0 q26
    refine AO.guardY rfl rfl rfl q26 (AOp.move rfl rfl (ltb rfl) rfl ?_)
    refine AO.guardY rfl rfl rfl q26 (AOp.igtr rfl rfl (ltb rfl) rfl rfl ?_)
    refine AO.op rfl (AOp.pickN rfl rfl (ltb rfl) rfl q26 rfl ?_)
    refine AO.nil ?_
    exact ⟨(decide ((8 : Int) < a0)), _, rfl, (LeL.refl _), rfl, rfl, h0⟩
  intro g1 h0
  unfold p_flatTo_k1 at h0
  refine AC.cond rfl (fun q2 => ?_) (fun q2 => ?_)
  · replace h0 := cT h0 q2
    refine AC.seq ?_
    refine AC.region ?_
    refine AO.op rfl (AOp.assign rfl rfl (ltb rfl) rfl ?_)
    refine AO.op rfl (AOp.assign rfl rfl (ltb rfl) rfl ?_)
    refine AO.nil ?_
    change AC _ _ _ _
    refine AC.sub 8 rfl (SVLe.nil 2) ?_
    refine AC.ret ?_
    change RetQ _ _ _ .ret _
    obtain rfl := Option.some.inj h0
    refine retq rfl rfl
  replace h0 := cF h0 q2
  refine AC.skip ?_
  change AC _ _ _ _
  refine AC.seq ?_
  refine AC.region ?_
  refine AO.op rfl (AOp.move rfl rfl (ltb rfl) rfl ?_)
  obtain ⟨y3, q4, h0⟩ := bind_elim h0
  refine AO.op rfl (AOp.callD rfl rfl (ltb rfl) rfl rfl (w_Stride a0 y3 q4) ?_)
  rintro _ rfl
  refine AO.op rfl (AOp.assign rfl rfl (ltb rfl) rfl ?_)
  refine AO.nil ?_
  change AC _ _ _ _
  refine AC.seq ?_
  refine AC.joinP (V := Bool) [1, 2, 8, 10] [32] 0 (fun g5 => [(32, .d (dbool g5))]) (fun g5 => []) (fun g5 => (p_flatTo_k2 a1 a2 F y3) g5 = some r0) rfl ?_ ?_
  · refine AC.region ?_
    refine AO.op rfl (AOp.move rfl rfl (ltb rfl) rfl ?_)
    refine AO.op rfl (AOp.lenDs (n := a1.length) (cells := (List.map keS0 a1)) rfl rfl (ltb rfl) rfl el61 (by decide) (len1 _ _) ?_)
    refine AO.op rfl (AOp.move rfl rfl (ltb rfl) rfl ?_)
    obtain ⟨q23, h0⟩ := need_elim h0
    refine AO.op rfl (AOp.irem rfl rfl (ltb rfl) rfl rfl q23 rfl ?_)
    refine AO.op rfl (AOp.ineq rfl rfl (ltb rfl) rfl rfl ?_)
    refine AO.op rfl (AOp.move rfl rfl (ltb rfl) rfl ?_)
    refine AO.dec (!decide ((Int.tmod ((a1.length : Nat) : Int) y3) = (0 : Int))) (fun q24 => ?_) (fun q24 => ?_)
    · replace h0 := cT h0 q24
      refine AO.guardN rfl rfl rfl (ltb rfl) rfl q24 ?_
      refine AO.guardN rfl rfl rfl (ltb rfl) rfl q24 ?_
      refine AO.guardN rfl rfl rfl (ltb rfl) rfl q24 ?_
      refine AO.guardN rfl rfl rfl (ltb rfl) rfl q24 ?_
      refine AO.guardN rfl rfl rfl (ltb rfl) rfl q24 ?_
      refine AO.guardN rfl rfl rfl (ltb rfl) rfl q24 ?_
      refine AO.op rfl (AOp.pick rfl rfl (ltb rfl) rfl q24 rfl ?_)
      refine AO.nil ?_
      exact ⟨true, _, rfl, (LeL.refl _), rfl, rfl, h0⟩
    replace h0 := cF h0 q24
    refine AO.guardY rfl rfl rfl q24 (AOp.move rfl rfl (ltb rfl) rfl ?_)
    refine AO.guardY rfl rfl rfl q24 (AOp.lenDs (n := a1.length) (cells := (List.map keS0 a1)) rfl rfl (ltb rfl) rfl el61 (by decide) (len1 _ _) ?_)
    refine AO.guardY rfl rfl rfl q24 (AOp.move rfl rfl (ltb rfl) rfl ?_)
    refine AO.guardY rfl rfl rfl q24 (AOp.move rfl rfl (ltb rfl) rfl ?_)
    obtain ⟨q25, h0⟩ := need_elim h0
    refine AO.guardY rfl rfl rfl q24 (AOp.imul rfl rfl (ltb rfl) rfl rfl rfl q25.1 q25.2 ?_)
    refine AO.guardY rfl rfl rfl q24 (AOp.igtr rfl rfl (ltb rfl) rfl rfl ?_)
    refine AO.op rfl (AOp.pickN rfl rfl (ltb rfl) rfl q24 rfl ?_)
    refine AO.nil ?_
    exact ⟨(decide ((y3 * a3) < ((a1.length : Nat) : Int))), _, rfl, (LeL.refl _), rfl, rfl, h0⟩
  intro g5 h0
  unfold p_flatTo_k2 at h0
  refine AC.cond rfl (fun q6 => ?_) (fun q6 => ?_)
  · replace h0 := cT h0 q6
    refine AC.seq ?_
    refine AC.region ?_
    refine AO.op rfl (AOp.assign rfl rfl (ltb rfl) rfl ?_)
    refine AO.op rfl (AOp.assign rfl rfl (ltb rfl) rfl ?_)
    refine AO.nil ?_
    change AC _ _ _ _
    refine AC.sub 8 rfl (SVLe.nil 2) ?_
    refine AC.ret ?_
    change RetQ _ _ _ .ret _
    obtain rfl := Option.some.inj h0
    refine retq rfl rfl
  replace h0 := cF h0 q6
  refine AC.skip ?_
  change AC _ _ _ _
  refine AC.seq ?_
  refine AC.seq ?_
  refine AC.region ?_
  refine AO.op rfl (AOp.assign rfl rfl (ltb rfl) rfl ?_)
  refine AO.nil ?_
  change AC _ _ _ _
  refine AC.adopt 8 24 2 rfl ?_
  obtain ⟨o7, l8, h0⟩ := bind_elim h0
  refine AC.joinE (V := (List TImpl_P2)) [2] [8] 1 (fun g9 => [(8, .own 0)]) (fun g9 => [.grow 24 2 (List.flatMap c_TImpl_P2 g9)]) (fun g9 => (p_flatTo_k3 a2 F) g9 = some r0) rfl ?_ ?_
  · refine AC.block ?_
    refine AC.loopP (V := (Int × (List TImpl_P2))) (p_flatTo_l4 a1 y3) o7 [1, 2, 10] [8, 11] 1 (fun g12 => [(8, .own 0), (11, .d (di .i64 g12.1))]) (fun g12 => [.grow 24 2 (List.flatMap c_TImpl_P2 g12.2)]) F ((0 : Int), []) l8 rfl rfl (LeL.refl _) rfl rfl ?_
    intro n14 g12 h1
    unfold p_flatTo_l4 at h1
    refine AC.seq ?_
    refine AC.seq ?_
    refine AC.region ?_
    refine AO.op rfl (AOp.move rfl rfl (ltb rfl) rfl ?_)
    refine AO.op rfl (AOp.move rfl rfl (ltb rfl) rfl ?_)
    refine AO.op rfl (AOp.lenDs (n := a1.length) (cells := (List.map keS0 a1)) rfl rfl (ltb rfl) rfl el61 (by decide) (len1 _ _) ?_)
    refine AO.op rfl (AOp.ilss rfl rfl (ltb rfl) rfl rfl ?_)
    refine AO.nil ?_
    change AC _ _ _ _
    refine AC.cond rfl (fun q15 => ?_) (fun q15 => ?_)
    · replace h1 := cT h1 q15
      refine AC.skip ?_
      change AC _ _ _ _
      refine AC.seq ?_
      refine AC.block ?_
      refine AC.draw 12 mixed (by kernel_rfl) ?_
      refine AD.op [8] rfl (by kernel_rfl) rfl rfl (fun _ _ h => AOp.move rfl rfl (ltb rfl) rfl h) ?_
      refine AD.op [1] rfl (by kernel_rfl) rfl rfl (fun _ _ h => AOp.move rfl rfl (ltb rfl) rfl h) ?_
      refine AD.op [11] rfl (by kernel_rfl) rfl rfl (fun _ _ h => AOp.move rfl rfl (ltb rfl) rfl h) ?_
      obtain ⟨x16, q17, h1⟩ := idx_elim h1
      refine AD.op [41, 42] rfl (by kernel_rfl) rfl rfl (fun _ _ h => AOp.indexDs (cells := (List.map keS0 a1)) rfl rfl (ltb rfl) rfl rfl el61 (by decide) q17.1 (lt1 q17.2) h) ?_
      refine AD.op [43] rfl (by kernel_rfl) rfl rfl (fun _ _ h => AOp.loadEp rfl rfl (ltb rfl) rfl agg22 (at1 q17.2) h) ?_
      refine AD.op [1] rfl (by kernel_rfl) rfl rfl (fun _ _ h => AOp.move rfl rfl (ltb rfl) rfl h) ?_
      refine AD.op [11] rfl (by kernel_rfl) rfl rfl (fun _ _ h => AOp.move rfl rfl (ltb rfl) rfl h) ?_
      obtain ⟨q18, h1⟩ := need_elim h1
      refine AD.op [46] rfl (by kernel_rfl) rfl rfl (fun _ _ h => AOp.iadd rfl rfl (ltb rfl) rfl rfl rfl q18.1 q18.2 h) ?_
      obtain ⟨x19, q20, h1⟩ := idx_elim h1
      refine AD.op [45, 47] rfl (by kernel_rfl) rfl rfl (fun _ _ h => AOp.indexDs (cells := (List.map keS0 a1)) rfl rfl (ltb rfl) rfl rfl el61 (by decide) q20.1 (lt1 q20.2) h) ?_
      refine AD.op [48] rfl (by kernel_rfl) rfl rfl (fun _ _ h => AOp.loadEp rfl rfl (ltb rfl) rfl agg22 (at1 q20.2) h) ?_
      refine AD.op [44, 49] rfl (by kernel_rfl) rfl rfl (fun _ _ h => AOp.build rfl rfl (ltb rfl) zero24 rfl places24 rfl rfl h) ?_
      refine AD.op [50] rfl (by kernel_rfl) rfl rfl (fun _ _ h => AOp.buildSliceD rfl rfl (ltb rfl) el62 zero24 rfl (leb rfl) rfl rfl rfl rfl h) ?_
      refine AD.done ?_
      obtain ⟨q21, h1⟩ := need_elim h1
      refine AO.op rfl (AOp.appendOwn' (n := g12.2.length) (m := [(TImpl_P2.mk x16 x19)].length) (news := (List.flatMap c_TImpl_P2 [(TImpl_P2.mk x16 x19)])) rfl rfl (ltb rfl) rfl rfl el62 info24 rfl (by decide) rfl (lenN _ 2 (fun _ => rfl) _) (lenN _ 2 (fun _ => rfl) _) (oneN _ (fun _ => rfl) _) q21 (by decide) rfl rfl (catN _ _ _) ?_)
      refine AO.op rfl (AOp.assign rfl rfl (ltb rfl) rfl ?_)
      refine AO.nil ?_
      change AC _ _ _ _
      refine AC.region ?_
      refine AO.op rfl (AOp.move rfl rfl (ltb rfl) rfl ?_)
      refine AO.op rfl (AOp.move rfl rfl (ltb rfl) rfl ?_)
      obtain ⟨q22, h1⟩ := need_elim h1
      refine AO.op rfl (AOp.iadd rfl rfl (ltb rfl) rfl rfl rfl q22.1 q22.2 ?_)
      refine AO.op rfl (AOp.assign rfl rfl (ltb rfl) rfl ?_)
      refine AO.nil ?_
      exact ⟨((g12.1 + y3), (g12.2 ++ [(TImpl_P2.mk x16 x19)])), _, rfl, (LeL.refl _), rfl, rfl, h1⟩
    replace h1 := cF h1 q15
    refine AC.exit ?_
    obtain rfl := Option.some.inj h1
    exact ⟨g12.2, _, rfl, (LeL.refl _), rfl, rfl, aftL h0⟩
  intro g9 h0
  unfold p_flatTo_k3 at h0
  change AC _ _ _ _
  refine AC.seq ?_
  refine AC.region ?_
  refine AO.op rfl (AOp.move rfl rfl (ltb rfl) rfl ?_)
  refine AO.op rfl (AOp.move rfl rfl (ltb rfl) rfl ?_)
  refine AO.op rfl (AOp.move rfl rfl (ltb rfl) rfl ?_)
  refine AO.freezeG 0 rfl rfl rfl ?_
  obtain ⟨y10, q11, h0⟩ := bind_elim h0
  refine AO.op rfl (AOp.callD rfl rfl (ltb rfl) rfl rfl (w_planeTo F a2 g9 y10 q11) ?_)
  rintro _ rfl
  refine AO.op rfl (AOp.assign rfl rfl (ltb rfl) rfl ?_)
  refine AO.op rfl (AOp.assign rfl rfl (ltb rfl) rfl ?_)
  refine AO.nil ?_
  change AC _ _ _ _
  refine AC.ret ?_
  change RetQ _ _ _ .ret _
  obtain rfl := Option.some.inj h0
  refine retq rfl rfl

set_option maxRecDepth 100000 in
set_option maxHeartbeats 1000000 in
/-- pub-orthodrome/laws.shut -/
theorem w_shut (a0 : (List TImpl_P2)) (r0 : Bool) (h0 : p_shut a0 = some r0) : FnD Try.prog 30 [eS1 a0] (fun r => r = dbool r0) := by
  refine FnD.of (by kernel_rfl) Try.func30 rfl Try.ntmps30 rfl (leb rfl) fun W ok => ?_
  unfold p_shut at h0
  refine AC.seq ?_
  refine AC.region ?_
  refine AO.op rfl (AOp.assign rfl rfl (ltb rfl) rfl ?_)
  refine AO.nil ?_
  change AC _ _ _ _
  refine AC.seq ?_
  refine AC.draw 16 mixed (by kernel_rfl) ?_
  refine AD.op [0] rfl (by kernel_rfl) rfl rfl (fun _ _ h => AOp.move rfl rfl (ltb rfl) rfl h) ?_
  refine AD.op [3] rfl (by kernel_rfl) rfl rfl (fun _ _ h => AOp.lenDs (n := a0.length) (cells := (List.flatMap c_TImpl_P2 a0)) rfl rfl (ltb rfl) rfl el62 (by decide) (lenN _ 2 (fun _ => rfl) _) h) ?_
  refine AD.op [4] rfl (by kernel_rfl) rfl rfl (fun _ _ h => AOp.igtr rfl rfl (ltb rfl) rfl rfl h) ?_
  refine AD.op [5] rfl (by kernel_rfl) rfl rfl (fun _ _ h => AOp.move rfl rfl (ltb rfl) rfl h) ?_
  refine AD.dec (decide ((1 : Int) < ((a0.length : Nat) : Int))) (fun q1 => ?_) (fun q1 => ?_)
  · replace h0 := cT h0 q1
    refine AD.opY [0, 6] rfl rfl rfl q1 (by kernel_rfl) rfl rfl (fun _ _ h => AOp.move rfl rfl (ltb rfl) rfl h) ?_
    obtain ⟨x2, q3, h0⟩ := idx_elim h0
    refine AD.opY [6, 7] rfl rfl rfl q1 (by kernel_rfl) rfl rfl (fun _ _ h => AOp.indexDs (cells := (List.flatMap c_TImpl_P2 a0)) rfl rfl (ltb rfl) rfl rfl el62 (by decide) q3.1 (ltN 2 (fun _ => rfl) (by decide) q3.2) h) ?_
    refine AD.opY [6, 8] rfl rfl rfl q1 (by kernel_rfl) rfl rfl (fun _ _ h => AOp.loadEpN rfl rfl (ltb rfl) rfl agg24 size24 (leN 2 (fun _ => rfl) q3.2) (atN 2 (fun _ => rfl) q3.2) h) ?_
    refine AD.opY [0, 6] rfl rfl rfl q1 (by kernel_rfl) rfl rfl (fun _ _ h => AOp.move rfl rfl (ltb rfl) rfl h) ?_
    refine AD.opY [0, 6] rfl rfl rfl q1 (by kernel_rfl) rfl rfl (fun _ _ h => AOp.move rfl rfl (ltb rfl) rfl h) ?_
    refine AD.opY [6, 11] rfl rfl rfl q1 (by kernel_rfl) rfl rfl (fun _ _ h => AOp.lenDs (n := a0.length) (cells := (List.flatMap c_TImpl_P2 a0)) rfl rfl (ltb rfl) rfl el62 (by decide) (lenN _ 2 (fun _ => rfl) _) h) ?_
    obtain ⟨q4, h0⟩ := need_elim h0
    refine AD.opY [6, 12] rfl rfl rfl q1 (by kernel_rfl) rfl rfl (fun _ _ h => AOp.isub rfl rfl (ltb rfl) rfl rfl rfl q4.1 q4.2 h) ?_
    obtain ⟨x5, q6, h0⟩ := idx_elim h0
    refine AD.opY [6, 10, 13] rfl rfl rfl q1 (by kernel_rfl) rfl rfl (fun _ _ h => AOp.indexDs (cells := (List.flatMap c_TImpl_P2 a0)) rfl rfl (ltb rfl) rfl rfl el62 (by decide) q6.1 (ltN 2 (fun _ => rfl) (by decide) q6.2) h) ?_
    refine AD.opY [6, 14] rfl rfl rfl q1 (by kernel_rfl) rfl rfl (fun _ _ h => AOp.loadEpN rfl rfl (ltb rfl) rfl agg24 size24 (leN 2 (fun _ => rfl) q6.2) (atN 2 (fun _ => rfl) q6.2) h) ?_
    refine AD.opY [6, 9, 15] rfl rfl rfl q1 (by kernel_rfl) rfl rfl (fun _ _ h => AOp.seql (n := 9) rfl rfl (ltb rfl) rfl rfl agg24 eg24 (by decide) (eq24 _ _ _ _) h) ?_
    refine AD.op [6, 16] rfl (by kernel_rfl) rfl rfl (fun _ _ h => AOp.pick rfl rfl (ltb rfl) rfl q1 rfl h) ?_
    refine AD.op [17] rfl (by kernel_rfl) rfl rfl (fun _ _ h => AOp.assign rfl rfl (ltb rfl) rfl h) ?_
    refine AD.done ?_
    refine AO.nil ?_
    change AC _ _ _ _
    refine AC.ret ?_
    change RetQ _ _ _ .ret _
    obtain rfl := Option.some.inj h0
    refine retq rfl rfl
  replace h0 := cF h0 q1
  refine AD.opN rfl rfl rfl (ltb rfl) rfl q1 ?_
  refine AD.opN rfl rfl rfl (ltb rfl) rfl q1 ?_
  refine AD.opN rfl rfl rfl (ltb rfl) rfl q1 ?_
  refine AD.opN rfl rfl rfl (ltb rfl) rfl q1 ?_
  refine AD.opN rfl rfl rfl (ltb rfl) rfl q1 ?_
  refine AD.opN rfl rfl rfl (ltb rfl) rfl q1 ?_
  refine AD.opN rfl rfl rfl (ltb rfl) rfl q1 ?_
  refine AD.opN rfl rfl rfl (ltb rfl) rfl q1 ?_
  refine AD.opN rfl rfl rfl (ltb rfl) rfl q1 ?_
  refine AD.opN rfl rfl rfl (ltb rfl) rfl q1 ?_
  refine AD.op [6, 16] rfl (by kernel_rfl) rfl rfl (fun _ _ h => AOp.pickN rfl rfl (ltb rfl) rfl q1 rfl h) ?_
  refine AD.op [17] rfl (by kernel_rfl) rfl rfl (fun _ _ h => AOp.assign rfl rfl (ltb rfl) rfl h) ?_
  refine AD.done ?_
  refine AO.nil ?_
  change AC _ _ _ _
  refine AC.ret ?_
  change RetQ _ _ _ .ret _
  obtain rfl := Option.some.inj h0
  refine retq rfl rfl

set_option maxRecDepth 100000 in
set_option maxHeartbeats 1000000 in
/-- pub-orthodrome/impl.coord -/
theorem w_coord (a0 : TImpl_P2) (r0 : (List Nat)) (h0 : p_coord a0 = some r0) : FnD Try.prog 42 [e_TImpl_P2 a0] (fun r => r = eS0 r0) := by
  refine FnD.of (by kernel_rfl) Try.func42 rfl Try.ntmps42 rfl (leb rfl) fun W ok => ?_
  unfold p_coord at h0
  refine AC.seq ?_
  refine AC.region ?_
  refine AO.op rfl (AOp.box rfl rfl (ltb rfl) rfl rfl ?_)
  refine AO.op rfl (AOp.assign rfl rfl (ltb rfl) rfl ?_)
  refine AO.nil ?_
  change AC _ _ _ _
  refine AC.seq ?_
  refine AC.region ?_
  refine AO.op rfl (AOp.fieldAddr rfl rfl (ltb rfl) rfl fo24_0 ?_)
  refine AO.op rfl (AOp.load1 rfl rfl (ltb rfl) rfl agg22 rfl rfl ?_)
  refine AO.op rfl (AOp.fieldAddr rfl rfl (ltb rfl) rfl fo24_1 ?_)
  refine AO.op rfl (AOp.load1 rfl rfl (ltb rfl) rfl agg22 rfl rfl ?_)
  refine AO.op rfl (AOp.buildSliceD rfl rfl (ltb rfl) el79 zero22 rfl (leb rfl) rfl rfl rfl rfl ?_)
  refine AO.op rfl (AOp.assign rfl rfl (ltb rfl) rfl ?_)
  refine AO.nil ?_
  change AC _ _ _ _
  refine AC.ret ?_
  change RetQ _ _ _ .ret _
  obtain rfl := Option.some.inj h0
  refine retq rfl rfl

set_option maxRecDepth 100000 in
set_option maxHeartbeats 1000000 in
/-- (pub-orthodrome/pub/gogeom.Layout).Stride -/
theorem w_Layout_Stride (a0 : Int) (r0 : Int) (h0 : p_Layout_Stride a0 = some r0) : FnD Try.prog 101 [di .i64 a0] (fun r => r = di .i64 r0) := by
  refine FnD.of (by kernel_rfl) Try.func101 rfl Try.ntmps101 rfl (leb rfl) fun W ok => ?_
  unfold p_Layout_Stride at h0
  refine AC.seq ?_
  refine AC.region ?_
  refine AO.op rfl (AOp.assign rfl rfl (ltb rfl) rfl ?_)
  refine AO.nil ?_
  change AC _ _ _ _
  refine AC.seq ?_
  refine AC.region ?_
  refine AO.op rfl (AOp.move rfl rfl (ltb rfl) rfl ?_)
  refine AO.nil ?_
  change AC _ _ _ _
  refine AC.block ?_
  refine AC.seq ?_
  refine AC.region ?_
  refine AO.op rfl (AOp.ieql rfl rfl (ltb rfl) rfl rfl ?_)
  refine AO.op rfl (AOp.assign rfl rfl (ltb rfl) rfl ?_)
  refine AO.nil ?_
  change AC _ _ _ _
  refine AC.cond rfl (fun q1 => ?_) (fun q1 => ?_)
  · replace h0 := cT h0 q1
    refine AC.seq ?_
    refine AC.region ?_
    refine AO.op rfl (AOp.assign rfl rfl (ltb rfl) rfl ?_)
    refine AO.nil ?_
    change AC _ _ _ _
    refine AC.ret ?_
    change RetQ _ _ _ .ret _
    obtain rfl := Option.some.inj h0
    refine retq rfl rfl
  replace h0 := cF h0 q1
  refine AC.seq ?_
  refine AC.region ?_
  refine AO.op rfl (AOp.ieql rfl rfl (ltb rfl) rfl rfl ?_)
  refine AO.op rfl (AOp.assign rfl rfl (ltb rfl) rfl ?_)
  refine AO.nil ?_
  change AC _ _ _ _
  refine AC.cond rfl (fun q2 => ?_) (fun q2 => ?_)
  · replace h0 := cT h0 q2
    refine AC.seq ?_
    refine AC.region ?_
    refine AO.op rfl (AOp.assign rfl rfl (ltb rfl) rfl ?_)
    refine AO.nil ?_
    change AC _ _ _ _
    refine AC.ret ?_
    change RetQ _ _ _ .ret _
    obtain rfl := Option.some.inj h0
    refine retq rfl rfl
  replace h0 := cF h0 q2
  refine AC.seq ?_
  refine AC.region ?_
  refine AO.op rfl (AOp.ieql rfl rfl (ltb rfl) rfl rfl ?_)
  refine AO.op rfl (AOp.assign rfl rfl (ltb rfl) rfl ?_)
  refine AO.nil ?_
  change AC _ _ _ _
  refine AC.cond rfl (fun q3 => ?_) (fun q3 => ?_)
  · replace h0 := cT h0 q3
    refine AC.seq ?_
    refine AC.region ?_
    refine AO.op rfl (AOp.assign rfl rfl (ltb rfl) rfl ?_)
    refine AO.nil ?_
    change AC _ _ _ _
    refine AC.ret ?_
    change RetQ _ _ _ .ret _
    obtain rfl := Option.some.inj h0
    refine retq rfl rfl
  replace h0 := cF h0 q3
  refine AC.seq ?_
  refine AC.region ?_
  refine AO.op rfl (AOp.ieql rfl rfl (ltb rfl) rfl rfl ?_)
  refine AO.op rfl (AOp.assign rfl rfl (ltb rfl) rfl ?_)
  refine AO.nil ?_
  change AC _ _ _ _
  refine AC.cond rfl (fun q4 => ?_) (fun q4 => ?_)
  · replace h0 := cT h0 q4
    refine AC.seq ?_
    refine AC.region ?_
    refine AO.op rfl (AOp.assign rfl rfl (ltb rfl) rfl ?_)
    refine AO.nil ?_
    change AC _ _ _ _
    refine AC.ret ?_
    change RetQ _ _ _ .ret _
    obtain rfl := Option.some.inj h0
    refine retq rfl rfl
  replace h0 := cF h0 q4
  refine AC.seq ?_
  refine AC.region ?_
  refine AO.op rfl (AOp.ieql rfl rfl (ltb rfl) rfl rfl ?_)
  refine AO.op rfl (AOp.assign rfl rfl (ltb rfl) rfl ?_)
  refine AO.nil ?_
  change AC _ _ _ _
  refine AC.cond rfl (fun q5 => ?_) (fun q5 => ?_)
  · replace h0 := cT h0 q5
    refine AC.seq ?_
    refine AC.region ?_
    refine AO.op rfl (AOp.assign rfl rfl (ltb rfl) rfl ?_)
    refine AO.nil ?_
    change AC _ _ _ _
    refine AC.ret ?_
    change RetQ _ _ _ .ret _
    obtain rfl := Option.some.inj h0
    refine retq rfl rfl
  replace h0 := cF h0 q5
  refine AC.seq ?_
  refine AC.region ?_
  refine AO.op rfl (AOp.move rfl rfl (ltb rfl) rfl ?_)
  refine AO.op rfl (AOp.assign rfl rfl (ltb rfl) rfl ?_)
  refine AO.nil ?_
  change AC _ _ _ _
  refine AC.ret ?_
  change RetQ _ _ _ .ret _
  obtain rfl := Option.some.inj h0
  refine retq rfl rfl

theorem callFloor (x : Nat) (h : Flt.isNan x = false) (w : World) : (callFunc 106 #[.float .f64 x]).run Try.prog w = .ok (.value (.float .f64 (Flt.floorD x))) w := by
  rw [run_callFunc_extern Try.func106 (by kernel_rfl) (by kernel_rfl) (by kernel_rfl) (e := Extern.MathFloor.toIntegral "math.archFloor" .down) (by kernel_rfl), Flt.run_floor Try.prog x h]
  rfl

set_option maxRecDepth 100000 in
set_option maxHeartbeats 1000000 in
/-- math.Floor -/
theorem w_Floor (a0 : Nat) (r0 : Nat) (h0 : p_Floor a0 = some r0) : FnD Try.prog 105 [dfl a0] (fun r => r = dfl r0) := by
  refine FnD.of (by kernel_rfl) Try.func105 rfl Try.ntmps105 rfl (leb rfl) fun W ok => ?_
  unfold p_Floor at h0
  refine AC.seq ?_
  refine AC.region ?_
  refine AO.op rfl (AOp.assign rfl rfl (ltb rfl) rfl ?_)
  refine AO.nil ?_
  change AC _ _ _ _
  refine AC.seq ?_
  refine AC.condT rfl rfl ?_
  refine AC.seq ?_
  refine AC.region ?_
  refine AO.op rfl (AOp.move rfl rfl (ltb rfl) rfl ?_)
  obtain ⟨q1, h0⟩ := need_elim h0
  refine AO.op rfl (AOp.callX [.float .f64 a0] rfl rfl (ltb rfl) rfl (callFloor _ q1) ?_)
  refine AO.op rfl (AOp.assign rfl rfl (ltb rfl) rfl ?_)
  refine AO.nil ?_
  change AC _ _ _ _
  refine AC.ret ?_
  change RetQ _ _ _ .ret _
  obtain rfl := Option.some.inj h0
  refine retq rfl rfl

set_option maxRecDepth 100000 in
set_option maxHeartbeats 1000000 in
/-- pub-orthodrome/pub/gogeom/xy/inner/robustdeterminate.SignOfDet2x2 -/
theorem w_SignOfDet2x2 (F : Nat) (a0 : Nat) (a1 : Nat) (a2 : Nat) (a3 : Nat) (r0 : Int) (h0 : p_SignOfDet2x2 F a0 a1 a2 a3 = some r0) : FnD Try.prog 104 [dfl a0, dfl a1, dfl a2, dfl a3] (fun r => r = di .i64 r0) := by
  refine FnD.of (by kernel_rfl) Try.func104 rfl Try.ntmps104 rfl (leb rfl) fun W ok => ?_
  unfold p_SignOfDet2x2 at h0
  refine AC.seq ?_
  refine AC.region ?_
  refine AO.op rfl (AOp.assign rfl rfl (ltb rfl) rfl ?_)
  refine AO.nil ?_
  change AC _ _ _ _
  refine AC.seq ?_
  refine AC.region ?_
  refine AO.op rfl (AOp.assign rfl rfl (ltb rfl) rfl ?_)
  refine AO.nil ?_
  change AC _ _ _ _
  refine AC.seq ?_
  refine AC.region ?_
  refine AO.op rfl (AOp.assign rfl rfl (ltb rfl) rfl ?_)
  refine AO.nil ?_
  change AC _ _ _ _
  refine AC.seq ?_
  refine AC.region ?_
  refine AO.op rfl (AOp.assign rfl rfl (ltb rfl) rfl ?_)
  refine AO.nil ?_
  change AC _ _ _ _
  refine AC.seq ?_
  refine AC.joinP (V := Bool) [0, 1, 2, 3, 11] [18] 0 (fun g1 => [(18, .d (dbool g1))]) (fun g1 => []) (fun g1 => (p_SignOfDet2x2_k1 a0 a1 a2 a3 F) g1 = some r0) rfl ?_ ?_
  · refine AC.region ?_
    refine AO.op rfl (AOp.move rfl rfl (ltb rfl) rfl ?_)
    refine AO.op rfl (AOp.feql rfl rfl (ltb rfl) rfl rfl ?_)
    refine AO.op rfl (AOp.move rfl rfl (ltb rfl) rfl ?_)
    refine AO.dec (feq a0 (0 : Nat)) (fun q109 => ?_) (fun q109 => ?_)
    · replace h0 := cT h0 q109
      refine AO.guardN rfl rfl rfl (ltb rfl) rfl q109 ?_
      refine AO.guardN rfl rfl rfl (ltb rfl) rfl q109 ?_
      refine AO.op rfl (AOp.pick rfl rfl (ltb rfl) rfl q109 rfl ?_)
      refine AO.nil ?_
      exact ⟨true, _, rfl, (LeL.refl _), rfl, rfl, h0⟩
    replace h0 := cF h0 q109
    refine AO.guardY rfl rfl rfl q109 (AOp.move rfl rfl (ltb rfl) rfl ?_)
    refine AO.guardY rfl rfl rfl q109 (AOp.feql rfl rfl (ltb rfl) rfl rfl ?_)
    refine AO.op rfl (AOp.pickN rfl rfl (ltb rfl) rfl q109 rfl ?_)
    refine AO.nil ?_
    exact ⟨(feq a3 (0 : Nat)), _, rfl, (LeL.refl _), rfl, rfl, h0⟩
  intro g1 h0
  unfold p_SignOfDet2x2_k1 at h0
  refine AC.cond rfl (fun q2 => ?_) (fun q2 => ?_)
  · replace h0 := cT h0 q2
    refine AC.block ?_
    refine AC.joinP (V := Bool) [1, 2] [21] 0 (fun g3 => [(21, .d (dbool g3))]) (fun g3 => []) (fun g3 => (p_SignOfDet2x2_k2 a1 a2) g3 = some r0) rfl ?_ ?_
    · refine AC.region ?_
      refine AO.op rfl (AOp.move rfl rfl (ltb rfl) rfl ?_)
      refine AO.op rfl (AOp.feql rfl rfl (ltb rfl) rfl rfl ?_)
      refine AO.op rfl (AOp.move rfl rfl (ltb rfl) rfl ?_)
      refine AO.dec (feq a1 (0 : Nat)) (fun q8 => ?_) (fun q8 => ?_)
      · replace h0 := cT h0 q8
        refine AO.guardN rfl rfl rfl (ltb rfl) rfl q8 ?_
        refine AO.guardN rfl rfl rfl (ltb rfl) rfl q8 ?_
        refine AO.op rfl (AOp.pick rfl rfl (ltb rfl) rfl q8 rfl ?_)
        refine AO.op rfl (AOp.assign rfl rfl (ltb rfl) rfl ?_)
        refine AO.nil ?_
        exact ⟨true, _, rfl, (LeL.refl _), rfl, rfl, h0⟩
      replace h0 := cF h0 q8
      refine AO.guardY rfl rfl rfl q8 (AOp.move rfl rfl (ltb rfl) rfl ?_)
      refine AO.guardY rfl rfl rfl q8 (AOp.feql rfl rfl (ltb rfl) rfl rfl ?_)
      refine AO.op rfl (AOp.pickN rfl rfl (ltb rfl) rfl q8 rfl ?_)
      refine AO.op rfl (AOp.assign rfl rfl (ltb rfl) rfl ?_)
      refine AO.nil ?_
      exact ⟨(feq a2 (0 : Nat)), _, rfl, (LeL.refl _), rfl, rfl, h0⟩
    intro g3 h0
    unfold p_SignOfDet2x2_k2 at h0
    refine AC.cond rfl (fun q4 => ?_) (fun q4 => ?_)
    · replace h0 := cT h0 q4
      refine AC.seq ?_
      refine AC.region ?_
      refine AO.op rfl (AOp.assign rfl rfl (ltb rfl) rfl ?_)
      refine AO.nil ?_
      change AC _ _ _ _
      refine AC.ret ?_
      change RetQ _ _ _ .ret _
      obtain rfl := Option.some.inj h0
      refine retq rfl rfl
    replace h0 := cF h0 q4
    refine AC.seq ?_
    refine AC.region ?_
    refine AO.op rfl (AOp.move rfl rfl (ltb rfl) rfl ?_)
    refine AO.op rfl (AOp.fgtr rfl rfl (ltb rfl) rfl rfl ?_)
    refine AO.op rfl (AOp.assign rfl rfl (ltb rfl) rfl ?_)
    refine AO.nil ?_
    change AC _ _ _ _
    refine AC.cond rfl (fun q5 => ?_) (fun q5 => ?_)
    · replace h0 := cT h0 q5
      refine AC.seq ?_
      refine AC.seq ?_
      refine AC.region ?_
      refine AO.op rfl (AOp.move rfl rfl (ltb rfl) rfl ?_)
      refine AO.op rfl (AOp.fgtr rfl rfl (ltb rfl) rfl rfl ?_)
      refine AO.nil ?_
      change AC _ _ _ _
      refine AC.cond rfl (fun q6 => ?_) (fun q6 => ?_)
      · replace h0 := cT h0 q6
        refine AC.seq ?_
        refine AC.region ?_
        refine AO.op rfl (AOp.assign rfl rfl (ltb rfl) rfl ?_)
        refine AO.nil ?_
        change AC _ _ _ _
        refine AC.ret ?_
        change RetQ _ _ _ .ret _
        obtain rfl := Option.some.inj h0
        refine retq rfl rfl
      replace h0 := cF h0 q6
      refine AC.skip ?_
      change AC _ _ _ _
      refine AC.seq ?_
      refine AC.region ?_
      refine AO.op rfl (AOp.assign rfl rfl (ltb rfl) rfl ?_)
      refine AO.nil ?_
      change AC _ _ _ _
      refine AC.ret ?_
      change RetQ _ _ _ .ret _
      obtain rfl := Option.some.inj h0
      refine retq rfl rfl
    replace h0 := cF h0 q5
    refine AC.seq ?_
    refine AC.seq ?_
    refine AC.region ?_
    refine AO.op rfl (AOp.move rfl rfl (ltb rfl) rfl ?_)
    refine AO.op rfl (AOp.fgtr rfl rfl (ltb rfl) rfl rfl ?_)
    refine AO.nil ?_
    change AC _ _ _ _
    refine AC.cond rfl (fun q7 => ?_) (fun q7 => ?_)
    · replace h0 := cT h0 q7
      refine AC.seq ?_
      refine AC.region ?_
      refine AO.op rfl (AOp.assign rfl rfl (ltb rfl) rfl ?_)
      refine AO.nil ?_
      change AC _ _ _ _
      refine AC.ret ?_
      change RetQ _ _ _ .ret _
      obtain rfl := Option.some.inj h0
      refine retq rfl rfl
    replace h0 := cF h0 q7
    refine AC.skip ?_
    change AC _ _ _ _
    refine AC.seq ?_
    refine AC.region ?_
    refine AO.op rfl (AOp.assign rfl rfl (ltb rfl) rfl ?_)
    refine AO.nil ?_
    change AC _ _ _ _
    refine AC.ret ?_
    change RetQ _ _ _ .ret _
    obtain rfl := Option.some.inj h0
    refine retq rfl rfl
  replace h0 := cF h0 q2
  refine AC.skip ?_
  change AC _ _ _ _
  refine AC.seq ?_
  refine AC.joinP (V := Bool) [0, 1, 2, 3, 11] [38] 0 (fun g9 => [(38, .d (dbool g9))]) (fun g9 => []) (fun g9 => (p_SignOfDet2x2_k3 a0 a1 a2 a3 F) g9 = some r0) rfl ?_ ?_
  · refine AC.region ?_
    refine AO.op rfl (AOp.move rfl rfl (ltb rfl) rfl ?_)
    refine AO.op rfl (AOp.feql rfl rfl (ltb rfl) rfl rfl ?_)
    refine AO.op rfl (AOp.move rfl rfl (ltb rfl) rfl ?_)
    refine AO.dec (feq a1 (0 : Nat)) (fun q108 => ?_) (fun q108 => ?_)
    · replace h0 := cT h0 q108
      refine AO.guardN rfl rfl rfl (ltb rfl) rfl q108 ?_
      refine AO.guardN rfl rfl rfl (ltb rfl) rfl q108 ?_
      refine AO.op rfl (AOp.pick rfl rfl (ltb rfl) rfl q108 rfl ?_)
      refine AO.nil ?_
      exact ⟨true, _, rfl, (LeL.refl _), rfl, rfl, h0⟩
    replace h0 := cF h0 q108
    refine AO.guardY rfl rfl rfl q108 (AOp.move rfl rfl (ltb rfl) rfl ?_)
    refine AO.guardY rfl rfl rfl q108 (AOp.feql rfl rfl (ltb rfl) rfl rfl ?_)
    refine AO.op rfl (AOp.pickN rfl rfl (ltb rfl) rfl q108 rfl ?_)
    refine AO.nil ?_
    exact ⟨(feq a2 (0 : Nat)), _, rfl, (LeL.refl _), rfl, rfl, h0⟩
  intro g9 h0
  unfold p_SignOfDet2x2_k3 at h0
  refine AC.cond rfl (fun q10 => ?_) (fun q10 => ?_)
  · replace h0 := cT h0 q10
    refine AC.seq ?_
    refine AC.seq ?_
    refine AC.region ?_
    refine AO.op rfl (AOp.move rfl rfl (ltb rfl) rfl ?_)
    refine AO.op rfl (AOp.fgtr rfl rfl (ltb rfl) rfl rfl ?_)
    refine AO.nil ?_
    change AC _ _ _ _
    refine AC.cond rfl (fun q11 => ?_) (fun q11 => ?_)
    · replace h0 := cT h0 q11
      refine AC.seq ?_
      refine AC.seq ?_
      refine AC.region ?_
      refine AO.op rfl (AOp.move rfl rfl (ltb rfl) rfl ?_)
      refine AO.op rfl (AOp.fgtr rfl rfl (ltb rfl) rfl rfl ?_)
      refine AO.nil ?_
      change AC _ _ _ _
      refine AC.cond rfl (fun q12 => ?_) (fun q12 => ?_)
      · replace h0 := cT h0 q12
        refine AC.seq ?_
        refine AC.region ?_
        refine AO.op rfl (AOp.assign rfl rfl (ltb rfl) rfl ?_)
        refine AO.nil ?_
        change AC _ _ _ _
        refine AC.ret ?_
        change RetQ _ _ _ .ret _
        obtain rfl := Option.some.inj h0
        refine retq rfl rfl
      replace h0 := cF h0 q12
      refine AC.skip ?_
      change AC _ _ _ _
      refine AC.seq ?_
      refine AC.region ?_
      refine AO.op rfl (AOp.assign rfl rfl (ltb rfl) rfl ?_)
      refine AO.nil ?_
      change AC _ _ _ _
      refine AC.ret ?_
      change RetQ _ _ _ .ret _
      obtain rfl := Option.some.inj h0
      refine retq rfl rfl
    replace h0 := cF h0 q11
    refine AC.skip ?_
    change AC _ _ _ _
    refine AC.seq ?_
    refine AC.seq ?_
    refine AC.region ?_
    refine AO.op rfl (AOp.move rfl rfl (ltb rfl) rfl ?_)
    refine AO.op rfl (AOp.fgtr rfl rfl (ltb rfl) rfl rfl ?_)
    refine AO.nil ?_
    change AC _ _ _ _
    refine AC.cond rfl (fun q13 => ?_) (fun q13 => ?_)
    · replace h0 := cT h0 q13
      refine AC.seq ?_
      refine AC.region ?_
      refine AO.op rfl (AOp.assign rfl rfl (ltb rfl) rfl ?_)
      refine AO.nil ?_
      change AC _ _ _ _
      refine AC.ret ?_
      change RetQ _ _ _ .ret _
      obtain rfl := Option.some.inj h0
      refine retq rfl rfl
    replace h0 := cF h0 q13
    refine AC.skip ?_
    change AC _ _ _ _
    refine AC.seq ?_
    refine AC.region ?_
    refine AO.op rfl (AOp.assign rfl rfl (ltb rfl) rfl ?_)
    refine AO.nil ?_
    change AC _ _ _ _
    refine AC.ret ?_
    change RetQ _ _ _ .ret _
    obtain rfl := Option.some.inj h0
    refine retq rfl rfl
  replace h0 := cF h0 q10
  refine AC.skip ?_
  change AC _ _ _ _
  refine AC.seq ?_
  refine AC.region ?_
  refine AO.op rfl (AOp.assign rfl rfl (ltb rfl) rfl ?_)
  refine AO.nil ?_
  change AC _ _ _ _
  refine AC.joinP (V := (Nat × Nat × Nat × Nat × Int)) [11] [0, 1, 2, 3, 12] 0 (fun g14 => [(0, .d (dfl g14.1)), (1, .d (dfl g14.2.1)), (2, .d (dfl g14.2.2.1)), (3, .d (dfl g14.2.2.2.1)), (12, .d (di .i64 g14.2.2.2.2))]) (fun g14 => []) (fun g14 => (p_SignOfDet2x2_k4 F) g14 = some r0) rfl ?_ ?_
  · refine AC.seq ?_
    refine AC.region ?_
    refine AO.op rfl (AOp.move rfl rfl (ltb rfl) rfl ?_)
    refine AO.op rfl (AOp.flss rfl rfl (ltb rfl) rfl rfl ?_)
    refine AO.nil ?_
    change AC _ _ _ _
    refine AC.cond rfl (fun q101 => ?_) (fun q101 => ?_)
    · replace h0 := cT h0 q101
      refine AC.seq ?_
      refine AC.region ?_
      refine AO.op rfl (AOp.move rfl rfl (ltb rfl) rfl ?_)
      refine AO.op rfl (AOp.flss rfl rfl (ltb rfl) rfl rfl ?_)
      refine AO.nil ?_
      change AC _ _ _ _
      refine AC.cond rfl (fun q102 => ?_) (fun q102 => ?_)
      · replace h0 := cT h0 q102
        refine AC.seq ?_
        refine AC.region ?_
        refine AO.op rfl (AOp.move rfl rfl (ltb rfl) rfl ?_)
        refine AO.op rfl (AOp.move rfl rfl (ltb rfl) rfl ?_)
        refine AO.op rfl (AOp.fgtr rfl rfl (ltb rfl) rfl rfl ?_)
        refine AO.nil ?_
        change AC _ _ _ _
        refine AC.cond rfl (fun q103 => ?_) (fun q103 => ?_)
        · replace h0 := cT h0 q103
          refine AC.seq ?_
          refine AC.region ?_
          refine AO.op rfl (AOp.assign rfl rfl (ltb rfl) rfl ?_)
          refine AO.nil ?_
          change AC _ _ _ _
          refine AC.seq ?_
          refine AC.region ?_
          refine AO.op rfl (AOp.move rfl rfl (ltb rfl) rfl ?_)
          refine AO.op rfl (AOp.assign rfl rfl (ltb rfl) rfl ?_)
          refine AO.nil ?_
          change AC _ _ _ _
          refine AC.seq ?_
          refine AC.region ?_
          refine AO.op rfl (AOp.move rfl rfl (ltb rfl) rfl ?_)
          refine AO.op rfl (AOp.assign rfl rfl (ltb rfl) rfl ?_)
          refine AO.nil ?_
          change AC _ _ _ _
          refine AC.seq ?_
          refine AC.region ?_
          refine AO.op rfl (AOp.move rfl rfl (ltb rfl) rfl ?_)
          refine AO.op rfl (AOp.assign rfl rfl (ltb rfl) rfl ?_)
          refine AO.nil ?_
          change AC _ _ _ _
          refine AC.seq ?_
          refine AC.region ?_
          refine AO.op rfl (AOp.move rfl rfl (ltb rfl) rfl ?_)
          refine AO.op rfl (AOp.assign rfl rfl (ltb rfl) rfl ?_)
          refine AO.nil ?_
          change AC _ _ _ _
          refine AC.seq ?_
          refine AC.region ?_
          refine AO.op rfl (AOp.move rfl rfl (ltb rfl) rfl ?_)
          refine AO.op rfl (AOp.assign rfl rfl (ltb rfl) rfl ?_)
          refine AO.nil ?_
          change AC _ _ _ _
          refine AC.region ?_
          refine AO.op rfl (AOp.move rfl rfl (ltb rfl) rfl ?_)
          refine AO.op rfl (AOp.assign rfl rfl (ltb rfl) rfl ?_)
          refine AO.nil ?_
          exact ⟨(a2, a3, a0, a1, (-1 : Int)), _, rfl, (LeL.refl _), rfl, rfl, h0⟩
        replace h0 := cF h0 q103
        refine AC.skip ?_
        exact ⟨(a0, a1, a2, a3, (1 : Int)), _, rfl, (LeL.refl _), rfl, rfl, h0⟩
      replace h0 := cF h0 q102
      refine AC.seq ?_
      refine AC.region ?_
      refine AO.op rfl (AOp.move rfl rfl (ltb rfl) rfl ?_)
      refine AO.op rfl (AOp.move rfl rfl (ltb rfl) rfl ?_)
      refine AO.op rfl (AOp.fneg rfl rfl (ltb rfl) rfl ?_)
      refine AO.op rfl (AOp.fleq rfl rfl (ltb rfl) rfl rfl ?_)
      refine AO.nil ?_
      change AC _ _ _ _
      refine AC.cond rfl (fun q104 => ?_) (fun q104 => ?_)
      · replace h0 := cT h0 q104
        refine AC.seq ?_
        refine AC.region ?_
        refine AO.op rfl (AOp.assign rfl rfl (ltb rfl) rfl ?_)
        refine AO.nil ?_
        change AC _ _ _ _
        refine AC.seq ?_
        refine AC.region ?_
        refine AO.op rfl (AOp.move rfl rfl (ltb rfl) rfl ?_)
        refine AO.op rfl (AOp.fneg rfl rfl (ltb rfl) rfl ?_)
        refine AO.op rfl (AOp.assign rfl rfl (ltb rfl) rfl ?_)
        refine AO.nil ?_
        change AC _ _ _ _
        refine AC.region ?_
        refine AO.op rfl (AOp.move rfl rfl (ltb rfl) rfl ?_)
        refine AO.op rfl (AOp.fneg rfl rfl (ltb rfl) rfl ?_)
        refine AO.op rfl (AOp.assign rfl rfl (ltb rfl) rfl ?_)
        refine AO.nil ?_
        exact ⟨(a0, a1, (fneg a2), (fneg a3), (-1 : Int)), _, rfl, (LeL.refl _), rfl, rfl, h0⟩
      replace h0 := cF h0 q104
      refine AC.seq ?_
      refine AC.region ?_
      refine AO.op rfl (AOp.move rfl rfl (ltb rfl) rfl ?_)
      refine AO.op rfl (AOp.assign rfl rfl (ltb rfl) rfl ?_)
      refine AO.nil ?_
      change AC _ _ _ _
      refine AC.seq ?_
      refine AC.region ?_
      refine AO.op rfl (AOp.move rfl rfl (ltb rfl) rfl ?_)
      refine AO.op rfl (AOp.fneg rfl rfl (ltb rfl) rfl ?_)
      refine AO.op rfl (AOp.assign rfl rfl (ltb rfl) rfl ?_)
      refine AO.nil ?_
      change AC _ _ _ _
      refine AC.seq ?_
      refine AC.region ?_
      refine AO.op rfl (AOp.move rfl rfl (ltb rfl) rfl ?_)
      refine AO.op rfl (AOp.assign rfl rfl (ltb rfl) rfl ?_)
      refine AO.nil ?_
      change AC _ _ _ _
      refine AC.seq ?_
      refine AC.region ?_
      refine AO.op rfl (AOp.move rfl rfl (ltb rfl) rfl ?_)
      refine AO.op rfl (AOp.assign rfl rfl (ltb rfl) rfl ?_)
      refine AO.nil ?_
      change AC _ _ _ _
      refine AC.seq ?_
      refine AC.region ?_
      refine AO.op rfl (AOp.move rfl rfl (ltb rfl) rfl ?_)
      refine AO.op rfl (AOp.fneg rfl rfl (ltb rfl) rfl ?_)
      refine AO.op rfl (AOp.assign rfl rfl (ltb rfl) rfl ?_)
      refine AO.nil ?_
      change AC _ _ _ _
      refine AC.region ?_
      refine AO.op rfl (AOp.move rfl rfl (ltb rfl) rfl ?_)
      refine AO.op rfl (AOp.assign rfl rfl (ltb rfl) rfl ?_)
      refine AO.nil ?_
      exact ⟨((fneg a2), (fneg a3), a0, a1, (1 : Int)), _, rfl, (LeL.refl _), rfl, rfl, h0⟩
    replace h0 := cF h0 q101
    refine AC.seq ?_
    refine AC.region ?_
    refine AO.op rfl (AOp.move rfl rfl (ltb rfl) rfl ?_)
    refine AO.op rfl (AOp.flss rfl rfl (ltb rfl) rfl rfl ?_)
    refine AO.nil ?_
    change AC _ _ _ _
    refine AC.cond rfl (fun q105 => ?_) (fun q105 => ?_)
    · replace h0 := cT h0 q105
      refine AC.seq ?_
      refine AC.region ?_
      refine AO.op rfl (AOp.move rfl rfl (ltb rfl) rfl ?_)
      refine AO.op rfl (AOp.fneg rfl rfl (ltb rfl) rfl ?_)
      refine AO.op rfl (AOp.move rfl rfl (ltb rfl) rfl ?_)
      refine AO.op rfl (AOp.fleq rfl rfl (ltb rfl) rfl rfl ?_)
      refine AO.nil ?_
      change AC _ _ _ _
      refine AC.cond rfl (fun q106 => ?_) (fun q106 => ?_)
      · replace h0 := cT h0 q106
        refine AC.seq ?_
        refine AC.region ?_
        refine AO.op rfl (AOp.assign rfl rfl (ltb rfl) rfl ?_)
        refine AO.nil ?_
        change AC _ _ _ _
        refine AC.seq ?_
        refine AC.region ?_
        refine AO.op rfl (AOp.move rfl rfl (ltb rfl) rfl ?_)
        refine AO.op rfl (AOp.fneg rfl rfl (ltb rfl) rfl ?_)
        refine AO.op rfl (AOp.assign rfl rfl (ltb rfl) rfl ?_)
        refine AO.nil ?_
        change AC _ _ _ _
        refine AC.region ?_
        refine AO.op rfl (AOp.move rfl rfl (ltb rfl) rfl ?_)
        refine AO.op rfl (AOp.fneg rfl rfl (ltb rfl) rfl ?_)
        refine AO.op rfl (AOp.assign rfl rfl (ltb rfl) rfl ?_)
        refine AO.nil ?_
        exact ⟨((fneg a0), (fneg a1), a2, a3, (-1 : Int)), _, rfl, (LeL.refl _), rfl, rfl, h0⟩
      replace h0 := cF h0 q106
      refine AC.seq ?_
      refine AC.region ?_
      refine AO.op rfl (AOp.move rfl rfl (ltb rfl) rfl ?_)
      refine AO.op rfl (AOp.fneg rfl rfl (ltb rfl) rfl ?_)
      refine AO.op rfl (AOp.assign rfl rfl (ltb rfl) rfl ?_)
      refine AO.nil ?_
      change AC _ _ _ _
      refine AC.seq ?_
      refine AC.region ?_
      refine AO.op rfl (AOp.move rfl rfl (ltb rfl) rfl ?_)
      refine AO.op rfl (AOp.assign rfl rfl (ltb rfl) rfl ?_)
      refine AO.nil ?_
      change AC _ _ _ _
      refine AC.seq ?_
      refine AC.region ?_
      refine AO.op rfl (AOp.move rfl rfl (ltb rfl) rfl ?_)
      refine AO.op rfl (AOp.assign rfl rfl (ltb rfl) rfl ?_)
      refine AO.nil ?_
      change AC _ _ _ _
      refine AC.seq ?_
      refine AC.region ?_
      refine AO.op rfl (AOp.move rfl rfl (ltb rfl) rfl ?_)
      refine AO.op rfl (AOp.fneg rfl rfl (ltb rfl) rfl ?_)
      refine AO.op rfl (AOp.assign rfl rfl (ltb rfl) rfl ?_)
      refine AO.nil ?_
      change AC _ _ _ _
      refine AC.seq ?_
      refine AC.region ?_
      refine AO.op rfl (AOp.move rfl rfl (ltb rfl) rfl ?_)
      refine AO.op rfl (AOp.assign rfl rfl (ltb rfl) rfl ?_)
      refine AO.nil ?_
      change AC _ _ _ _
      refine AC.region ?_
      refine AO.op rfl (AOp.move rfl rfl (ltb rfl) rfl ?_)
      refine AO.op rfl (AOp.assign rfl rfl (ltb rfl) rfl ?_)
      refine AO.nil ?_
      exact ⟨(a2, a3, (fneg a0), (fneg a1), (1 : Int)), _, rfl, (LeL.refl _), rfl, rfl, h0⟩
    replace h0 := cF h0 q105
    refine AC.seq ?_
    refine AC.region ?_
    refine AO.op rfl (AOp.move rfl rfl (ltb rfl) rfl ?_)
    refine AO.op rfl (AOp.move rfl rfl (ltb rfl) rfl ?_)
    refine AO.op rfl (AOp.fgeq rfl rfl (ltb rfl) rfl rfl ?_)
    refine AO.nil ?_
    change AC _ _ _ _
    refine AC.cond rfl (fun q107 => ?_) (fun q107 => ?_)
    · replace h0 := cT h0 q107
      refine AC.seq ?_
      refine AC.region ?_
      refine AO.op rfl (AOp.move rfl rfl (ltb rfl) rfl ?_)
      refine AO.op rfl (AOp.fneg rfl rfl (ltb rfl) rfl ?_)
      refine AO.op rfl (AOp.assign rfl rfl (ltb rfl) rfl ?_)
      refine AO.nil ?_
      change AC _ _ _ _
      refine AC.seq ?_
      refine AC.region ?_
      refine AO.op rfl (AOp.move rfl rfl (ltb rfl) rfl ?_)
      refine AO.op rfl (AOp.fneg rfl rfl (ltb rfl) rfl ?_)
      refine AO.op rfl (AOp.assign rfl rfl (ltb rfl) rfl ?_)
      refine AO.nil ?_
      change AC _ _ _ _
      refine AC.seq ?_
      refine AC.region ?_
      refine AO.op rfl (AOp.move rfl rfl (ltb rfl) rfl ?_)
      refine AO.op rfl (AOp.fneg rfl rfl (ltb rfl) rfl ?_)
      refine AO.op rfl (AOp.assign rfl rfl (ltb rfl) rfl ?_)
      refine AO.nil ?_
      change AC _ _ _ _
      refine AC.region ?_
      refine AO.op rfl (AOp.move rfl rfl (ltb rfl) rfl ?_)
      refine AO.op rfl (AOp.fneg rfl rfl (ltb rfl) rfl ?_)
      refine AO.op rfl (AOp.assign rfl rfl (ltb rfl) rfl ?_)
      refine AO.nil ?_
      exact ⟨((fneg a0), (fneg a1), (fneg a2), (fneg a3), (1 : Int)), _, rfl, (LeL.refl _), rfl, rfl, h0⟩
    replace h0 := cF h0 q107
    refine AC.seq ?_
    refine AC.region ?_
    refine AO.op rfl (AOp.assign rfl rfl (ltb rfl) rfl ?_)
    refine AO.nil ?_
    change AC _ _ _ _
    refine AC.seq ?_
    refine AC.region ?_
    refine AO.op rfl (AOp.move rfl rfl (ltb rfl) rfl ?_)
    refine AO.op rfl (AOp.fneg rfl rfl (ltb rfl) rfl ?_)
    refine AO.op rfl (AOp.assign rfl rfl (ltb rfl) rfl ?_)
    refine AO.nil ?_
    change AC _ _ _ _
    refine AC.seq ?_
    refine AC.region ?_
    refine AO.op rfl (AOp.move rfl rfl (ltb rfl) rfl ?_)
    refine AO.op rfl (AOp.fneg rfl rfl (ltb rfl) rfl ?_)
    refine AO.op rfl (AOp.assign rfl rfl (ltb rfl) rfl ?_)
    refine AO.nil ?_
    change AC _ _ _ _
    refine AC.seq ?_
    refine AC.region ?_
    refine AO.op rfl (AOp.move rfl rfl (ltb rfl) rfl ?_)
    refine AO.op rfl (AOp.assign rfl rfl (ltb rfl) rfl ?_)
    refine AO.nil ?_
    change AC _ _ _ _
    refine AC.seq ?_
    refine AC.region ?_
    refine AO.op rfl (AOp.move rfl rfl (ltb rfl) rfl ?_)
    refine AO.op rfl (AOp.fneg rfl rfl (ltb rfl) rfl ?_)
    refine AO.op rfl (AOp.assign rfl rfl (ltb rfl) rfl ?_)
    refine AO.nil ?_
    change AC _ _ _ _
    refine AC.seq ?_
    refine AC.region ?_
    refine AO.op rfl (AOp.move rfl rfl (ltb rfl) rfl ?_)
    refine AO.op rfl (AOp.fneg rfl rfl (ltb rfl) rfl ?_)
    refine AO.op rfl (AOp.assign rfl rfl (ltb rfl) rfl ?_)
    refine AO.nil ?_
    change AC _ _ _ _
    refine AC.region ?_
    refine AO.op rfl (AOp.move rfl rfl (ltb rfl) rfl ?_)
    refine AO.op rfl (AOp.assign rfl rfl (ltb rfl) rfl ?_)
    refine AO.nil ?_
    exact ⟨((fneg a2), (fneg a3), (fneg a0), (fneg a1), (-1 : Int)), _, rfl, (LeL.refl _), rfl, rfl, h0⟩
  intro g14 h0
  unfold p_SignOfDet2x2_k4 at h0
  refine AC.joinP (V := (Nat × Nat × Int)) [1, 3, 11] [0, 2, 12] 0 (fun g15 => [(0, .d (dfl g15.1)), (2, .d (dfl g15.2.1)), (12, .d (di .i64 g15.2.2))]) (fun g15 => []) (fun g15 => (p_SignOfDet2x2_k5 F g14) g15 = some r0) rfl ?_ ?_
  · refine AC.seq ?_
    refine AC.region ?_
    refine AO.op rfl (AOp.move rfl rfl (ltb rfl) rfl ?_)
    refine AO.op rfl (AOp.flss rfl rfl (ltb rfl) rfl rfl ?_)
    refine AO.nil ?_
    change AC _ _ _ _
    refine AC.cond rfl (fun q93 => ?_) (fun q93 => ?_)
    · replace h0 := cT h0 q93
      refine AC.seq ?_
      refine AC.region ?_
      refine AO.op rfl (AOp.move rfl rfl (ltb rfl) rfl ?_)
      refine AO.op rfl (AOp.flss rfl rfl (ltb rfl) rfl rfl ?_)
      refine AO.nil ?_
      change AC _ _ _ _
      refine AC.cond rfl (fun q94 => ?_) (fun q94 => ?_)
      · replace h0 := cT h0 q94
        refine AC.seq ?_
        refine AC.region ?_
        refine AO.op rfl (AOp.move rfl rfl (ltb rfl) rfl ?_)
        refine AO.op rfl (AOp.move rfl rfl (ltb rfl) rfl ?_)
        refine AO.op rfl (AOp.fgtr rfl rfl (ltb rfl) rfl rfl ?_)
        refine AO.nil ?_
        change AC _ _ _ _
        refine AC.cond rfl (fun q95 => ?_) (fun q95 => ?_)
        · replace h0 := cT h0 q95
          refine AC.seq ?_
          refine AC.region ?_
          refine AO.op rfl (AOp.move rfl rfl (ltb rfl) rfl ?_)
          refine AO.op rfl (AOp.assign rfl rfl (ltb rfl) rfl ?_)
          refine AO.nil ?_
          change AC _ _ _ _
          refine AC.ret ?_
          change RetQ _ _ _ .ret _
          obtain rfl := Option.some.inj h0
          refine retq rfl rfl
        replace h0 := cF h0 q95
        refine AC.skip ?_
        exact ⟨(g14.1, g14.2.2.1, g14.2.2.2.2), _, rfl, (LeL.refl _), rfl, rfl, h0⟩
      replace h0 := cF h0 q94
      refine AC.seq ?_
      refine AC.region ?_
      refine AO.op rfl (AOp.move rfl rfl (ltb rfl) rfl ?_)
      refine AO.op rfl (AOp.assign rfl rfl (ltb rfl) rfl ?_)
      refine AO.nil ?_
      change AC _ _ _ _
      refine AC.ret ?_
      change RetQ _ _ _ .ret _
      obtain rfl := Option.some.inj h0
      refine retq rfl rfl
    replace h0 := cF h0 q93
    refine AC.seq ?_
    refine AC.seq ?_
    refine AC.region ?_
    refine AO.op rfl (AOp.move rfl rfl (ltb rfl) rfl ?_)
    refine AO.op rfl (AOp.flss rfl rfl (ltb rfl) rfl rfl ?_)
    refine AO.nil ?_
    change AC _ _ _ _
    refine AC.cond rfl (fun q96 => ?_) (fun q96 => ?_)
    · replace h0 := cT h0 q96
      refine AC.seq ?_
      refine AC.region ?_
      refine AO.op rfl (AOp.move rfl rfl (ltb rfl) rfl ?_)
      obtain ⟨q97, h0⟩ := need_elim h0
      refine AO.op rfl (AOp.ineg rfl rfl (ltb rfl) rfl rfl q97.1 q97.2 ?_)
      refine AO.op rfl (AOp.assign rfl rfl (ltb rfl) rfl ?_)
      refine AO.nil ?_
      change AC _ _ _ _
      refine AC.ret ?_
      change RetQ _ _ _ .ret _
      obtain rfl := Option.some.inj h0
      refine retq rfl rfl
    replace h0 := cF h0 q96
    refine AC.skip ?_
    change AC _ _ _ _
    refine AC.seq ?_
    refine AC.region ?_
    refine AO.op rfl (AOp.move rfl rfl (ltb rfl) rfl ?_)
    refine AO.op rfl (AOp.move rfl rfl (ltb rfl) rfl ?_)
    refine AO.op rfl (AOp.fgeq rfl rfl (ltb rfl) rfl rfl ?_)
    refine AO.nil ?_
    change AC _ _ _ _
    refine AC.cond rfl (fun q98 => ?_) (fun q98 => ?_)
    · replace h0 := cT h0 q98
      refine AC.seq ?_
      refine AC.region ?_
      refine AO.op rfl (AOp.move rfl rfl (ltb rfl) rfl ?_)
      obtain ⟨q99, h0⟩ := need_elim h0
      refine AO.op rfl (AOp.ineg rfl rfl (ltb rfl) rfl rfl q99.1 q99.2 ?_)
      refine AO.op rfl (AOp.assign rfl rfl (ltb rfl) rfl ?_)
      refine AO.nil ?_
      change AC _ _ _ _
      refine AC.seq ?_
      refine AC.region ?_
      refine AO.op rfl (AOp.move rfl rfl (ltb rfl) rfl ?_)
      refine AO.op rfl (AOp.fneg rfl rfl (ltb rfl) rfl ?_)
      refine AO.op rfl (AOp.assign rfl rfl (ltb rfl) rfl ?_)
      refine AO.nil ?_
      change AC _ _ _ _
      refine AC.region ?_
      refine AO.op rfl (AOp.move rfl rfl (ltb rfl) rfl ?_)
      refine AO.op rfl (AOp.fneg rfl rfl (ltb rfl) rfl ?_)
      refine AO.op rfl (AOp.assign rfl rfl (ltb rfl) rfl ?_)
      refine AO.nil ?_
      exact ⟨((fneg g14.1), (fneg g14.2.2.1), (-g14.2.2.2.2)), _, rfl, (LeL.refl _), rfl, rfl, h0⟩
    replace h0 := cF h0 q98
    refine AC.seq ?_
    refine AC.region ?_
    refine AO.op rfl (AOp.move rfl rfl (ltb rfl) rfl ?_)
    obtain ⟨q100, h0⟩ := need_elim h0
    refine AO.op rfl (AOp.ineg rfl rfl (ltb rfl) rfl rfl q100.1 q100.2 ?_)
    refine AO.op rfl (AOp.assign rfl rfl (ltb rfl) rfl ?_)
    refine AO.nil ?_
    change AC _ _ _ _
    refine AC.ret ?_
    change RetQ _ _ _ .ret _
    obtain rfl := Option.some.inj h0
    refine retq rfl rfl
  intro g15 h0
  unfold p_SignOfDet2x2_k5 at h0
  obtain ⟨o16, l17, h0⟩ := bind_elim h0
  refine AC.joinE (V := Unit) [] [] 0 (fun g18 => []) (fun g18 => []) (fun g18 => p_SignOfDet2x2_k6 g18 = some r0) rfl ?_ ?_
  · refine AC.block ?_
    refine AC.loopP (V := (Nat × Nat × Nat × Nat × Int × Int)) p_SignOfDet2x2_l7 o16 [] [0, 1, 2, 3, 11, 12] 0 (fun g19 => [(0, .d (dfl g19.1)), (1, .d (dfl g19.2.1)), (2, .d (dfl g19.2.2.1)), (3, .d (dfl g19.2.2.2.1)), (11, .d (di .i64 g19.2.2.2.2.1)), (12, .d (di .i64 g19.2.2.2.2.2))]) (fun g19 => []) F (g15.1, g14.2.1, g15.2.1, g14.2.2.2.1, (0 : Int), g15.2.2) l17 rfl rfl (LeL.refl _) rfl rfl ?_
    intro n21 g19 h1
    unfold p_SignOfDet2x2_l7 at h1
    refine AC.block ?_
    refine AC.seq ?_
    refine AC.region ?_
    refine AO.op rfl (AOp.move rfl rfl (ltb rfl) rfl ?_)
    obtain ⟨q22, h1⟩ := need_elim h1
    refine AO.op rfl (AOp.iadd rfl rfl (ltb rfl) rfl rfl rfl q22.1 q22.2 ?_)
    refine AO.op rfl (AOp.assign rfl rfl (ltb rfl) rfl ?_)
    refine AO.nil ?_
    change AC _ _ _ _
    refine AC.seq ?_
    refine AC.region ?_
    refine AO.op rfl (AOp.move rfl rfl (ltb rfl) rfl ?_)
    refine AO.op rfl (AOp.move rfl rfl (ltb rfl) rfl ?_)
    obtain ⟨z23, q24, h1⟩ := bind_elim h1
    refine AO.op rfl (AOp.farith rfl rfl (ltb rfl) rfl rfl q24 ?_)
    obtain ⟨y25, q26, h1⟩ := bind_elim h1
    refine AO.op rfl (AOp.callD rfl rfl (ltb rfl) rfl rfl (w_Floor z23 y25 q26) ?_)
    rintro _ rfl
    refine AO.op rfl (AOp.assign rfl rfl (ltb rfl) rfl ?_)
    refine AO.nil ?_
    change AC _ _ _ _
    refine AC.seq ?_
    refine AC.region ?_
    refine AO.op rfl (AOp.move rfl rfl (ltb rfl) rfl ?_)
    refine AO.op rfl (AOp.move rfl rfl (ltb rfl) rfl ?_)
    refine AO.op rfl (AOp.move rfl rfl (ltb rfl) rfl ?_)
    obtain ⟨z27, q28, h1⟩ := bind_elim h1
    refine AO.op rfl (AOp.farith rfl rfl (ltb rfl) rfl rfl q28 ?_)
    obtain ⟨z29, q30, h1⟩ := bind_elim h1
    refine AO.op rfl (AOp.farith rfl rfl (ltb rfl) rfl rfl q30 ?_)
    refine AO.op rfl (AOp.assign rfl rfl (ltb rfl) rfl ?_)
    refine AO.nil ?_
    change AC _ _ _ _
    refine AC.seq ?_
    refine AC.region ?_
    refine AO.op rfl (AOp.move rfl rfl (ltb rfl) rfl ?_)
    refine AO.op rfl (AOp.move rfl rfl (ltb rfl) rfl ?_)
    refine AO.op rfl (AOp.move rfl rfl (ltb rfl) rfl ?_)
    obtain ⟨z31, q32, h1⟩ := bind_elim h1
    refine AO.op rfl (AOp.farith rfl rfl (ltb rfl) rfl rfl q32 ?_)
    obtain ⟨z33, q34, h1⟩ := bind_elim h1
    refine AO.op rfl (AOp.farith rfl rfl (ltb rfl) rfl rfl q34 ?_)
    refine AO.op rfl (AOp.assign rfl rfl (ltb rfl) rfl ?_)
    refine AO.nil ?_
    change AC _ _ _ _
    refine AC.seq ?_
    refine AC.seq ?_
    refine AC.region ?_
    refine AO.op rfl (AOp.move rfl rfl (ltb rfl) rfl ?_)
    refine AO.op rfl (AOp.flss rfl rfl (ltb rfl) rfl rfl ?_)
    refine AO.nil ?_
    change AC _ _ _ _
    refine AC.cond rfl (fun q35 => ?_) (fun q35 => ?_)
    · replace h1 := cT h1 q35
      refine AC.seq ?_
      refine AC.region ?_
      refine AO.op rfl (AOp.move rfl rfl (ltb rfl) rfl ?_)
      obtain ⟨q36, h1⟩ := need_elim h1
      refine AO.op rfl (AOp.ineg rfl rfl (ltb rfl) rfl rfl q36.1 q36.2 ?_)
      refine AO.op rfl (AOp.assign rfl rfl (ltb rfl) rfl ?_)
      refine AO.nil ?_
      change AC _ _ _ _
      refine AC.ret ?_
      change RetQ _ _ _ .ret _
      obtain rfl := Option.some.inj h1
      replace h0 := aftR h0
      obtain rfl := Option.some.inj h0
      refine retq rfl rfl
    replace h1 := cF h1 q35
    refine AC.skip ?_
    change AC _ _ _ _
    refine AC.seq ?_
    refine AC.seq ?_
    refine AC.region ?_
    refine AO.op rfl (AOp.move rfl rfl (ltb rfl) rfl ?_)
    refine AO.op rfl (AOp.move rfl rfl (ltb rfl) rfl ?_)
    refine AO.op rfl (AOp.fgtr rfl rfl (ltb rfl) rfl rfl ?_)
    refine AO.nil ?_
    change AC _ _ _ _
    refine AC.cond rfl (fun q37 => ?_) (fun q37 => ?_)
    · replace h1 := cT h1 q37
      refine AC.seq ?_
      refine AC.region ?_
      refine AO.op rfl (AOp.move rfl rfl (ltb rfl) rfl ?_)
      refine AO.op rfl (AOp.assign rfl rfl (ltb rfl) rfl ?_)
      refine AO.nil ?_
      change AC _ _ _ _
      refine AC.ret ?_
      change RetQ _ _ _ .ret _
      obtain rfl := Option.some.inj h1
      replace h0 := aftR h0
      obtain rfl := Option.some.inj h0
      refine retq rfl rfl
    replace h1 := cF h1 q37
    refine AC.skip ?_
    change AC _ _ _ _
    refine AC.joinP (V := (Nat × Nat × Int)) [0, 1, 11] [2, 3, 12] 0 (fun g38 => [(2, .d (dfl g38.1)), (3, .d (dfl g38.2.1)), (12, .d (di .i64 g38.2.2))]) (fun g38 => []) (fun g38 => (p_SignOfDet2x2_k8 g19 (iter p_SignOfDet2x2_l7 n21)) g38 = some o16) rfl ?_ ?_
    · refine AC.seq ?_
      refine AC.region ?_
      refine AO.op rfl (AOp.move rfl rfl (ltb rfl) rfl ?_)
      refine AO.op rfl (AOp.move rfl rfl (ltb rfl) rfl ?_)
      refine AO.op rfl (AOp.move rfl rfl (ltb rfl) rfl ?_)
      obtain ⟨z78, q79, h1⟩ := bind_elim h1
      refine AO.op rfl (AOp.farith rfl rfl (ltb rfl) rfl rfl q79 ?_)
      refine AO.op rfl (AOp.fgtr rfl rfl (ltb rfl) rfl rfl ?_)
      refine AO.nil ?_
      change AC _ _ _ _
      refine AC.cond rfl (fun q80 => ?_) (fun q80 => ?_)
      · replace h1 := cT h1 q80
        refine AC.seq ?_
        refine AC.region ?_
        refine AO.op rfl (AOp.move rfl rfl (ltb rfl) rfl ?_)
        refine AO.op rfl (AOp.move rfl rfl (ltb rfl) rfl ?_)
        refine AO.op rfl (AOp.move rfl rfl (ltb rfl) rfl ?_)
        obtain ⟨z81, q82, h1⟩ := bind_elim h1
        refine AO.op rfl (AOp.farith rfl rfl (ltb rfl) rfl rfl q82 ?_)
        refine AO.op rfl (AOp.flss rfl rfl (ltb rfl) rfl rfl ?_)
        refine AO.nil ?_
        change AC _ _ _ _
        refine AC.cond rfl (fun q83 => ?_) (fun q83 => ?_)
        · replace h1 := cT h1 q83
          refine AC.seq ?_
          refine AC.region ?_
          refine AO.op rfl (AOp.move rfl rfl (ltb rfl) rfl ?_)
          refine AO.op rfl (AOp.assign rfl rfl (ltb rfl) rfl ?_)
          refine AO.nil ?_
          change AC _ _ _ _
          refine AC.ret ?_
          change RetQ _ _ _ .ret _
          obtain rfl := Option.some.inj h1
          replace h0 := aftR h0
          obtain rfl := Option.some.inj h0
          refine retq rfl rfl
        replace h1 := cF h1 q83
        refine AC.skip ?_
        exact ⟨(z29, z33, g19.2.2.2.2.2), _, rfl, (LeL.refl _), rfl, rfl, h1⟩
      replace h1 := cF h1 q80
      refine AC.seq ?_
      refine AC.seq ?_
      refine AC.region ?_
      refine AO.op rfl (AOp.move rfl rfl (ltb rfl) rfl ?_)
      refine AO.op rfl (AOp.move rfl rfl (ltb rfl) rfl ?_)
      refine AO.op rfl (AOp.move rfl rfl (ltb rfl) rfl ?_)
      obtain ⟨z84, q85, h1⟩ := bind_elim h1
      refine AO.op rfl (AOp.farith rfl rfl (ltb rfl) rfl rfl q85 ?_)
      refine AO.op rfl (AOp.fgtr rfl rfl (ltb rfl) rfl rfl ?_)
      refine AO.nil ?_
      change AC _ _ _ _
      refine AC.cond rfl (fun q86 => ?_) (fun q86 => ?_)
      · replace h1 := cT h1 q86
        refine AC.seq ?_
        refine AC.region ?_
        refine AO.op rfl (AOp.move rfl rfl (ltb rfl) rfl ?_)
        obtain ⟨q87, h1⟩ := need_elim h1
        refine AO.op rfl (AOp.ineg rfl rfl (ltb rfl) rfl rfl q87.1 q87.2 ?_)
        refine AO.op rfl (AOp.assign rfl rfl (ltb rfl) rfl ?_)
        refine AO.nil ?_
        change AC _ _ _ _
        refine AC.ret ?_
        change RetQ _ _ _ .ret _
        obtain rfl := Option.some.inj h1
        replace h0 := aftR h0
        obtain rfl := Option.some.inj h0
        refine retq rfl rfl
      replace h1 := cF h1 q86
      refine AC.skip ?_
      change AC _ _ _ _
      refine AC.seq ?_
      refine AC.region ?_
      refine AO.op rfl (AOp.move rfl rfl (ltb rfl) rfl ?_)
      refine AO.op rfl (AOp.move rfl rfl (ltb rfl) rfl ?_)
      obtain ⟨z88, q89, h1⟩ := bind_elim h1
      refine AO.op rfl (AOp.farith rfl rfl (ltb rfl) rfl rfl q89 ?_)
      refine AO.op rfl (AOp.assign rfl rfl (ltb rfl) rfl ?_)
      refine AO.nil ?_
      change AC _ _ _ _
      refine AC.seq ?_
      refine AC.region ?_
      refine AO.op rfl (AOp.move rfl rfl (ltb rfl) rfl ?_)
      refine AO.op rfl (AOp.move rfl rfl (ltb rfl) rfl ?_)
      obtain ⟨z90, q91, h1⟩ := bind_elim h1
      refine AO.op rfl (AOp.farith rfl rfl (ltb rfl) rfl rfl q91 ?_)
      refine AO.op rfl (AOp.assign rfl rfl (ltb rfl) rfl ?_)
      refine AO.nil ?_
      change AC _ _ _ _
      refine AC.region ?_
      refine AO.op rfl (AOp.move rfl rfl (ltb rfl) rfl ?_)
      obtain ⟨q92, h1⟩ := need_elim h1
      refine AO.op rfl (AOp.ineg rfl rfl (ltb rfl) rfl rfl q92.1 q92.2 ?_)
      refine AO.op rfl (AOp.assign rfl rfl (ltb rfl) rfl ?_)
      refine AO.nil ?_
      exact ⟨(z88, z90, (-g19.2.2.2.2.2)), _, rfl, (LeL.refl _), rfl, rfl, h1⟩
    intro g38 h1
    unfold p_SignOfDet2x2_k8 at h1
    refine AC.seq ?_
    refine AC.seq ?_
    refine AC.region ?_
    refine AO.op rfl (AOp.move rfl rfl (ltb rfl) rfl ?_)
    refine AO.op rfl (AOp.feql rfl rfl (ltb rfl) rfl rfl ?_)
    refine AO.nil ?_
    change AC _ _ _ _
    refine AC.cond rfl (fun q39 => ?_) (fun q39 => ?_)
    · replace h1 := cT h1 q39
      refine AC.seq ?_
      refine AC.seq ?_
      refine AC.region ?_
      refine AO.op rfl (AOp.move rfl rfl (ltb rfl) rfl ?_)
      refine AO.op rfl (AOp.feql rfl rfl (ltb rfl) rfl rfl ?_)
      refine AO.nil ?_
      change AC _ _ _ _
      refine AC.cond rfl (fun q40 => ?_) (fun q40 => ?_)
      · replace h1 := cT h1 q40
        refine AC.seq ?_
        refine AC.region ?_
        refine AO.op rfl (AOp.assign rfl rfl (ltb rfl) rfl ?_)
        refine AO.nil ?_
        change AC _ _ _ _
        refine AC.ret ?_
        change RetQ _ _ _ .ret _
        obtain rfl := Option.some.inj h1
        replace h0 := aftR h0
        obtain rfl := Option.some.inj h0
        refine retq rfl rfl
      replace h1 := cF h1 q40
      refine AC.skip ?_
      change AC _ _ _ _
      refine AC.seq ?_
      refine AC.region ?_
      refine AO.op rfl (AOp.move rfl rfl (ltb rfl) rfl ?_)
      obtain ⟨q41, h1⟩ := need_elim h1
      refine AO.op rfl (AOp.ineg rfl rfl (ltb rfl) rfl rfl q41.1 q41.2 ?_)
      refine AO.op rfl (AOp.assign rfl rfl (ltb rfl) rfl ?_)
      refine AO.nil ?_
      change AC _ _ _ _
      refine AC.ret ?_
      change RetQ _ _ _ .ret _
      obtain rfl := Option.some.inj h1
      replace h0 := aftR h0
      obtain rfl := Option.some.inj h0
      refine retq rfl rfl
    replace h1 := cF h1 q39
    refine AC.skip ?_
    change AC _ _ _ _
    refine AC.seq ?_
    refine AC.seq ?_
    refine AC.region ?_
    refine AO.op rfl (AOp.move rfl rfl (ltb rfl) rfl ?_)
    refine AO.op rfl (AOp.feql rfl rfl (ltb rfl) rfl rfl ?_)
    refine AO.nil ?_
    change AC _ _ _ _
    refine AC.cond rfl (fun q42 => ?_) (fun q42 => ?_)
    · replace h1 := cT h1 q42
      refine AC.seq ?_
      refine AC.region ?_
      refine AO.op rfl (AOp.move rfl rfl (ltb rfl) rfl ?_)
      refine AO.op rfl (AOp.assign rfl rfl (ltb rfl) rfl ?_)
      refine AO.nil ?_
      change AC _ _ _ _
      refine AC.ret ?_
      change RetQ _ _ _ .ret _
      obtain rfl := Option.some.inj h1
      replace h0 := aftR h0
      obtain rfl := Option.some.inj h0
      refine retq rfl rfl
    replace h1 := cF h1 q42
    refine AC.skip ?_
    change AC _ _ _ _
    refine AC.seq ?_
    refine AC.region ?_
    refine AO.op rfl (AOp.move rfl rfl (ltb rfl) rfl ?_)
    refine AO.op rfl (AOp.move rfl rfl (ltb rfl) rfl ?_)
    obtain ⟨z43, q44, h1⟩ := bind_elim h1
    refine AO.op rfl (AOp.farith rfl rfl (ltb rfl) rfl rfl q44 ?_)
    obtain ⟨y45, q46, h1⟩ := bind_elim h1
    refine AO.op rfl (AOp.callD rfl rfl (ltb rfl) rfl rfl (w_Floor z43 y45 q46) ?_)
    rintro _ rfl
    refine AO.op rfl (AOp.assign rfl rfl (ltb rfl) rfl ?_)
    refine AO.nil ?_
    change AC _ _ _ _
    refine AC.seq ?_
    refine AC.region ?_
    refine AO.op rfl (AOp.move rfl rfl (ltb rfl) rfl ?_)
    refine AO.op rfl (AOp.move rfl rfl (ltb rfl) rfl ?_)
    refine AO.op rfl (AOp.move rfl rfl (ltb rfl) rfl ?_)
    obtain ⟨z47, q48, h1⟩ := bind_elim h1
    refine AO.op rfl (AOp.farith rfl rfl (ltb rfl) rfl rfl q48 ?_)
    obtain ⟨z49, q50, h1⟩ := bind_elim h1
    refine AO.op rfl (AOp.farith rfl rfl (ltb rfl) rfl rfl q50 ?_)
    refine AO.op rfl (AOp.assign rfl rfl (ltb rfl) rfl ?_)
    refine AO.nil ?_
    change AC _ _ _ _
    refine AC.seq ?_
    refine AC.region ?_
    refine AO.op rfl (AOp.move rfl rfl (ltb rfl) rfl ?_)
    refine AO.op rfl (AOp.move rfl rfl (ltb rfl) rfl ?_)
    refine AO.op rfl (AOp.move rfl rfl (ltb rfl) rfl ?_)
    obtain ⟨z51, q52, h1⟩ := bind_elim h1
    refine AO.op rfl (AOp.farith rfl rfl (ltb rfl) rfl rfl q52 ?_)
    obtain ⟨z53, q54, h1⟩ := bind_elim h1
    refine AO.op rfl (AOp.farith rfl rfl (ltb rfl) rfl rfl q54 ?_)
    refine AO.op rfl (AOp.assign rfl rfl (ltb rfl) rfl ?_)
    refine AO.nil ?_
    change AC _ _ _ _
    refine AC.seq ?_
    refine AC.seq ?_
    refine AC.region ?_
    refine AO.op rfl (AOp.move rfl rfl (ltb rfl) rfl ?_)
    refine AO.op rfl (AOp.flss rfl rfl (ltb rfl) rfl rfl ?_)
    refine AO.nil ?_
    change AC _ _ _ _
    refine AC.cond rfl (fun q55 => ?_) (fun q55 => ?_)
    · replace h1 := cT h1 q55
      refine AC.seq ?_
      refine AC.region ?_
      refine AO.op rfl (AOp.move rfl rfl (ltb rfl) rfl ?_)
      refine AO.op rfl (AOp.assign rfl rfl (ltb rfl) rfl ?_)
      refine AO.nil ?_
      change AC _ _ _ _
      refine AC.ret ?_
      change RetQ _ _ _ .ret _
      obtain rfl := Option.some.inj h1
      replace h0 := aftR h0
      obtain rfl := Option.some.inj h0
      refine retq rfl rfl
    replace h1 := cF h1 q55
    refine AC.skip ?_
    change AC _ _ _ _
    refine AC.seq ?_
    refine AC.seq ?_
    refine AC.region ?_
    refine AO.op rfl (AOp.move rfl rfl (ltb rfl) rfl ?_)
    refine AO.op rfl (AOp.move rfl rfl (ltb rfl) rfl ?_)
    refine AO.op rfl (AOp.fgtr rfl rfl (ltb rfl) rfl rfl ?_)
    refine AO.nil ?_
    change AC _ _ _ _
    refine AC.cond rfl (fun q56 => ?_) (fun q56 => ?_)
    · replace h1 := cT h1 q56
      refine AC.seq ?_
      refine AC.region ?_
      refine AO.op rfl (AOp.move rfl rfl (ltb rfl) rfl ?_)
      obtain ⟨q57, h1⟩ := need_elim h1
      refine AO.op rfl (AOp.ineg rfl rfl (ltb rfl) rfl rfl q57.1 q57.2 ?_)
      refine AO.op rfl (AOp.assign rfl rfl (ltb rfl) rfl ?_)
      refine AO.nil ?_
      change AC _ _ _ _
      refine AC.ret ?_
      change RetQ _ _ _ .ret _
      obtain rfl := Option.some.inj h1
      replace h0 := aftR h0
      obtain rfl := Option.some.inj h0
      refine retq rfl rfl
    replace h1 := cF h1 q56
    refine AC.skip ?_
    change AC _ _ _ _
    refine AC.joinP (V := (Nat × Nat × Int)) [2, 3, 11] [0, 1, 12] 0 (fun g58 => [(0, .d (dfl g58.1)), (1, .d (dfl g58.2.1)), (12, .d (di .i64 g58.2.2))]) (fun g58 => []) (fun g58 => (p_SignOfDet2x2_k9 g19 (iter p_SignOfDet2x2_l7 n21) g38) g58 = some o16) rfl ?_ ?_
    · refine AC.seq ?_
      refine AC.region ?_
      refine AO.op rfl (AOp.move rfl rfl (ltb rfl) rfl ?_)
      refine AO.op rfl (AOp.move rfl rfl (ltb rfl) rfl ?_)
      refine AO.op rfl (AOp.move rfl rfl (ltb rfl) rfl ?_)
      obtain ⟨z63, q64, h1⟩ := bind_elim h1
      refine AO.op rfl (AOp.farith rfl rfl (ltb rfl) rfl rfl q64 ?_)
      refine AO.op rfl (AOp.fgtr rfl rfl (ltb rfl) rfl rfl ?_)
      refine AO.nil ?_
      change AC _ _ _ _
      refine AC.cond rfl (fun q65 => ?_) (fun q65 => ?_)
      · replace h1 := cT h1 q65
        refine AC.seq ?_
        refine AC.region ?_
        refine AO.op rfl (AOp.move rfl rfl (ltb rfl) rfl ?_)
        refine AO.op rfl (AOp.move rfl rfl (ltb rfl) rfl ?_)
        refine AO.op rfl (AOp.move rfl rfl (ltb rfl) rfl ?_)
        obtain ⟨z66, q67, h1⟩ := bind_elim h1
        refine AO.op rfl (AOp.farith rfl rfl (ltb rfl) rfl rfl q67 ?_)
        refine AO.op rfl (AOp.flss rfl rfl (ltb rfl) rfl rfl ?_)
        refine AO.nil ?_
        change AC _ _ _ _
        refine AC.cond rfl (fun q68 => ?_) (fun q68 => ?_)
        · replace h1 := cT h1 q68
          refine AC.seq ?_
          refine AC.region ?_
          refine AO.op rfl (AOp.move rfl rfl (ltb rfl) rfl ?_)
          obtain ⟨q69, h1⟩ := need_elim h1
          refine AO.op rfl (AOp.ineg rfl rfl (ltb rfl) rfl rfl q69.1 q69.2 ?_)
          refine AO.op rfl (AOp.assign rfl rfl (ltb rfl) rfl ?_)
          refine AO.nil ?_
          change AC _ _ _ _
          refine AC.ret ?_
          change RetQ _ _ _ .ret _
          obtain rfl := Option.some.inj h1
          replace h0 := aftR h0
          obtain rfl := Option.some.inj h0
          refine retq rfl rfl
        replace h1 := cF h1 q68
        refine AC.skip ?_
        exact ⟨(z49, z53, g38.2.2), _, rfl, (LeL.refl _), rfl, rfl, h1⟩
      replace h1 := cF h1 q65
      refine AC.seq ?_
      refine AC.seq ?_
      refine AC.region ?_
      refine AO.op rfl (AOp.move rfl rfl (ltb rfl) rfl ?_)
      refine AO.op rfl (AOp.move rfl rfl (ltb rfl) rfl ?_)
      refine AO.op rfl (AOp.move rfl rfl (ltb rfl) rfl ?_)
      obtain ⟨z70, q71, h1⟩ := bind_elim h1
      refine AO.op rfl (AOp.farith rfl rfl (ltb rfl) rfl rfl q71 ?_)
      refine AO.op rfl (AOp.fgtr rfl rfl (ltb rfl) rfl rfl ?_)
      refine AO.nil ?_
      change AC _ _ _ _
      refine AC.cond rfl (fun q72 => ?_) (fun q72 => ?_)
      · replace h1 := cT h1 q72
        refine AC.seq ?_
        refine AC.region ?_
        refine AO.op rfl (AOp.move rfl rfl (ltb rfl) rfl ?_)
        refine AO.op rfl (AOp.assign rfl rfl (ltb rfl) rfl ?_)
        refine AO.nil ?_
        change AC _ _ _ _
        refine AC.ret ?_
        change RetQ _ _ _ .ret _
        obtain rfl := Option.some.inj h1
        replace h0 := aftR h0
        obtain rfl := Option.some.inj h0
        refine retq rfl rfl
      replace h1 := cF h1 q72
      refine AC.skip ?_
      change AC _ _ _ _
      refine AC.seq ?_
      refine AC.region ?_
      refine AO.op rfl (AOp.move rfl rfl (ltb rfl) rfl ?_)
      refine AO.op rfl (AOp.move rfl rfl (ltb rfl) rfl ?_)
      obtain ⟨z73, q74, h1⟩ := bind_elim h1
      refine AO.op rfl (AOp.farith rfl rfl (ltb rfl) rfl rfl q74 ?_)
      refine AO.op rfl (AOp.assign rfl rfl (ltb rfl) rfl ?_)
      refine AO.nil ?_
      change AC _ _ _ _
      refine AC.seq ?_
      refine AC.region ?_
      refine AO.op rfl (AOp.move rfl rfl (ltb rfl) rfl ?_)
      refine AO.op rfl (AOp.move rfl rfl (ltb rfl) rfl ?_)
      obtain ⟨z75, q76, h1⟩ := bind_elim h1
      refine AO.op rfl (AOp.farith rfl rfl (ltb rfl) rfl rfl q76 ?_)
      refine AO.op rfl (AOp.assign rfl rfl (ltb rfl) rfl ?_)
      refine AO.nil ?_
      change AC _ _ _ _
      refine AC.region ?_
      refine AO.op rfl (AOp.move rfl rfl (ltb rfl) rfl ?_)
      obtain ⟨q77, h1⟩ := need_elim h1
      refine AO.op rfl (AOp.ineg rfl rfl (ltb rfl) rfl rfl q77.1 q77.2 ?_)
      refine AO.op rfl (AOp.assign rfl rfl (ltb rfl) rfl ?_)
      refine AO.nil ?_
      exact ⟨(z73, z75, (-g38.2.2)), _, rfl, (LeL.refl _), rfl, rfl, h1⟩
    intro g58 h1
    unfold p_SignOfDet2x2_k9 at h1
    refine AC.seq ?_
    refine AC.seq ?_
    refine AC.region ?_
    refine AO.op rfl (AOp.move rfl rfl (ltb rfl) rfl ?_)
    refine AO.op rfl (AOp.feql rfl rfl (ltb rfl) rfl rfl ?_)
    refine AO.nil ?_
    change AC _ _ _ _
    refine AC.cond rfl (fun q59 => ?_) (fun q59 => ?_)
    · replace h1 := cT h1 q59
      refine AC.seq ?_
      refine AC.seq ?_
      refine AC.region ?_
      refine AO.op rfl (AOp.move rfl rfl (ltb rfl) rfl ?_)
      refine AO.op rfl (AOp.feql rfl rfl (ltb rfl) rfl rfl ?_)
      refine AO.nil ?_
      change AC _ _ _ _
      refine AC.cond rfl (fun q60 => ?_) (fun q60 => ?_)
      · replace h1 := cT h1 q60
        refine AC.seq ?_
        refine AC.region ?_
        refine AO.op rfl (AOp.assign rfl rfl (ltb rfl) rfl ?_)
        refine AO.nil ?_
        change AC _ _ _ _
        refine AC.ret ?_
        change RetQ _ _ _ .ret _
        obtain rfl := Option.some.inj h1
        replace h0 := aftR h0
        obtain rfl := Option.some.inj h0
        refine retq rfl rfl
      replace h1 := cF h1 q60
      refine AC.skip ?_
      change AC _ _ _ _
      refine AC.seq ?_
      refine AC.region ?_
      refine AO.op rfl (AOp.move rfl rfl (ltb rfl) rfl ?_)
      refine AO.op rfl (AOp.assign rfl rfl (ltb rfl) rfl ?_)
      refine AO.nil ?_
      change AC _ _ _ _
      refine AC.ret ?_
      change RetQ _ _ _ .ret _
      obtain rfl := Option.some.inj h1
      replace h0 := aftR h0
      obtain rfl := Option.some.inj h0
      refine retq rfl rfl
    replace h1 := cF h1 q59
    refine AC.skip ?_
    change AC _ _ _ _
    refine AC.seq ?_
    refine AC.region ?_
    refine AO.op rfl (AOp.move rfl rfl (ltb rfl) rfl ?_)
    refine AO.op rfl (AOp.feql rfl rfl (ltb rfl) rfl rfl ?_)
    refine AO.nil ?_
    change AC _ _ _ _
    refine AC.cond rfl (fun q61 => ?_) (fun q61 => ?_)
    · replace h1 := cT h1 q61
      refine AC.seq ?_
      refine AC.region ?_
      refine AO.op rfl (AOp.move rfl rfl (ltb rfl) rfl ?_)
      obtain ⟨q62, h1⟩ := need_elim h1
      refine AO.op rfl (AOp.ineg rfl rfl (ltb rfl) rfl rfl q62.1 q62.2 ?_)
      refine AO.op rfl (AOp.assign rfl rfl (ltb rfl) rfl ?_)
      refine AO.nil ?_
      change AC _ _ _ _
      refine AC.ret ?_
      change RetQ _ _ _ .ret _
      obtain rfl := Option.some.inj h1
      replace h0 := aftR h0
      obtain rfl := Option.some.inj h0
      refine retq rfl rfl
    replace h1 := cF h1 q61
    refine AC.skip ?_
    exact ⟨(g58.1, g58.2.1, g38.1, g38.2.1, (g19.2.2.2.2.1 + (1 : Int)), g58.2.2), _, rfl, (LeL.refl _), rfl, rfl, h1⟩
  intro g18 h0
  unfold p_SignOfDet2x2_k6 at h0
  cases h0

set_option maxRecDepth 100000 in
set_option maxHeartbeats 1000000 in
/-- pub-orthodrome/pub/gogeom/xy/inner/raycrossing.LocatePointInRing -/
theorem w_LocatePointInRing_96 (F : Nat) (a0 : Int) (a1 : (List Nat)) (a2 : (List Nat)) (r0 : Int) (h0 : p_LocatePointInRing_96 F a0 a1 a2 = some r0) : FnD Try.prog 96 [di .i64 a0, eS0 a1, eS0 a2] (fun r => r = di .i64 r0) := by
  refine FnD.of (by kernel_rfl) Try.func96 rfl Try.ntmps96 rfl (leb rfl) fun W ok => ?_
  unfold p_LocatePointInRing_96 at h0
  refine AC.seq ?_
  refine AC.region ?_
  refine AO.op rfl (AOp.assign rfl rfl (ltb rfl) rfl ?_)
  refine AO.nil ?_
  change AC _ _ _ _
  refine AC.seq ?_
  refine AC.region ?_
  refine AO.op rfl (AOp.move rfl rfl (ltb rfl) rfl ?_)
  refine AO.op rfl (AOp.build rfl rfl (ltb rfl) zero123 rfl places123 rfl rfl ?_)
  refine AO.op rfl (AOp.alloc rfl rfl (ltb rfl) zero123 rfl ?_)
  refine AO.op rfl (AOp.store rfl rfl rfl rfl size123 rfl rfl rfl (leb rfl) ?_)
  refine AO.nil ?_
  change AC _ _ _ _
  refine AC.seq ?_
  refine AC.region ?_
  refine AO.op rfl (AOp.move rfl rfl (ltb rfl) rfl ?_)
  obtain ⟨y1, q2, h0⟩ := bind_elim h0
  refine AO.op rfl (AOp.callD rfl rfl (ltb rfl) rfl rfl (w_Layout_Stride a0 y1 q2) ?_)
  rintro _ rfl
  refine AO.op rfl (AOp.assign rfl rfl (ltb rfl) rfl ?_)
  refine AO.nil ?_
  change AC _ _ _ _
  refine AC.seq ?_
  refine AC.seq ?_
  refine AC.region ?_
  refine AO.op rfl (AOp.move rfl rfl (ltb rfl) rfl ?_)
  refine AO.op rfl (AOp.assign rfl rfl (ltb rfl) rfl ?_)
  refine AO.nil ?_
  change AC _ _ _ _
  obtain ⟨o3, l4, h0⟩ := bind_elim h0
  refine AC.joinE (V := (Int × Bool)) [7] [] 1 (fun g5 => []) (fun g5 => [.fix 123 [.d (eS0 a1), .d (di .i64 g5.1), .d (dbool g5.2)]]) (fun g5 => p_LocatePointInRing_96_k1 g5 = some r0) rfl ?_ ?_
  · refine AC.block ?_
    refine AC.loopP (V := (Int × Bool × Int)) (p_LocatePointInRing_96_l2 a1 a2 F y1) o3 [2, 7, 8] [9] 1 (fun g10 => [(9, .d (di .i64 g10.1))]) (fun g10 => [.fix 123 [.d (eS0 a1), .d (di .i64 g10.2.2), .d (dbool g10.2.1)]]) F (y1, false, (0 : Int)) l4 rfl rfl (LeL.refl _) rfl rfl ?_
    intro n12 g10 h1
    unfold p_LocatePointInRing_96_l2 at h1
    refine AC.seq ?_
    refine AC.seq ?_
    refine AC.region ?_
    refine AO.op rfl (AOp.move rfl rfl (ltb rfl) rfl ?_)
    refine AO.op rfl (AOp.move rfl rfl (ltb rfl) rfl ?_)
    refine AO.op rfl (AOp.lenDs (n := a2.length) (cells := (List.map keS0 a2)) rfl rfl (ltb rfl) rfl el61 (by decide) (len1 _ _) ?_)
    refine AO.op rfl (AOp.ilss rfl rfl (ltb rfl) rfl rfl ?_)
    refine AO.nil ?_
    change AC _ _ _ _
    refine AC.cond rfl (fun q13 => ?_) (fun q13 => ?_)
    · replace h1 := cT h1 q13
      refine AC.skip ?_
      change AC _ _ _ _
      refine AC.seq ?_
      refine AC.block ?_
      refine AC.seq ?_
      refine AC.region ?_
      refine AO.op rfl (AOp.move rfl rfl (ltb rfl) rfl ?_)
      refine AO.op rfl (AOp.move rfl rfl (ltb rfl) rfl ?_)
      refine AO.op rfl (AOp.move rfl rfl (ltb rfl) rfl ?_)
      obtain ⟨q14, h1⟩ := need_elim h1
      refine AO.op rfl (AOp.iadd rfl rfl (ltb rfl) rfl rfl rfl q14.1 q14.2 ?_)
      obtain ⟨q15, h1⟩ := need_elim h1
      refine AO.op rfl (AOp.sliceD (cells := (List.map keS0 a2)) (n := a2.length) (l := (g10.1).toNat) (hh := ((g10.1 + (2 : Int))).toNat) rfl rfl (ltb rfl) rfl (.inr ⟨_, _, _, rfl, rfl, q15.1.1, rfl⟩) (.inr ⟨_, _, _, rfl, rfl, q15.1.2, rfl⟩) el61 (by decide) (len1 _ _) q15.2.1 q15.2.2 (sub1 _ _ _ _) ?_)
      refine AO.op rfl (AOp.assign rfl rfl (ltb rfl) rfl ?_)
      refine AO.nil ?_
      change AC _ _ _ _
      refine AC.seq ?_
      refine AC.region ?_
      refine AO.op rfl (AOp.move rfl rfl (ltb rfl) rfl ?_)
      refine AO.op rfl (AOp.move rfl rfl (ltb rfl) rfl ?_)
      refine AO.op rfl (AOp.move rfl rfl (ltb rfl) rfl ?_)
      obtain ⟨q16, h1⟩ := need_elim h1
      refine AO.op rfl (AOp.isub rfl rfl (ltb rfl) rfl rfl rfl q16.1 q16.2 ?_)
      refine AO.op rfl (AOp.move rfl rfl (ltb rfl) rfl ?_)
      refine AO.op rfl (AOp.move rfl rfl (ltb rfl) rfl ?_)
      obtain ⟨q17, h1⟩ := need_elim h1
      refine AO.op rfl (AOp.isub rfl rfl (ltb rfl) rfl rfl rfl q17.1 q17.2 ?_)
      obtain ⟨q18, h1⟩ := need_elim h1
      refine AO.op rfl (AOp.iadd rfl rfl (ltb rfl) rfl rfl rfl q18.1 q18.2 ?_)
      obtain ⟨q19, h1⟩ := need_elim h1
      refine AO.op rfl (AOp.sliceD (cells := (List.map keS0 a2)) (n := a2.length) (l := ((g10.1 - y1)).toNat) (hh := (((g10.1 - y1) + (2 : Int))).toNat) rfl rfl (ltb rfl) rfl (.inr ⟨_, _, _, rfl, rfl, q19.1.1, rfl⟩) (.inr ⟨_, _, _, rfl, rfl, q19.1.2, rfl⟩) el61 (by decide) (len1 _ _) q19.2.1 q19.2.2 (sub1 _ _ _ _) ?_)
      refine AO.op rfl (AOp.assign rfl rfl (ltb rfl) rfl ?_)
      refine AO.nil ?_
      change AC _ _ _ _
      refine AC.seq ?_
      refine AC.region ?_
      refine AO.op rfl (AOp.move rfl rfl (ltb rfl) rfl ?_)
      refine AO.op rfl (AOp.move rfl rfl (ltb rfl) rfl ?_)
      refine AO.op rfl (AOp.inl [2, 7, 8, 9] (by kernel_rfl) Try.func102 rfl Try.ntmps102 rfl rfl (ltb rfl) rfl (leb rfl) rfl ?_)
      intro fr20
      refine AC.seq ?_
      refine AC.joinP (V := Bool) [0, 1, 2] [34] 2 (fun g21 => [(34, .d (dbool g21))]) (fun g21 => [.fix 123 [.d (eS0 a1), .d (di .i64 g10.2.2), .d (dbool g10.2.1)], .frame fr20 [(2, .d (eS0 a2)), (7, .ptr 0 0), (8, .d (di .i64 y1)), (9, .d (di .i64 g10.1))]]) (fun g21 => (p_LocatePointInRing_96_k3 a1 a2 F y1 g10 (iter (p_LocatePointInRing_96_l2 a1 a2 F y1) n12)) g21 = some o3) rfl ?_ ?_
      · refine AC.draw 22 mixed (by kernel_rfl) ?_
        refine AD.op [1] rfl (by kernel_rfl) rfl rfl (fun _ _ h => AOp.move rfl rfl (ltb rfl) rfl h) ?_
        obtain ⟨x156, q157, h1⟩ := idx_elim h1
        refine AD.op [13] rfl (by kernel_rfl) rfl rfl (fun _ _ h => AOp.indexDs (cells := (List.map keS0 ((a2.drop (g10.1).toNat).take (((g10.1 + (2 : Int))).toNat - (g10.1).toNat)))) rfl rfl (ltb rfl) rfl rfl el79 (by decide) q157.1 (lt1 q157.2) h) ?_
        refine AD.op [14] rfl (by kernel_rfl) rfl rfl (fun _ _ h => AOp.loadEp rfl rfl (ltb rfl) rfl agg22 (at1 q157.2) h) ?_
        refine AD.op [0] rfl (by kernel_rfl) rfl rfl (fun _ _ h => AOp.move rfl rfl (ltb rfl) rfl h) ?_
        refine AD.op [16] rfl (by kernel_rfl) rfl rfl (fun _ _ h => AOp.nilCheck rfl rfl (ltb rfl) rfl rfl h) ?_
        refine AD.op [17] rfl (by kernel_rfl) rfl rfl (fun _ _ h => AOp.fieldAddr rfl rfl (ltb rfl) rfl fo123_0 h) ?_
        refine AD.op [18] rfl (by kernel_rfl) rfl rfl (fun _ _ h => AOp.load1 rfl rfl (ltb rfl) rfl agg79 rfl rfl h) ?_
        obtain ⟨x158, q159, h1⟩ := idx_elim h1
        refine AD.op [19] rfl (by kernel_rfl) rfl rfl (fun _ _ h => AOp.indexDs (cells := (List.map keS0 a1)) rfl rfl (ltb rfl) rfl rfl el79 (by decide) q159.1 (lt1 q159.2) h) ?_
        refine AD.op [20] rfl (by kernel_rfl) rfl rfl (fun _ _ h => AOp.loadEp rfl rfl (ltb rfl) rfl agg22 (at1 q159.2) h) ?_
        refine AD.op [15, 21] rfl (by kernel_rfl) rfl rfl (fun _ _ h => AOp.flss rfl rfl (ltb rfl) rfl rfl h) ?_
        refine AD.op [22] rfl (by kernel_rfl) rfl rfl (fun _ _ h => AOp.move rfl rfl (ltb rfl) rfl h) ?_
        refine AD.dec (flt x156 x158) (fun q160 => ?_) (fun q160 => ?_)
        · replace h1 := cT h1 q160
          refine AD.opY [2, 23] rfl rfl rfl q160 (by kernel_rfl) rfl rfl (fun _ _ h => AOp.move rfl rfl (ltb rfl) rfl h) ?_
          obtain ⟨x161, q162, h1⟩ := idx_elim h1
          refine AD.opY [23, 24] rfl rfl rfl q160 (by kernel_rfl) rfl rfl (fun _ _ h => AOp.indexDs (cells := (List.map keS0 ((a2.drop ((g10.1 - y1)).toNat).take ((((g10.1 - y1) + (2 : Int))).toNat - ((g10.1 - y1)).toNat)))) rfl rfl (ltb rfl) rfl rfl el79 (by decide) q162.1 (lt1 q162.2) h) ?_
          refine AD.opY [23, 25] rfl rfl rfl q160 (by kernel_rfl) rfl rfl (fun _ _ h => AOp.loadEp rfl rfl (ltb rfl) rfl agg22 (at1 q162.2) h) ?_
          refine AD.opY [0, 23] rfl rfl rfl q160 (by kernel_rfl) rfl rfl (fun _ _ h => AOp.move rfl rfl (ltb rfl) rfl h) ?_
          refine AD.opY [23, 27] rfl rfl rfl q160 (by kernel_rfl) rfl rfl (fun _ _ h => AOp.nilCheck rfl rfl (ltb rfl) rfl rfl h) ?_
          refine AD.opY [23, 28] rfl rfl rfl q160 (by kernel_rfl) rfl rfl (fun _ _ h => AOp.fieldAddr rfl rfl (ltb rfl) rfl fo123_0 h) ?_
          refine AD.opY [23, 29] rfl rfl rfl q160 (by kernel_rfl) rfl rfl (fun _ _ h => AOp.load1 rfl rfl (ltb rfl) rfl agg79 rfl rfl h) ?_
          obtain ⟨x163, q164, h1⟩ := idx_elim h1
          refine AD.opY [23, 30] rfl rfl rfl q160 (by kernel_rfl) rfl rfl (fun _ _ h => AOp.indexDs (cells := (List.map keS0 a1)) rfl rfl (ltb rfl) rfl rfl el79 (by decide) q164.1 (lt1 q164.2) h) ?_
          refine AD.opY [23, 31] rfl rfl rfl q160 (by kernel_rfl) rfl rfl (fun _ _ h => AOp.loadEp rfl rfl (ltb rfl) rfl agg22 (at1 q164.2) h) ?_
          refine AD.opY [23, 26, 32] rfl rfl rfl q160 (by kernel_rfl) rfl rfl (fun _ _ h => AOp.flss rfl rfl (ltb rfl) rfl rfl h) ?_
          refine AD.op [23, 33] rfl (by kernel_rfl) rfl rfl (fun _ _ h => AOp.pick rfl rfl (ltb rfl) rfl q160 rfl h) ?_
          refine AD.done ?_
          refine AO.nil ?_
          exact ⟨(flt x161 x163), _, rfl, (LeL.refl _), rfl, rfl, h1⟩
        replace h1 := cF h1 q160
        refine AD.opN rfl rfl rfl (ltb rfl) rfl q160 ?_
        refine AD.opN rfl rfl rfl (ltb rfl) rfl q160 ?_
        refine AD.opN rfl rfl rfl (ltb rfl) rfl q160 ?_
        refine AD.opN rfl rfl rfl (ltb rfl) rfl q160 ?_
        refine AD.opN rfl rfl rfl (ltb rfl) rfl q160 ?_
        refine AD.opN rfl rfl rfl (ltb rfl) rfl q160 ?_
        refine AD.opN rfl rfl rfl (ltb rfl) rfl q160 ?_
        refine AD.opN rfl rfl rfl (ltb rfl) rfl q160 ?_
        refine AD.opN rfl rfl rfl (ltb rfl) rfl q160 ?_
        refine AD.opN rfl rfl rfl (ltb rfl) rfl q160 ?_
        refine AD.op [23, 33] rfl (by kernel_rfl) rfl rfl (fun _ _ h => AOp.pickN rfl rfl (ltb rfl) rfl q160 rfl h) ?_
        refine AD.done ?_
        refine AO.nil ?_
        exact ⟨false, _, rfl, (LeL.refl _), rfl, rfl, h1⟩
      intro g21 h1
      unfold p_LocatePointInRing_96_k3 at h1
      refine AC.cond rfl (fun q22 => ?_) (fun q22 => ?_)
      · replace h1 := cT h1 q22
        refine AC.ret ?_
        refine inlret (ob' := [.fix 123 [.d (eS0 a1), .d (di .i64 g10.2.2), .d (dbool g10.2.1)], .dead]) (e' := [(2, .d (eS0 a2)), (7, .ptr 0 0), (8, .d (di .i64 y1)), (9, .d (di .i64 g10.1))]) (r := .tu []) rfl rfl rfl ?_
        change AO _ _ _ _ _
        refine AO.nil ?_
        change AC _ _ _ _
        refine AC.seq ?_
        refine AC.region ?_
        refine AO.op rfl (AOp.fieldAddr rfl rfl (ltb rfl) rfl fo123_2 ?_)
        refine AO.op rfl (AOp.load1 rfl rfl (ltb rfl) rfl agg4 rfl rfl ?_)
        refine AO.nil ?_
        change AC _ _ _ _
        refine AC.cond rfl (fun q23 => ?_) (fun q23 => ?_)
        · replace h1 := cT h1 q23
          refine AC.seq ?_
          refine AC.region ?_
          refine AO.op rfl (AOp.inl [] (by kernel_rfl) Try.func103 rfl Try.ntmps103 rfl rfl (ltb rfl) rfl (leb rfl) rfl ?_)
          intro fr24
          refine AC.seq ?_
          refine AC.region ?_
          refine AO.op rfl (AOp.assign rfl rfl (ltb rfl) rfl ?_)
          refine AO.nil ?_
          change AC _ _ _ _
          refine AC.seq ?_
          refine AC.seq ?_
          refine AC.region ?_
          refine AO.op rfl (AOp.move rfl rfl (ltb rfl) rfl ?_)
          refine AO.op rfl (AOp.nilCheck rfl rfl (ltb rfl) rfl rfl ?_)
          refine AO.op rfl (AOp.fieldAddr rfl rfl (ltb rfl) rfl fo123_2 ?_)
          refine AO.op rfl (AOp.load1 rfl rfl (ltb rfl) rfl agg4 rfl rfl ?_)
          refine AO.nil ?_
          change AC _ _ _ _
          refine AC.cond rfl (fun q25 => ?_) (fun q25 => ?_)
          · replace h1 := cT h1 q25
            refine AC.seq ?_
            refine AC.region ?_
            refine AO.op rfl (AOp.assign rfl rfl (ltb rfl) rfl ?_)
            refine AO.nil ?_
            change AC _ _ _ _
            refine AC.ret ?_
            refine inlret (ob' := [.fix 123 [.d (eS0 a1), .d (di .i64 g10.2.2), .d (dbool g10.2.1)], .dead, .dead]) (e' := []) (r := .d (di .i64 (1 : Int))) rfl rfl rfl ?_
            change AO _ _ _ _ _
            refine AO.op rfl (AOp.assign rfl rfl (ltb rfl) rfl ?_)
            refine AO.nil ?_
            change AC _ _ _ _
            refine AC.ret ?_
            change RetQ _ _ _ .ret _
            obtain rfl := Option.some.inj h1
            replace h0 := aftR h0
            obtain rfl := Option.some.inj h0
            refine retq rfl rfl
          replace h1 := cF h1 q25
          refine AC.skip ?_
          change AC _ _ _ _
          refine AC.seq ?_
          refine AC.seq ?_
          refine AC.region ?_
          refine AO.op rfl (AOp.move rfl rfl (ltb rfl) rfl ?_)
          refine AO.op rfl (AOp.nilCheck rfl rfl (ltb rfl) rfl rfl ?_)
          refine AO.op rfl (AOp.fieldAddr rfl rfl (ltb rfl) rfl fo123_1 ?_)
          refine AO.op rfl (AOp.load1 rfl rfl (ltb rfl) rfl agg3 rfl rfl ?_)
          obtain ⟨q26, h1⟩ := need_elim h1
          refine AO.op rfl (AOp.irem rfl rfl (ltb rfl) rfl rfl q26 rfl ?_)
          refine AO.op rfl (AOp.ieql rfl rfl (ltb rfl) rfl rfl ?_)
          refine AO.nil ?_
          change AC _ _ _ _
          refine AC.cond rfl (fun q27 => ?_) (fun q27 => ?_)
          · replace h1 := cT h1 q27
            refine AC.seq ?_
            refine AC.region ?_
            refine AO.op rfl (AOp.assign rfl rfl (ltb rfl) rfl ?_)
            refine AO.nil ?_
            change AC _ _ _ _
            refine AC.ret ?_
            refine inlret (ob' := [.fix 123 [.d (eS0 a1), .d (di .i64 g10.2.2), .d (dbool g10.2.1)], .dead, .dead]) (e' := []) (r := .d (di .i64 (0 : Int))) rfl rfl rfl ?_
            change AO _ _ _ _ _
            refine AO.op rfl (AOp.assign rfl rfl (ltb rfl) rfl ?_)
            refine AO.nil ?_
            change AC _ _ _ _
            refine AC.ret ?_
            change RetQ _ _ _ .ret _
            obtain rfl := Option.some.inj h1
            replace h0 := aftR h0
            obtain rfl := Option.some.inj h0
            refine retq rfl rfl
          replace h1 := cF h1 q27
          refine AC.skip ?_
          change AC _ _ _ _
          refine AC.seq ?_
          refine AC.region ?_
          refine AO.op rfl (AOp.assign rfl rfl (ltb rfl) rfl ?_)
          refine AO.nil ?_
          change AC _ _ _ _
          refine AC.ret ?_
          refine inlret (ob' := [.fix 123 [.d (eS0 a1), .d (di .i64 g10.2.2), .d (dbool g10.2.1)], .dead, .dead]) (e' := []) (r := .d (di .i64 (2 : Int))) rfl rfl rfl ?_
          change AO _ _ _ _ _
          refine AO.op rfl (AOp.assign rfl rfl (ltb rfl) rfl ?_)
          refine AO.nil ?_
          change AC _ _ _ _
          refine AC.ret ?_
          change RetQ _ _ _ .ret _
          obtain rfl := Option.some.inj h1
          replace h0 := aftR h0
          obtain rfl := Option.some.inj h0
          refine retq rfl rfl
        replace h1 := cF h1 q23
        refine AC.skip ?_
        change AC _ _ _ _
        refine AC.region ?_
        refine AO.op rfl (AOp.move rfl rfl (ltb rfl) rfl ?_)
        refine AO.op rfl (AOp.move rfl rfl (ltb rfl) rfl ?_)
        obtain ⟨q28, h1⟩ := need_elim h1
        refine AO.op rfl (AOp.iadd rfl rfl (ltb rfl) rfl rfl rfl q28.1 q28.2 ?_)
        refine AO.op rfl (AOp.assign rfl rfl (ltb rfl) rfl ?_)
        refine AO.nil ?_
        exact ⟨((g10.1 + y1), g10.2.1, g10.2.2), _, rfl, (LeL.refl _), rfl, rfl, h1⟩
      replace h1 := cF h1 q22
      refine AC.skip ?_
      change AC _ _ _ _
      refine AC.seq ?_
      refine AC.joinP (V := Bool) [0, 1, 2] [56] 2 (fun g29 => [(56, .d (dbool g29))]) (fun g29 => [.fix 123 [.d (eS0 a1), .d (di .i64 g10.2.2), .d (dbool g10.2.1)], .frame fr20 [(2, .d (eS0 a2)), (7, .ptr 0 0), (8, .d (di .i64 y1)), (9, .d (di .i64 g10.1))]]) (fun g29 => (p_LocatePointInRing_96_k4 a1 a2 F y1 g10 (iter (p_LocatePointInRing_96_l2 a1 a2 F y1) n12)) g29 = some o3) rfl ?_ ?_
      · refine AC.draw 22 mixed (by kernel_rfl) ?_
        refine AD.op [0] rfl (by kernel_rfl) rfl rfl (fun _ _ h => AOp.move rfl rfl (ltb rfl) rfl h) ?_
        refine AD.op [35] rfl (by kernel_rfl) rfl rfl (fun _ _ h => AOp.nilCheck rfl rfl (ltb rfl) rfl rfl h) ?_
        refine AD.op [36] rfl (by kernel_rfl) rfl rfl (fun _ _ h => AOp.fieldAddr rfl rfl (ltb rfl) rfl fo123_0 h) ?_
        refine AD.op [37] rfl (by kernel_rfl) rfl rfl (fun _ _ h => AOp.load1 rfl rfl (ltb rfl) rfl agg79 rfl rfl h) ?_
        obtain ⟨x147, q148, h1⟩ := idx_elim h1
        refine AD.op [38] rfl (by kernel_rfl) rfl rfl (fun _ _ h => AOp.indexDs (cells := (List.map keS0 a1)) rfl rfl (ltb rfl) rfl rfl el79 (by decide) q148.1 (lt1 q148.2) h) ?_
        refine AD.op [39] rfl (by kernel_rfl) rfl rfl (fun _ _ h => AOp.loadEp rfl rfl (ltb rfl) rfl agg22 (at1 q148.2) h) ?_
        refine AD.op [2] rfl (by kernel_rfl) rfl rfl (fun _ _ h => AOp.move rfl rfl (ltb rfl) rfl h) ?_
        obtain ⟨x149, q150, h1⟩ := idx_elim h1
        refine AD.op [41] rfl (by kernel_rfl) rfl rfl (fun _ _ h => AOp.indexDs (cells := (List.map keS0 ((a2.drop ((g10.1 - y1)).toNat).take ((((g10.1 - y1) + (2 : Int))).toNat - ((g10.1 - y1)).toNat)))) rfl rfl (ltb rfl) rfl rfl el79 (by decide) q150.1 (lt1 q150.2) h) ?_
        refine AD.op [42] rfl (by kernel_rfl) rfl rfl (fun _ _ h => AOp.loadEp rfl rfl (ltb rfl) rfl agg22 (at1 q150.2) h) ?_
        refine AD.op [40, 43] rfl (by kernel_rfl) rfl rfl (fun _ _ h => AOp.feql rfl rfl (ltb rfl) rfl rfl h) ?_
        refine AD.op [44] rfl (by kernel_rfl) rfl rfl (fun _ _ h => AOp.move rfl rfl (ltb rfl) rfl h) ?_
        refine AD.dec (feq x147 x149) (fun q151 => ?_) (fun q151 => ?_)
        · replace h1 := cT h1 q151
          refine AD.opY [0, 45] rfl rfl rfl q151 (by kernel_rfl) rfl rfl (fun _ _ h => AOp.move rfl rfl (ltb rfl) rfl h) ?_
          refine AD.opY [45, 46] rfl rfl rfl q151 (by kernel_rfl) rfl rfl (fun _ _ h => AOp.nilCheck rfl rfl (ltb rfl) rfl rfl h) ?_
          refine AD.opY [45, 47] rfl rfl rfl q151 (by kernel_rfl) rfl rfl (fun _ _ h => AOp.fieldAddr rfl rfl (ltb rfl) rfl fo123_0 h) ?_
          refine AD.opY [45, 48] rfl rfl rfl q151 (by kernel_rfl) rfl rfl (fun _ _ h => AOp.load1 rfl rfl (ltb rfl) rfl agg79 rfl rfl h) ?_
          obtain ⟨x152, q153, h1⟩ := idx_elim h1
          refine AD.opY [45, 49] rfl rfl rfl q151 (by kernel_rfl) rfl rfl (fun _ _ h => AOp.indexDs (cells := (List.map keS0 a1)) rfl rfl (ltb rfl) rfl rfl el79 (by decide) q153.1 (lt1 q153.2) h) ?_
          refine AD.opY [45, 50] rfl rfl rfl q151 (by kernel_rfl) rfl rfl (fun _ _ h => AOp.loadEp rfl rfl (ltb rfl) rfl agg22 (at1 q153.2) h) ?_
          refine AD.opY [2, 45] rfl rfl rfl q151 (by kernel_rfl) rfl rfl (fun _ _ h => AOp.move rfl rfl (ltb rfl) rfl h) ?_
          obtain ⟨x154, q155, h1⟩ := idx_elim h1
          refine AD.opY [45, 52] rfl rfl rfl q151 (by kernel_rfl) rfl rfl (fun _ _ h => AOp.indexDs (cells := (List.map keS0 ((a2.drop ((g10.1 - y1)).toNat).take ((((g10.1 - y1) + (2 : Int))).toNat - ((g10.1 - y1)).toNat)))) rfl rfl (ltb rfl) rfl rfl el79 (by decide) q155.1 (lt1 q155.2) h) ?_
          refine AD.opY [45, 53] rfl rfl rfl q151 (by kernel_rfl) rfl rfl (fun _ _ h => AOp.loadEp rfl rfl (ltb rfl) rfl agg22 (at1 q155.2) h) ?_
          refine AD.opY [45, 51, 54] rfl rfl rfl q151 (by kernel_rfl) rfl rfl (fun _ _ h => AOp.feql rfl rfl (ltb rfl) rfl rfl h) ?_
          refine AD.op [45, 55] rfl (by kernel_rfl) rfl rfl (fun _ _ h => AOp.pick rfl rfl (ltb rfl) rfl q151 rfl h) ?_
          refine AD.done ?_
          refine AO.nil ?_
          exact ⟨(feq x152 x154), _, rfl, (LeL.refl _), rfl, rfl, h1⟩
        replace h1 := cF h1 q151
        refine AD.opN rfl rfl rfl (ltb rfl) rfl q151 ?_
        refine AD.opN rfl rfl rfl (ltb rfl) rfl q151 ?_
        refine AD.opN rfl rfl rfl (ltb rfl) rfl q151 ?_
        refine AD.opN rfl rfl rfl (ltb rfl) rfl q151 ?_
        refine AD.opN rfl rfl rfl (ltb rfl) rfl q151 ?_
        refine AD.opN rfl rfl rfl (ltb rfl) rfl q151 ?_
        refine AD.opN rfl rfl rfl (ltb rfl) rfl q151 ?_
        refine AD.opN rfl rfl rfl (ltb rfl) rfl q151 ?_
        refine AD.opN rfl rfl rfl (ltb rfl) rfl q151 ?_
        refine AD.opN rfl rfl rfl (ltb rfl) rfl q151 ?_
        refine AD.op [45, 55] rfl (by kernel_rfl) rfl rfl (fun _ _ h => AOp.pickN rfl rfl (ltb rfl) rfl q151 rfl h) ?_
        refine AD.done ?_
        refine AO.nil ?_
        exact ⟨false, _, rfl, (LeL.refl _), rfl, rfl, h1⟩
      intro g29 h1
      unfold p_LocatePointInRing_96_k4 at h1
      refine AC.cond rfl (fun q30 => ?_) (fun q30 => ?_)
      · replace h1 := cT h1 q30
        refine AC.seq ?_
        refine AC.region ?_
        refine AO.op rfl (AOp.move rfl rfl (ltb rfl) rfl ?_)
        refine AO.op rfl (AOp.nilCheck rfl rfl (ltb rfl) rfl rfl ?_)
        refine AO.op rfl (AOp.fieldAddr rfl rfl (ltb rfl) rfl fo123_2 ?_)
        refine AO.op rfl (AOp.store rfl rfl rfl rfl size4 rfl rfl rfl (leb rfl) ?_)
        refine AO.nil ?_
        change AC _ _ _ _
        refine AC.ret ?_
        refine inlret (ob' := [.fix 123 [.d (eS0 a1), .d (di .i64 g10.2.2), .d (dbool true)], .dead]) (e' := [(2, .d (eS0 a2)), (7, .ptr 0 0), (8, .d (di .i64 y1)), (9, .d (di .i64 g10.1))]) (r := .tu []) rfl rfl rfl ?_
        change AO _ _ _ _ _
        refine AO.nil ?_
        change AC _ _ _ _
        refine AC.seq ?_
        refine AC.region ?_
        refine AO.op rfl (AOp.fieldAddr rfl rfl (ltb rfl) rfl fo123_2 ?_)
        refine AO.op rfl (AOp.load1 rfl rfl (ltb rfl) rfl agg4 rfl rfl ?_)
        refine AO.nil ?_
        change AC _ _ _ _
        refine AC.condT rfl rfl ?_
        refine AC.seq ?_
        refine AC.region ?_
        refine AO.op rfl (AOp.inl [] (by kernel_rfl) Try.func103 rfl Try.ntmps103 rfl rfl (ltb rfl) rfl (leb rfl) rfl ?_)
        intro fr31
        refine AC.seq ?_
        refine AC.region ?_
        refine AO.op rfl (AOp.assign rfl rfl (ltb rfl) rfl ?_)
        refine AO.nil ?_
        change AC _ _ _ _
        refine AC.seq ?_
        refine AC.seq ?_
        refine AC.region ?_
        refine AO.op rfl (AOp.move rfl rfl (ltb rfl) rfl ?_)
        refine AO.op rfl (AOp.nilCheck rfl rfl (ltb rfl) rfl rfl ?_)
        refine AO.op rfl (AOp.fieldAddr rfl rfl (ltb rfl) rfl fo123_2 ?_)
        refine AO.op rfl (AOp.load1 rfl rfl (ltb rfl) rfl agg4 rfl rfl ?_)
        refine AO.nil ?_
        change AC _ _ _ _
        refine AC.condT rfl rfl ?_
        refine AC.seq ?_
        refine AC.region ?_
        refine AO.op rfl (AOp.assign rfl rfl (ltb rfl) rfl ?_)
        refine AO.nil ?_
        change AC _ _ _ _
        refine AC.ret ?_
        refine inlret (ob' := [.fix 123 [.d (eS0 a1), .d (di .i64 g10.2.2), .d (dbool true)], .dead, .dead]) (e' := []) (r := .d (di .i64 (1 : Int))) rfl rfl rfl ?_
        change AO _ _ _ _ _
        refine AO.op rfl (AOp.assign rfl rfl (ltb rfl) rfl ?_)
        refine AO.nil ?_
        change AC _ _ _ _
        refine AC.ret ?_
        change RetQ _ _ _ .ret _
        obtain rfl := Option.some.inj h1
        replace h0 := aftR h0
        obtain rfl := Option.some.inj h0
        refine retq rfl rfl
      replace h1 := cF h1 q30
      refine AC.skip ?_
      change AC _ _ _ _
      refine AC.seq ?_
      refine AC.joinP (V := Bool) [0, 1, 2] [81] 2 (fun g32 => [(81, .d (dbool g32))]) (fun g32 => [.fix 123 [.d (eS0 a1), .d (di .i64 g10.2.2), .d (dbool g10.2.1)], .frame fr20 [(2, .d (eS0 a2)), (7, .ptr 0 0), (8, .d (di .i64 y1)), (9, .d (di .i64 g10.1))]]) (fun g32 => (p_LocatePointInRing_96_k5 a1 a2 F y1 g10 (iter (p_LocatePointInRing_96_l2 a1 a2 F y1) n12)) g32 = some o3) rfl ?_ ?_
      · refine AC.draw 22 mixed (by kernel_rfl) ?_
        refine AD.op [1] rfl (by kernel_rfl) rfl rfl (fun _ _ h => AOp.move rfl rfl (ltb rfl) rfl h) ?_
        obtain ⟨x138, q139, h1⟩ := idx_elim h1
        refine AD.op [60] rfl (by kernel_rfl) rfl rfl (fun _ _ h => AOp.indexDs (cells := (List.map keS0 ((a2.drop (g10.1).toNat).take (((g10.1 + (2 : Int))).toNat - (g10.1).toNat)))) rfl rfl (ltb rfl) rfl rfl el79 (by decide) q139.1 (lt1 q139.2) h) ?_
        refine AD.op [61] rfl (by kernel_rfl) rfl rfl (fun _ _ h => AOp.loadEp rfl rfl (ltb rfl) rfl agg22 (at1 q139.2) h) ?_
        refine AD.op [0] rfl (by kernel_rfl) rfl rfl (fun _ _ h => AOp.move rfl rfl (ltb rfl) rfl h) ?_
        refine AD.op [63] rfl (by kernel_rfl) rfl rfl (fun _ _ h => AOp.nilCheck rfl rfl (ltb rfl) rfl rfl h) ?_
        refine AD.op [64] rfl (by kernel_rfl) rfl rfl (fun _ _ h => AOp.fieldAddr rfl rfl (ltb rfl) rfl fo123_0 h) ?_
        refine AD.op [65] rfl (by kernel_rfl) rfl rfl (fun _ _ h => AOp.load1 rfl rfl (ltb rfl) rfl agg79 rfl rfl h) ?_
        obtain ⟨x140, q141, h1⟩ := idx_elim h1
        refine AD.op [66] rfl (by kernel_rfl) rfl rfl (fun _ _ h => AOp.indexDs (cells := (List.map keS0 a1)) rfl rfl (ltb rfl) rfl rfl el79 (by decide) q141.1 (lt1 q141.2) h) ?_
        refine AD.op [67] rfl (by kernel_rfl) rfl rfl (fun _ _ h => AOp.loadEp rfl rfl (ltb rfl) rfl agg22 (at1 q141.2) h) ?_
        refine AD.op [62, 68] rfl (by kernel_rfl) rfl rfl (fun _ _ h => AOp.feql rfl rfl (ltb rfl) rfl rfl h) ?_
        refine AD.op [69] rfl (by kernel_rfl) rfl rfl (fun _ _ h => AOp.move rfl rfl (ltb rfl) rfl h) ?_
        refine AD.dec (feq x138 x140) (fun q142 => ?_) (fun q142 => ?_)
        · replace h1 := cT h1 q142
          refine AD.opY [2, 70] rfl rfl rfl q142 (by kernel_rfl) rfl rfl (fun _ _ h => AOp.move rfl rfl (ltb rfl) rfl h) ?_
          obtain ⟨x143, q144, h1⟩ := idx_elim h1
          refine AD.opY [70, 71] rfl rfl rfl q142 (by kernel_rfl) rfl rfl (fun _ _ h => AOp.indexDs (cells := (List.map keS0 ((a2.drop ((g10.1 - y1)).toNat).take ((((g10.1 - y1) + (2 : Int))).toNat - ((g10.1 - y1)).toNat)))) rfl rfl (ltb rfl) rfl rfl el79 (by decide) q144.1 (lt1 q144.2) h) ?_
          refine AD.opY [70, 72] rfl rfl rfl q142 (by kernel_rfl) rfl rfl (fun _ _ h => AOp.loadEp rfl rfl (ltb rfl) rfl agg22 (at1 q144.2) h) ?_
          refine AD.opY [0, 70] rfl rfl rfl q142 (by kernel_rfl) rfl rfl (fun _ _ h => AOp.move rfl rfl (ltb rfl) rfl h) ?_
          refine AD.opY [70, 74] rfl rfl rfl q142 (by kernel_rfl) rfl rfl (fun _ _ h => AOp.nilCheck rfl rfl (ltb rfl) rfl rfl h) ?_
          refine AD.opY [70, 75] rfl rfl rfl q142 (by kernel_rfl) rfl rfl (fun _ _ h => AOp.fieldAddr rfl rfl (ltb rfl) rfl fo123_0 h) ?_
          refine AD.opY [70, 76] rfl rfl rfl q142 (by kernel_rfl) rfl rfl (fun _ _ h => AOp.load1 rfl rfl (ltb rfl) rfl agg79 rfl rfl h) ?_
          obtain ⟨x145, q146, h1⟩ := idx_elim h1
          refine AD.opY [70, 77] rfl rfl rfl q142 (by kernel_rfl) rfl rfl (fun _ _ h => AOp.indexDs (cells := (List.map keS0 a1)) rfl rfl (ltb rfl) rfl rfl el79 (by decide) q146.1 (lt1 q146.2) h) ?_
          refine AD.opY [70, 78] rfl rfl rfl q142 (by kernel_rfl) rfl rfl (fun _ _ h => AOp.loadEp rfl rfl (ltb rfl) rfl agg22 (at1 q146.2) h) ?_
          refine AD.opY [70, 73, 79] rfl rfl rfl q142 (by kernel_rfl) rfl rfl (fun _ _ h => AOp.feql rfl rfl (ltb rfl) rfl rfl h) ?_
          refine AD.op [70, 80] rfl (by kernel_rfl) rfl rfl (fun _ _ h => AOp.pick rfl rfl (ltb rfl) rfl q142 rfl h) ?_
          refine AD.done ?_
          refine AO.nil ?_
          exact ⟨(feq x143 x145), _, rfl, (LeL.refl _), rfl, rfl, h1⟩
        replace h1 := cF h1 q142
        refine AD.opN rfl rfl rfl (ltb rfl) rfl q142 ?_
        refine AD.opN rfl rfl rfl (ltb rfl) rfl q142 ?_
        refine AD.opN rfl rfl rfl (ltb rfl) rfl q142 ?_
        refine AD.opN rfl rfl rfl (ltb rfl) rfl q142 ?_
        refine AD.opN rfl rfl rfl (ltb rfl) rfl q142 ?_
        refine AD.opN rfl rfl rfl (ltb rfl) rfl q142 ?_
        refine AD.opN rfl rfl rfl (ltb rfl) rfl q142 ?_
        refine AD.opN rfl rfl rfl (ltb rfl) rfl q142 ?_
        refine AD.opN rfl rfl rfl (ltb rfl) rfl q142 ?_
        refine AD.opN rfl rfl rfl (ltb rfl) rfl q142 ?_
        refine AD.op [70, 80] rfl (by kernel_rfl) rfl rfl (fun _ _ h => AOp.pickN rfl rfl (ltb rfl) rfl q142 rfl h) ?_
        refine AD.done ?_
        refine AO.nil ?_
        exact ⟨false, _, rfl, (LeL.refl _), rfl, rfl, h1⟩
      intro g32 h1
      unfold p_LocatePointInRing_96_k5 at h1
      refine AC.cond rfl (fun q33 => ?_) (fun q33 => ?_)
      · replace h1 := cT h1 q33
        refine AC.seq ?_
        refine AC.region ?_
        refine AO.op rfl (AOp.move rfl rfl (ltb rfl) rfl ?_)
        obtain ⟨x34, q35, h1⟩ := idx_elim h1
        refine AO.op rfl (AOp.indexDs (cells := (List.map keS0 ((a2.drop (g10.1).toNat).take (((g10.1 + (2 : Int))).toNat - (g10.1).toNat)))) rfl rfl (ltb rfl) rfl rfl el79 (by decide) q35.1 (lt1 q35.2) ?_)
        refine AO.op rfl (AOp.loadEp rfl rfl (ltb rfl) rfl agg22 (at1 q35.2) ?_)
        refine AO.op rfl (AOp.assign rfl rfl (ltb rfl) rfl ?_)
        refine AO.nil ?_
        change AC _ _ _ _
        refine AC.seq ?_
        refine AC.region ?_
        refine AO.op rfl (AOp.move rfl rfl (ltb rfl) rfl ?_)
        obtain ⟨x36, q37, h1⟩ := idx_elim h1
        refine AO.op rfl (AOp.indexDs (cells := (List.map keS0 ((a2.drop ((g10.1 - y1)).toNat).take ((((g10.1 - y1) + (2 : Int))).toNat - ((g10.1 - y1)).toNat)))) rfl rfl (ltb rfl) rfl rfl el79 (by decide) q37.1 (lt1 q37.2) ?_)
        refine AO.op rfl (AOp.loadEp rfl rfl (ltb rfl) rfl agg22 (at1 q37.2) ?_)
        refine AO.op rfl (AOp.assign rfl rfl (ltb rfl) rfl ?_)
        refine AO.nil ?_
        change AC _ _ _ _
        refine AC.joinP (V := (Nat × Nat)) [0] [6, 7] 2 (fun g38 => [(6, .d (dfl g38.1)), (7, .d (dfl g38.2))]) (fun g38 => [.fix 123 [.d (eS0 a1), .d (di .i64 g10.2.2), .d (dbool g10.2.1)], .frame fr20 [(2, .d (eS0 a2)), (7, .ptr 0 0), (8, .d (di .i64 y1)), (9, .d (di .i64 g10.1))]]) (fun g38 => (p_LocatePointInRing_96_k6 a1 y1 g10 (iter (p_LocatePointInRing_96_l2 a1 a2 F y1) n12)) g38 = some o3) rfl ?_ ?_
        · refine AC.seq ?_
          refine AC.region ?_
          refine AO.op rfl (AOp.move rfl rfl (ltb rfl) rfl ?_)
          refine AO.op rfl (AOp.move rfl rfl (ltb rfl) rfl ?_)
          refine AO.op rfl (AOp.fgtr rfl rfl (ltb rfl) rfl rfl ?_)
          refine AO.nil ?_
          change AC _ _ _ _
          refine AC.cond rfl (fun q52 => ?_) (fun q52 => ?_)
          · replace h1 := cT h1 q52
            refine AC.seq ?_
            refine AC.region ?_
            refine AO.op rfl (AOp.move rfl rfl (ltb rfl) rfl ?_)
            obtain ⟨x53, q54, h1⟩ := idx_elim h1
            refine AO.op rfl (AOp.indexDs (cells := (List.map keS0 ((a2.drop ((g10.1 - y1)).toNat).take ((((g10.1 - y1) + (2 : Int))).toNat - ((g10.1 - y1)).toNat)))) rfl rfl (ltb rfl) rfl rfl el79 (by decide) q54.1 (lt1 q54.2) ?_)
            refine AO.op rfl (AOp.loadEp rfl rfl (ltb rfl) rfl agg22 (at1 q54.2) ?_)
            refine AO.op rfl (AOp.assign rfl rfl (ltb rfl) rfl ?_)
            refine AO.nil ?_
            change AC _ _ _ _
            refine AC.region ?_
            refine AO.op rfl (AOp.move rfl rfl (ltb rfl) rfl ?_)
            obtain ⟨x55, q56, h1⟩ := idx_elim h1
            refine AO.op rfl (AOp.indexDs (cells := (List.map keS0 ((a2.drop (g10.1).toNat).take (((g10.1 + (2 : Int))).toNat - (g10.1).toNat)))) rfl rfl (ltb rfl) rfl rfl el79 (by decide) q56.1 (lt1 q56.2) ?_)
            refine AO.op rfl (AOp.loadEp rfl rfl (ltb rfl) rfl agg22 (at1 q56.2) ?_)
            refine AO.op rfl (AOp.assign rfl rfl (ltb rfl) rfl ?_)
            refine AO.nil ?_
            exact ⟨(x53, x55), _, rfl, (LeL.refl _), rfl, rfl, h1⟩
          replace h1 := cF h1 q52
          refine AC.skip ?_
          exact ⟨(x34, x36), _, rfl, (LeL.refl _), rfl, rfl, h1⟩
        intro g38 h1
        unfold p_LocatePointInRing_96_k6 at h1
        refine AC.joinP (V := Bool) [] [] 2 (fun g39 => []) (fun g39 => [.fix 123 [.d (eS0 a1), .d (di .i64 g10.2.2), .d (dbool g39)], .frame fr20 [(2, .d (eS0 a2)), (7, .ptr 0 0), (8, .d (di .i64 y1)), (9, .d (di .i64 g10.1))]]) (fun g39 => (p_LocatePointInRing_96_k7 y1 g10 (iter (p_LocatePointInRing_96_l2 a1 a2 F y1) n12)) g39 = some o3) rfl ?_ ?_
        · refine AC.seq ?_
          refine AC.region ?_
          refine AO.op rfl (AOp.move rfl rfl (ltb rfl) rfl ?_)
          refine AO.op rfl (AOp.nilCheck rfl rfl (ltb rfl) rfl rfl ?_)
          refine AO.op rfl (AOp.fieldAddr rfl rfl (ltb rfl) rfl fo123_0 ?_)
          refine AO.op rfl (AOp.load1 rfl rfl (ltb rfl) rfl agg79 rfl rfl ?_)
          obtain ⟨x46, q47, h1⟩ := idx_elim h1
          refine AO.op rfl (AOp.indexDs (cells := (List.map keS0 a1)) rfl rfl (ltb rfl) rfl rfl el79 (by decide) q47.1 (lt1 q47.2) ?_)
          refine AO.op rfl (AOp.loadEp rfl rfl (ltb rfl) rfl agg22 (at1 q47.2) ?_)
          refine AO.op rfl (AOp.move rfl rfl (ltb rfl) rfl ?_)
          refine AO.op rfl (AOp.fgeq rfl rfl (ltb rfl) rfl rfl ?_)
          refine AO.op rfl (AOp.move rfl rfl (ltb rfl) rfl ?_)
          refine AO.dec (fge x46 g38.1) (fun q48 => ?_) (fun q48 => ?_)
          · replace h1 := cT h1 q48
            refine AO.guardY rfl rfl rfl q48 (AOp.move rfl rfl (ltb rfl) rfl ?_)
            refine AO.guardY rfl rfl rfl q48 (AOp.nilCheck rfl rfl (ltb rfl) rfl rfl ?_)
            refine AO.guardY rfl rfl rfl q48 (AOp.fieldAddr rfl rfl (ltb rfl) rfl fo123_0 ?_)
            refine AO.guardY rfl rfl rfl q48 (AOp.load1 rfl rfl (ltb rfl) rfl agg79 rfl rfl ?_)
            obtain ⟨x49, q50, h1⟩ := idx_elim h1
            refine AO.guardY rfl rfl rfl q48 (AOp.indexDs (cells := (List.map keS0 a1)) rfl rfl (ltb rfl) rfl rfl el79 (by decide) q50.1 (lt1 q50.2) ?_)
            refine AO.guardY rfl rfl rfl q48 (AOp.loadEp rfl rfl (ltb rfl) rfl agg22 (at1 q50.2) ?_)
            refine AO.guardY rfl rfl rfl q48 (AOp.move rfl rfl (ltb rfl) rfl ?_)
            refine AO.guardY rfl rfl rfl q48 (AOp.fleq rfl rfl (ltb rfl) rfl rfl ?_)
            refine AO.op rfl (AOp.pick rfl rfl (ltb rfl) rfl q48 rfl ?_)
            refine AO.nil ?_
            change AC _ _ _ _
            refine AC.cond rfl (fun q51 => ?_) (fun q51 => ?_)
            · replace h1 := cT h1 q51
              refine AC.region ?_
              refine AO.op rfl (AOp.move rfl rfl (ltb rfl) rfl ?_)
              refine AO.op rfl (AOp.nilCheck rfl rfl (ltb rfl) rfl rfl ?_)
              refine AO.op rfl (AOp.fieldAddr rfl rfl (ltb rfl) rfl fo123_2 ?_)
              refine AO.op rfl (AOp.store rfl rfl rfl rfl size4 rfl rfl rfl (leb rfl) ?_)
              refine AO.nil ?_
              exact ⟨true, _, rfl, (LeL.refl _), rfl, rfl, h1⟩
            replace h1 := cF h1 q51
            refine AC.skip ?_
            exact ⟨g10.2.1, _, rfl, (LeL.refl _), rfl, rfl, h1⟩
          replace h1 := cF h1 q48
          refine AO.guardN rfl rfl rfl (ltb rfl) rfl q48 ?_
          refine AO.guardN rfl rfl rfl (ltb rfl) rfl q48 ?_
          refine AO.guardN rfl rfl rfl (ltb rfl) rfl q48 ?_
          refine AO.guardN rfl rfl rfl (ltb rfl) rfl q48 ?_
          refine AO.guardN rfl rfl rfl (ltb rfl) rfl q48 ?_
          refine AO.guardN rfl rfl rfl (ltb rfl) rfl q48 ?_
          refine AO.guardN rfl rfl rfl (ltb rfl) rfl q48 ?_
          refine AO.guardN rfl rfl rfl (ltb rfl) rfl q48 ?_
          refine AO.op rfl (AOp.pickN rfl rfl (ltb rfl) rfl q48 rfl ?_)
          refine AO.nil ?_
          change AC _ _ _ _
          refine AC.condF rfl rfl ?_
          refine AC.skip ?_
          exact ⟨g10.2.1, _, rfl, (LeL.refl _), rfl, rfl, h1⟩
        intro g39 h1
        unfold p_LocatePointInRing_96_k7 at h1
        refine AC.ret ?_
        refine inlret (ob' := [.fix 123 [.d (eS0 a1), .d (di .i64 g10.2.2), .d (dbool g39)], .dead]) (e' := [(2, .d (eS0 a2)), (7, .ptr 0 0), (8, .d (di .i64 y1)), (9, .d (di .i64 g10.1))]) (r := .tu []) rfl rfl rfl ?_
        change AO _ _ _ _ _
        refine AO.nil ?_
        change AC _ _ _ _
        refine AC.seq ?_
        refine AC.region ?_
        refine AO.op rfl (AOp.fieldAddr rfl rfl (ltb rfl) rfl fo123_2 ?_)
        refine AO.op rfl (AOp.load1 rfl rfl (ltb rfl) rfl agg4 rfl rfl ?_)
        refine AO.nil ?_
        change AC _ _ _ _
        refine AC.cond rfl (fun q40 => ?_) (fun q40 => ?_)
        · replace h1 := cT h1 q40
          refine AC.seq ?_
          refine AC.region ?_
          refine AO.op rfl (AOp.inl [] (by kernel_rfl) Try.func103 rfl Try.ntmps103 rfl rfl (ltb rfl) rfl (leb rfl) rfl ?_)
          intro fr41
          refine AC.seq ?_
          refine AC.region ?_
          refine AO.op rfl (AOp.assign rfl rfl (ltb rfl) rfl ?_)
          refine AO.nil ?_
          change AC _ _ _ _
          refine AC.seq ?_
          refine AC.seq ?_
          refine AC.region ?_
          refine AO.op rfl (AOp.move rfl rfl (ltb rfl) rfl ?_)
          refine AO.op rfl (AOp.nilCheck rfl rfl (ltb rfl) rfl rfl ?_)
          refine AO.op rfl (AOp.fieldAddr rfl rfl (ltb rfl) rfl fo123_2 ?_)
          refine AO.op rfl (AOp.load1 rfl rfl (ltb rfl) rfl agg4 rfl rfl ?_)
          refine AO.nil ?_
          change AC _ _ _ _
          refine AC.cond rfl (fun q42 => ?_) (fun q42 => ?_)
          · replace h1 := cT h1 q42
            refine AC.seq ?_
            refine AC.region ?_
            refine AO.op rfl (AOp.assign rfl rfl (ltb rfl) rfl ?_)
            refine AO.nil ?_
            change AC _ _ _ _
            refine AC.ret ?_
            refine inlret (ob' := [.fix 123 [.d (eS0 a1), .d (di .i64 g10.2.2), .d (dbool g39)], .dead, .dead]) (e' := []) (r := .d (di .i64 (1 : Int))) rfl rfl rfl ?_
            change AO _ _ _ _ _
            refine AO.op rfl (AOp.assign rfl rfl (ltb rfl) rfl ?_)
            refine AO.nil ?_
            change AC _ _ _ _
            refine AC.ret ?_
            change RetQ _ _ _ .ret _
            obtain rfl := Option.some.inj h1
            replace h0 := aftR h0
            obtain rfl := Option.some.inj h0
            refine retq rfl rfl
          replace h1 := cF h1 q42
          refine AC.skip ?_
          change AC _ _ _ _
          refine AC.seq ?_
          refine AC.seq ?_
          refine AC.region ?_
          refine AO.op rfl (AOp.move rfl rfl (ltb rfl) rfl ?_)
          refine AO.op rfl (AOp.nilCheck rfl rfl (ltb rfl) rfl rfl ?_)
          refine AO.op rfl (AOp.fieldAddr rfl rfl (ltb rfl) rfl fo123_1 ?_)
          refine AO.op rfl (AOp.load1 rfl rfl (ltb rfl) rfl agg3 rfl rfl ?_)
          obtain ⟨q43, h1⟩ := need_elim h1
          refine AO.op rfl (AOp.irem rfl rfl (ltb rfl) rfl rfl q43 rfl ?_)
          refine AO.op rfl (AOp.ieql rfl rfl (ltb rfl) rfl rfl ?_)
          refine AO.nil ?_
          change AC _ _ _ _
          refine AC.cond rfl (fun q44 => ?_) (fun q44 => ?_)
          · replace h1 := cT h1 q44
            refine AC.seq ?_
            refine AC.region ?_
            refine AO.op rfl (AOp.assign rfl rfl (ltb rfl) rfl ?_)
            refine AO.nil ?_
            change AC _ _ _ _
            refine AC.ret ?_
            refine inlret (ob' := [.fix 123 [.d (eS0 a1), .d (di .i64 g10.2.2), .d (dbool g39)], .dead, .dead]) (e' := []) (r := .d (di .i64 (0 : Int))) rfl rfl rfl ?_
            change AO _ _ _ _ _
            refine AO.op rfl (AOp.assign rfl rfl (ltb rfl) rfl ?_)
            refine AO.nil ?_
            change AC _ _ _ _
            refine AC.ret ?_
            change RetQ _ _ _ .ret _
            obtain rfl := Option.some.inj h1
            replace h0 := aftR h0
            obtain rfl := Option.some.inj h0
            refine retq rfl rfl
          replace h1 := cF h1 q44
          refine AC.skip ?_
          change AC _ _ _ _
          refine AC.seq ?_
          refine AC.region ?_
          refine AO.op rfl (AOp.assign rfl rfl (ltb rfl) rfl ?_)
          refine AO.nil ?_
          change AC _ _ _ _
          refine AC.ret ?_
          refine inlret (ob' := [.fix 123 [.d (eS0 a1), .d (di .i64 g10.2.2), .d (dbool g39)], .dead, .dead]) (e' := []) (r := .d (di .i64 (2 : Int))) rfl rfl rfl ?_
          change AO _ _ _ _ _
          refine AO.op rfl (AOp.assign rfl rfl (ltb rfl) rfl ?_)
          refine AO.nil ?_
          change AC _ _ _ _
          refine AC.ret ?_
          change RetQ _ _ _ .ret _
          obtain rfl := Option.some.inj h1
          replace h0 := aftR h0
          obtain rfl := Option.some.inj h0
          refine retq rfl rfl
        replace h1 := cF h1 q40
        refine AC.skip ?_
        change AC _ _ _ _
        refine AC.region ?_
        refine AO.op rfl (AOp.move rfl rfl (ltb rfl) rfl ?_)
        refine AO.op rfl (AOp.move rfl rfl (ltb rfl) rfl ?_)
        obtain ⟨q45, h1⟩ := need_elim h1
        refine AO.op rfl (AOp.iadd rfl rfl (ltb rfl) rfl rfl rfl q45.1 q45.2 ?_)
        refine AO.op rfl (AOp.assign rfl rfl (ltb rfl) rfl ?_)
        refine AO.nil ?_
        exact ⟨((g10.1 + y1), g39, g10.2.2), _, rfl, (LeL.refl _), rfl, rfl, h1⟩
      replace h1 := cF h1 q33
      refine AC.skip ?_
      change AC _ _ _ _
      refine AC.joinP (V := Bool) [0, 1, 2] [163] 2 (fun g57 => [(163, .d (dbool g57))]) (fun g57 => [.fix 123 [.d (eS0 a1), .d (di .i64 g10.2.2), .d (dbool g10.2.1)], .frame fr20 [(2, .d (eS0 a2)), (7, .ptr 0 0), (8, .d (di .i64 y1)), (9, .d (di .i64 g10.1))]]) (fun g57 => (p_LocatePointInRing_96_k8 a1 a2 F y1 g10 (iter (p_LocatePointInRing_96_l2 a1 a2 F y1) n12)) g57 = some o3) rfl ?_ ?_
      · refine AC.draw 46 mixed (by kernel_rfl) ?_
        refine AD.op [1] rfl (by kernel_rfl) rfl rfl (fun _ _ h => AOp.move rfl rfl (ltb rfl) rfl h) ?_
        obtain ⟨x110, q111, h1⟩ := idx_elim h1
        refine AD.op [118] rfl (by kernel_rfl) rfl rfl (fun _ _ h => AOp.indexDs (cells := (List.map keS0 ((a2.drop (g10.1).toNat).take (((g10.1 + (2 : Int))).toNat - (g10.1).toNat)))) rfl rfl (ltb rfl) rfl rfl el79 (by decide) q111.1 (lt1 q111.2) h) ?_
        refine AD.op [119] rfl (by kernel_rfl) rfl rfl (fun _ _ h => AOp.loadEp rfl rfl (ltb rfl) rfl agg22 (at1 q111.2) h) ?_
        refine AD.op [0] rfl (by kernel_rfl) rfl rfl (fun _ _ h => AOp.move rfl rfl (ltb rfl) rfl h) ?_
        refine AD.op [121] rfl (by kernel_rfl) rfl rfl (fun _ _ h => AOp.nilCheck rfl rfl (ltb rfl) rfl rfl h) ?_
        refine AD.op [122] rfl (by kernel_rfl) rfl rfl (fun _ _ h => AOp.fieldAddr rfl rfl (ltb rfl) rfl fo123_0 h) ?_
        refine AD.op [123] rfl (by kernel_rfl) rfl rfl (fun _ _ h => AOp.load1 rfl rfl (ltb rfl) rfl agg79 rfl rfl h) ?_
        obtain ⟨x112, q113, h1⟩ := idx_elim h1
        refine AD.op [124] rfl (by kernel_rfl) rfl rfl (fun _ _ h => AOp.indexDs (cells := (List.map keS0 a1)) rfl rfl (ltb rfl) rfl rfl el79 (by decide) q113.1 (lt1 q113.2) h) ?_
        refine AD.op [125] rfl (by kernel_rfl) rfl rfl (fun _ _ h => AOp.loadEp rfl rfl (ltb rfl) rfl agg22 (at1 q113.2) h) ?_
        refine AD.op [120, 126] rfl (by kernel_rfl) rfl rfl (fun _ _ h => AOp.fgtr rfl rfl (ltb rfl) rfl rfl h) ?_
        refine AD.op [127] rfl (by kernel_rfl) rfl rfl (fun _ _ h => AOp.move rfl rfl (ltb rfl) rfl h) ?_
        refine AD.dec (fgt x110 x112) (fun q114 => ?_) (fun q114 => ?_)
        · replace h1 := cT h1 q114
          refine AD.opY [2, 128] rfl rfl rfl q114 (by kernel_rfl) rfl rfl (fun _ _ h => AOp.move rfl rfl (ltb rfl) rfl h) ?_
          obtain ⟨x115, q116, h1⟩ := idx_elim h1
          refine AD.opY [128, 129] rfl rfl rfl q114 (by kernel_rfl) rfl rfl (fun _ _ h => AOp.indexDs (cells := (List.map keS0 ((a2.drop ((g10.1 - y1)).toNat).take ((((g10.1 - y1) + (2 : Int))).toNat - ((g10.1 - y1)).toNat)))) rfl rfl (ltb rfl) rfl rfl el79 (by decide) q116.1 (lt1 q116.2) h) ?_
          refine AD.opY [128, 130] rfl rfl rfl q114 (by kernel_rfl) rfl rfl (fun _ _ h => AOp.loadEp rfl rfl (ltb rfl) rfl agg22 (at1 q116.2) h) ?_
          refine AD.opY [0, 128] rfl rfl rfl q114 (by kernel_rfl) rfl rfl (fun _ _ h => AOp.move rfl rfl (ltb rfl) rfl h) ?_
          refine AD.opY [128, 132] rfl rfl rfl q114 (by kernel_rfl) rfl rfl (fun _ _ h => AOp.nilCheck rfl rfl (ltb rfl) rfl rfl h) ?_
          refine AD.opY [128, 133] rfl rfl rfl q114 (by kernel_rfl) rfl rfl (fun _ _ h => AOp.fieldAddr rfl rfl (ltb rfl) rfl fo123_0 h) ?_
          refine AD.opY [128, 134] rfl rfl rfl q114 (by kernel_rfl) rfl rfl (fun _ _ h => AOp.load1 rfl rfl (ltb rfl) rfl agg79 rfl rfl h) ?_
          obtain ⟨x117, q118, h1⟩ := idx_elim h1
          refine AD.opY [128, 135] rfl rfl rfl q114 (by kernel_rfl) rfl rfl (fun _ _ h => AOp.indexDs (cells := (List.map keS0 a1)) rfl rfl (ltb rfl) rfl rfl el79 (by decide) q118.1 (lt1 q118.2) h) ?_
          refine AD.opY [128, 136] rfl rfl rfl q114 (by kernel_rfl) rfl rfl (fun _ _ h => AOp.loadEp rfl rfl (ltb rfl) rfl agg22 (at1 q118.2) h) ?_
          refine AD.opY [128, 131, 137] rfl rfl rfl q114 (by kernel_rfl) rfl rfl (fun _ _ h => AOp.fleq rfl rfl (ltb rfl) rfl rfl h) ?_
          refine AD.op [128, 138] rfl (by kernel_rfl) rfl rfl (fun _ _ h => AOp.pick rfl rfl (ltb rfl) rfl q114 rfl h) ?_
          refine AD.op [139] rfl (by kernel_rfl) rfl rfl (fun _ _ h => AOp.move rfl rfl (ltb rfl) rfl h) ?_
          refine AD.dec (fle x115 x117) (fun q119 => ?_) (fun q119 => ?_)
          · replace h1 := cT h1 q119
            refine AD.opN rfl rfl rfl (ltb rfl) rfl q119 ?_
            refine AD.opN rfl rfl rfl (ltb rfl) rfl q119 ?_
            refine AD.opN rfl rfl rfl (ltb rfl) rfl q119 ?_
            refine AD.opN rfl rfl rfl (ltb rfl) rfl q119 ?_
            refine AD.opN rfl rfl rfl (ltb rfl) rfl q119 ?_
            refine AD.opN rfl rfl rfl (ltb rfl) rfl q119 ?_
            refine AD.opN rfl rfl rfl (ltb rfl) rfl q119 ?_
            refine AD.opN rfl rfl rfl (ltb rfl) rfl q119 ?_
            refine AD.opN rfl rfl rfl (ltb rfl) rfl q119 ?_
            refine AD.opN rfl rfl rfl (ltb rfl) rfl q119 ?_
            refine AD.opN rfl rfl rfl (ltb rfl) rfl q119 ?_
            refine AD.opU rfl rfl rfl (ltb rfl) rfl ?_
            refine AD.opU rfl rfl rfl (ltb rfl) rfl ?_
            refine AD.opU rfl rfl rfl (ltb rfl) rfl ?_
            refine AD.opU rfl rfl rfl (ltb rfl) rfl ?_
            refine AD.opU rfl rfl rfl (ltb rfl) rfl ?_
            refine AD.opU rfl rfl rfl (ltb rfl) rfl ?_
            refine AD.opU rfl rfl rfl (ltb rfl) rfl ?_
            refine AD.opU rfl rfl rfl (ltb rfl) rfl ?_
            refine AD.opU rfl rfl rfl (ltb rfl) rfl ?_
            refine AD.opU rfl rfl rfl (ltb rfl) rfl ?_
            refine AD.opN rfl rfl rfl (ltb rfl) rfl q119 ?_
            refine AD.op [140, 162] rfl (by kernel_rfl) rfl rfl (fun _ _ h => AOp.pick rfl rfl (ltb rfl) rfl q119 rfl h) ?_
            refine AD.done ?_
            refine AO.nil ?_
            exact ⟨true, _, rfl, (LeL.refl _), rfl, rfl, h1⟩
          replace h1 := cF h1 q119
          refine AD.opY [2, 140] rfl rfl rfl q119 (by kernel_rfl) rfl rfl (fun _ _ h => AOp.move rfl rfl (ltb rfl) rfl h) ?_
          obtain ⟨x120, q121, h1⟩ := idx_elim h1
          refine AD.opY [140, 141] rfl rfl rfl q119 (by kernel_rfl) rfl rfl (fun _ _ h => AOp.indexDs (cells := (List.map keS0 ((a2.drop ((g10.1 - y1)).toNat).take ((((g10.1 - y1) + (2 : Int))).toNat - ((g10.1 - y1)).toNat)))) rfl rfl (ltb rfl) rfl rfl el79 (by decide) q121.1 (lt1 q121.2) h) ?_
          refine AD.opY [140, 142] rfl rfl rfl q119 (by kernel_rfl) rfl rfl (fun _ _ h => AOp.loadEp rfl rfl (ltb rfl) rfl agg22 (at1 q121.2) h) ?_
          refine AD.opY [0, 140] rfl rfl rfl q119 (by kernel_rfl) rfl rfl (fun _ _ h => AOp.move rfl rfl (ltb rfl) rfl h) ?_
          refine AD.opY [140, 144] rfl rfl rfl q119 (by kernel_rfl) rfl rfl (fun _ _ h => AOp.nilCheck rfl rfl (ltb rfl) rfl rfl h) ?_
          refine AD.opY [140, 145] rfl rfl rfl q119 (by kernel_rfl) rfl rfl (fun _ _ h => AOp.fieldAddr rfl rfl (ltb rfl) rfl fo123_0 h) ?_
          refine AD.opY [140, 146] rfl rfl rfl q119 (by kernel_rfl) rfl rfl (fun _ _ h => AOp.load1 rfl rfl (ltb rfl) rfl agg79 rfl rfl h) ?_
          obtain ⟨x122, q123, h1⟩ := idx_elim h1
          refine AD.opY [140, 147] rfl rfl rfl q119 (by kernel_rfl) rfl rfl (fun _ _ h => AOp.indexDs (cells := (List.map keS0 a1)) rfl rfl (ltb rfl) rfl rfl el79 (by decide) q123.1 (lt1 q123.2) h) ?_
          refine AD.opY [140, 148] rfl rfl rfl q119 (by kernel_rfl) rfl rfl (fun _ _ h => AOp.loadEp rfl rfl (ltb rfl) rfl agg22 (at1 q123.2) h) ?_
          refine AD.opY [140, 143, 149] rfl rfl rfl q119 (by kernel_rfl) rfl rfl (fun _ _ h => AOp.fgtr rfl rfl (ltb rfl) rfl rfl h) ?_
          refine AD.opY [140, 150] rfl rfl rfl q119 (by kernel_rfl) rfl rfl (fun _ _ h => AOp.move rfl rfl (ltb rfl) rfl h) ?_
          refine AD.dec (fgt x120 x122) (fun q124 => ?_) (fun q124 => ?_)
          · replace h1 := cT h1 q124
            refine AD.opY [1, 151] rfl rfl rfl q124 (by kernel_rfl) rfl rfl (fun _ _ h => AOp.move rfl rfl (ltb rfl) rfl h) ?_
            obtain ⟨x125, q126, h1⟩ := idx_elim h1
            refine AD.opY [151, 152] rfl rfl rfl q124 (by kernel_rfl) rfl rfl (fun _ _ h => AOp.indexDs (cells := (List.map keS0 ((a2.drop (g10.1).toNat).take (((g10.1 + (2 : Int))).toNat - (g10.1).toNat)))) rfl rfl (ltb rfl) rfl rfl el79 (by decide) q126.1 (lt1 q126.2) h) ?_
            refine AD.opY [151, 153] rfl rfl rfl q124 (by kernel_rfl) rfl rfl (fun _ _ h => AOp.loadEp rfl rfl (ltb rfl) rfl agg22 (at1 q126.2) h) ?_
            refine AD.opY [0, 151] rfl rfl rfl q124 (by kernel_rfl) rfl rfl (fun _ _ h => AOp.move rfl rfl (ltb rfl) rfl h) ?_
            refine AD.opY [151, 155] rfl rfl rfl q124 (by kernel_rfl) rfl rfl (fun _ _ h => AOp.nilCheck rfl rfl (ltb rfl) rfl rfl h) ?_
            refine AD.opY [151, 156] rfl rfl rfl q124 (by kernel_rfl) rfl rfl (fun _ _ h => AOp.fieldAddr rfl rfl (ltb rfl) rfl fo123_0 h) ?_
            refine AD.opY [151, 157] rfl rfl rfl q124 (by kernel_rfl) rfl rfl (fun _ _ h => AOp.load1 rfl rfl (ltb rfl) rfl agg79 rfl rfl h) ?_
            obtain ⟨x127, q128, h1⟩ := idx_elim h1
            refine AD.opY [151, 158] rfl rfl rfl q124 (by kernel_rfl) rfl rfl (fun _ _ h => AOp.indexDs (cells := (List.map keS0 a1)) rfl rfl (ltb rfl) rfl rfl el79 (by decide) q128.1 (lt1 q128.2) h) ?_
            refine AD.opY [151, 159] rfl rfl rfl q124 (by kernel_rfl) rfl rfl (fun _ _ h => AOp.loadEp rfl rfl (ltb rfl) rfl agg22 (at1 q128.2) h) ?_
            refine AD.opY [151, 154, 160] rfl rfl rfl q124 (by kernel_rfl) rfl rfl (fun _ _ h => AOp.fleq rfl rfl (ltb rfl) rfl rfl h) ?_
            refine AD.opY [140, 151, 161] rfl rfl rfl q119 (by kernel_rfl) rfl rfl (fun _ _ h => AOp.pick rfl rfl (ltb rfl) rfl q124 rfl h) ?_
            refine AD.op [140, 162] rfl (by kernel_rfl) rfl rfl (fun _ _ h => AOp.pickN rfl rfl (ltb rfl) rfl q119 rfl h) ?_
            refine AD.done ?_
            refine AO.nil ?_
            exact ⟨(fle x125 x127), _, rfl, (LeL.refl _), rfl, rfl, h1⟩
          replace h1 := cF h1 q124
          refine AD.opN rfl rfl rfl (ltb rfl) rfl q124 ?_
          refine AD.opN rfl rfl rfl (ltb rfl) rfl q124 ?_
          refine AD.opN rfl rfl rfl (ltb rfl) rfl q124 ?_
          refine AD.opN rfl rfl rfl (ltb rfl) rfl q124 ?_
          refine AD.opN rfl rfl rfl (ltb rfl) rfl q124 ?_
          refine AD.opN rfl rfl rfl (ltb rfl) rfl q124 ?_
          refine AD.opN rfl rfl rfl (ltb rfl) rfl q124 ?_
          refine AD.opN rfl rfl rfl (ltb rfl) rfl q124 ?_
          refine AD.opN rfl rfl rfl (ltb rfl) rfl q124 ?_
          refine AD.opN rfl rfl rfl (ltb rfl) rfl q124 ?_
          refine AD.opY [140, 151, 161] rfl rfl rfl q119 (by kernel_rfl) rfl rfl (fun _ _ h => AOp.pickN rfl rfl (ltb rfl) rfl q124 rfl h) ?_
          refine AD.op [140, 162] rfl (by kernel_rfl) rfl rfl (fun _ _ h => AOp.pickN rfl rfl (ltb rfl) rfl q119 rfl h) ?_
          refine AD.done ?_
          refine AO.nil ?_
          exact ⟨false, _, rfl, (LeL.refl _), rfl, rfl, h1⟩
        replace h1 := cF h1 q114
        refine AD.opN rfl rfl rfl (ltb rfl) rfl q114 ?_
        refine AD.opN rfl rfl rfl (ltb rfl) rfl q114 ?_
        refine AD.opN rfl rfl rfl (ltb rfl) rfl q114 ?_
        refine AD.opN rfl rfl rfl (ltb rfl) rfl q114 ?_
        refine AD.opN rfl rfl rfl (ltb rfl) rfl q114 ?_
        refine AD.opN rfl rfl rfl (ltb rfl) rfl q114 ?_
        refine AD.opN rfl rfl rfl (ltb rfl) rfl q114 ?_
        refine AD.opN rfl rfl rfl (ltb rfl) rfl q114 ?_
        refine AD.opN rfl rfl rfl (ltb rfl) rfl q114 ?_
        refine AD.opN rfl rfl rfl (ltb rfl) rfl q114 ?_
        refine AD.op [128, 138] rfl (by kernel_rfl) rfl rfl (fun _ _ h => AOp.pickN rfl rfl (ltb rfl) rfl q114 rfl h) ?_
        refine AD.op [139] rfl (by kernel_rfl) rfl rfl (fun _ _ h => AOp.move rfl rfl (ltb rfl) rfl h) ?_
        refine AD.opY [2, 140] rfl rfl rfl rfl (by kernel_rfl) rfl rfl (fun _ _ h => AOp.move rfl rfl (ltb rfl) rfl h) ?_
        obtain ⟨x129, q130, h1⟩ := idx_elim h1
        refine AD.opY [140, 141] rfl rfl rfl rfl (by kernel_rfl) rfl rfl (fun _ _ h => AOp.indexDs (cells := (List.map keS0 ((a2.drop ((g10.1 - y1)).toNat).take ((((g10.1 - y1) + (2 : Int))).toNat - ((g10.1 - y1)).toNat)))) rfl rfl (ltb rfl) rfl rfl el79 (by decide) q130.1 (lt1 q130.2) h) ?_
        refine AD.opY [140, 142] rfl rfl rfl rfl (by kernel_rfl) rfl rfl (fun _ _ h => AOp.loadEp rfl rfl (ltb rfl) rfl agg22 (at1 q130.2) h) ?_
        refine AD.opY [0, 140] rfl rfl rfl rfl (by kernel_rfl) rfl rfl (fun _ _ h => AOp.move rfl rfl (ltb rfl) rfl h) ?_
        refine AD.opY [140, 144] rfl rfl rfl rfl (by kernel_rfl) rfl rfl (fun _ _ h => AOp.nilCheck rfl rfl (ltb rfl) rfl rfl h) ?_
        refine AD.opY [140, 145] rfl rfl rfl rfl (by kernel_rfl) rfl rfl (fun _ _ h => AOp.fieldAddr rfl rfl (ltb rfl) rfl fo123_0 h) ?_
        refine AD.opY [140, 146] rfl rfl rfl rfl (by kernel_rfl) rfl rfl (fun _ _ h => AOp.load1 rfl rfl (ltb rfl) rfl agg79 rfl rfl h) ?_
        obtain ⟨x131, q132, h1⟩ := idx_elim h1
        refine AD.opY [140, 147] rfl rfl rfl rfl (by kernel_rfl) rfl rfl (fun _ _ h => AOp.indexDs (cells := (List.map keS0 a1)) rfl rfl (ltb rfl) rfl rfl el79 (by decide) q132.1 (lt1 q132.2) h) ?_
        refine AD.opY [140, 148] rfl rfl rfl rfl (by kernel_rfl) rfl rfl (fun _ _ h => AOp.loadEp rfl rfl (ltb rfl) rfl agg22 (at1 q132.2) h) ?_
        refine AD.opY [140, 143, 149] rfl rfl rfl rfl (by kernel_rfl) rfl rfl (fun _ _ h => AOp.fgtr rfl rfl (ltb rfl) rfl rfl h) ?_
        refine AD.opY [140, 150] rfl rfl rfl rfl (by kernel_rfl) rfl rfl (fun _ _ h => AOp.move rfl rfl (ltb rfl) rfl h) ?_
        refine AD.dec (fgt x129 x131) (fun q133 => ?_) (fun q133 => ?_)
        · replace h1 := cT h1 q133
          refine AD.opY [1, 151] rfl rfl rfl q133 (by kernel_rfl) rfl rfl (fun _ _ h => AOp.move rfl rfl (ltb rfl) rfl h) ?_
          obtain ⟨x134, q135, h1⟩ := idx_elim h1
          refine AD.opY [151, 152] rfl rfl rfl q133 (by kernel_rfl) rfl rfl (fun _ _ h => AOp.indexDs (cells := (List.map keS0 ((a2.drop (g10.1).toNat).take (((g10.1 + (2 : Int))).toNat - (g10.1).toNat)))) rfl rfl (ltb rfl) rfl rfl el79 (by decide) q135.1 (lt1 q135.2) h) ?_
          refine AD.opY [151, 153] rfl rfl rfl q133 (by kernel_rfl) rfl rfl (fun _ _ h => AOp.loadEp rfl rfl (ltb rfl) rfl agg22 (at1 q135.2) h) ?_
          refine AD.opY [0, 151] rfl rfl rfl q133 (by kernel_rfl) rfl rfl (fun _ _ h => AOp.move rfl rfl (ltb rfl) rfl h) ?_
          refine AD.opY [151, 155] rfl rfl rfl q133 (by kernel_rfl) rfl rfl (fun _ _ h => AOp.nilCheck rfl rfl (ltb rfl) rfl rfl h) ?_
          refine AD.opY [151, 156] rfl rfl rfl q133 (by kernel_rfl) rfl rfl (fun _ _ h => AOp.fieldAddr rfl rfl (ltb rfl) rfl fo123_0 h) ?_
          refine AD.opY [151, 157] rfl rfl rfl q133 (by kernel_rfl) rfl rfl (fun _ _ h => AOp.load1 rfl rfl (ltb rfl) rfl agg79 rfl rfl h) ?_
          obtain ⟨x136, q137, h1⟩ := idx_elim h1
          refine AD.opY [151, 158] rfl rfl rfl q133 (by kernel_rfl) rfl rfl (fun _ _ h => AOp.indexDs (cells := (List.map keS0 a1)) rfl rfl (ltb rfl) rfl rfl el79 (by decide) q137.1 (lt1 q137.2) h) ?_
          refine AD.opY [151, 159] rfl rfl rfl q133 (by kernel_rfl) rfl rfl (fun _ _ h => AOp.loadEp rfl rfl (ltb rfl) rfl agg22 (at1 q137.2) h) ?_
          refine AD.opY [151, 154, 160] rfl rfl rfl q133 (by kernel_rfl) rfl rfl (fun _ _ h => AOp.fleq rfl rfl (ltb rfl) rfl rfl h) ?_
          refine AD.opY [140, 151, 161] rfl rfl rfl rfl (by kernel_rfl) rfl rfl (fun _ _ h => AOp.pick rfl rfl (ltb rfl) rfl q133 rfl h) ?_
          refine AD.op [140, 162] rfl (by kernel_rfl) rfl rfl (fun _ _ h => AOp.pickN rfl rfl (ltb rfl) rfl rfl rfl h) ?_
          refine AD.done ?_
          refine AO.nil ?_
          exact ⟨(fle x134 x136), _, rfl, (LeL.refl _), rfl, rfl, h1⟩
        replace h1 := cF h1 q133
        refine AD.opN rfl rfl rfl (ltb rfl) rfl q133 ?_
        refine AD.opN rfl rfl rfl (ltb rfl) rfl q133 ?_
        refine AD.opN rfl rfl rfl (ltb rfl) rfl q133 ?_
        refine AD.opN rfl rfl rfl (ltb rfl) rfl q133 ?_
        refine AD.opN rfl rfl rfl (ltb rfl) rfl q133 ?_
        refine AD.opN rfl rfl rfl (ltb rfl) rfl q133 ?_
        refine AD.opN rfl rfl rfl (ltb rfl) rfl q133 ?_
        refine AD.opN rfl rfl rfl (ltb rfl) rfl q133 ?_
        refine AD.opN rfl rfl rfl (ltb rfl) rfl q133 ?_
        refine AD.opN rfl rfl rfl (ltb rfl) rfl q133 ?_
        refine AD.opY [140, 151, 161] rfl rfl rfl rfl (by kernel_rfl) rfl rfl (fun _ _ h => AOp.pickN rfl rfl (ltb rfl) rfl q133 rfl h) ?_
        refine AD.op [140, 162] rfl (by kernel_rfl) rfl rfl (fun _ _ h => AOp.pickN rfl rfl (ltb rfl) rfl rfl rfl h) ?_
        refine AD.done ?_
        refine AO.nil ?_
        exact ⟨false, _, rfl, (LeL.refl _), rfl, rfl, h1⟩
      intro g57 h1
      unfold p_LocatePointInRing_96_k8 at h1
      refine AC.cond rfl (fun q58 => ?_) (fun q58 => ?_)
      · replace h1 := cT h1 q58
        refine AC.seq ?_
        refine AC.draw 11 mixed (by kernel_rfl) ?_
        refine AD.op [1] rfl (by kernel_rfl) rfl rfl (fun _ _ h => AOp.move rfl rfl (ltb rfl) rfl h) ?_
        obtain ⟨x59, q60, h1⟩ := idx_elim h1
        refine AD.op [164] rfl (by kernel_rfl) rfl rfl (fun _ _ h => AOp.indexDs (cells := (List.map keS0 ((a2.drop (g10.1).toNat).take (((g10.1 + (2 : Int))).toNat - (g10.1).toNat)))) rfl rfl (ltb rfl) rfl rfl el79 (by decide) q60.1 (lt1 q60.2) h) ?_
        refine AD.op [165] rfl (by kernel_rfl) rfl rfl (fun _ _ h => AOp.loadEp rfl rfl (ltb rfl) rfl agg22 (at1 q60.2) h) ?_
        refine AD.op [0] rfl (by kernel_rfl) rfl rfl (fun _ _ h => AOp.move rfl rfl (ltb rfl) rfl h) ?_
        refine AD.op [167] rfl (by kernel_rfl) rfl rfl (fun _ _ h => AOp.nilCheck rfl rfl (ltb rfl) rfl rfl h) ?_
        refine AD.op [168] rfl (by kernel_rfl) rfl rfl (fun _ _ h => AOp.fieldAddr rfl rfl (ltb rfl) rfl fo123_0 h) ?_
        refine AD.op [169] rfl (by kernel_rfl) rfl rfl (fun _ _ h => AOp.load1 rfl rfl (ltb rfl) rfl agg79 rfl rfl h) ?_
        obtain ⟨x61, q62, h1⟩ := idx_elim h1
        refine AD.op [170] rfl (by kernel_rfl) rfl rfl (fun _ _ h => AOp.indexDs (cells := (List.map keS0 a1)) rfl rfl (ltb rfl) rfl rfl el79 (by decide) q62.1 (lt1 q62.2) h) ?_
        refine AD.op [171] rfl (by kernel_rfl) rfl rfl (fun _ _ h => AOp.loadEp rfl rfl (ltb rfl) rfl agg22 (at1 q62.2) h) ?_
        obtain ⟨z63, q64, h1⟩ := bind_elim h1
        refine AD.op [166, 172] rfl (by kernel_rfl) rfl rfl (fun _ _ h => AOp.farith rfl rfl (ltb rfl) rfl rfl q64 h) ?_
        refine AD.op [173] rfl (by kernel_rfl) rfl rfl (fun _ _ h => AOp.assign rfl rfl (ltb rfl) rfl h) ?_
        refine AD.done ?_
        refine AO.nil ?_
        change AC _ _ _ _
        refine AC.seq ?_
        refine AC.draw 11 mixed (by kernel_rfl) ?_
        refine AD.op [1] rfl (by kernel_rfl) rfl rfl (fun _ _ h => AOp.move rfl rfl (ltb rfl) rfl h) ?_
        obtain ⟨x65, q66, h1⟩ := idx_elim h1
        refine AD.op [174] rfl (by kernel_rfl) rfl rfl (fun _ _ h => AOp.indexDs (cells := (List.map keS0 ((a2.drop (g10.1).toNat).take (((g10.1 + (2 : Int))).toNat - (g10.1).toNat)))) rfl rfl (ltb rfl) rfl rfl el79 (by decide) q66.1 (lt1 q66.2) h) ?_
        refine AD.op [175] rfl (by kernel_rfl) rfl rfl (fun _ _ h => AOp.loadEp rfl rfl (ltb rfl) rfl agg22 (at1 q66.2) h) ?_
        refine AD.op [0] rfl (by kernel_rfl) rfl rfl (fun _ _ h => AOp.move rfl rfl (ltb rfl) rfl h) ?_
        refine AD.op [177] rfl (by kernel_rfl) rfl rfl (fun _ _ h => AOp.nilCheck rfl rfl (ltb rfl) rfl rfl h) ?_
        refine AD.op [178] rfl (by kernel_rfl) rfl rfl (fun _ _ h => AOp.fieldAddr rfl rfl (ltb rfl) rfl fo123_0 h) ?_
        refine AD.op [179] rfl (by kernel_rfl) rfl rfl (fun _ _ h => AOp.load1 rfl rfl (ltb rfl) rfl agg79 rfl rfl h) ?_
        obtain ⟨x67, q68, h1⟩ := idx_elim h1
        refine AD.op [180] rfl (by kernel_rfl) rfl rfl (fun _ _ h => AOp.indexDs (cells := (List.map keS0 a1)) rfl rfl (ltb rfl) rfl rfl el79 (by decide) q68.1 (lt1 q68.2) h) ?_
        refine AD.op [181] rfl (by kernel_rfl) rfl rfl (fun _ _ h => AOp.loadEp rfl rfl (ltb rfl) rfl agg22 (at1 q68.2) h) ?_
        obtain ⟨z69, q70, h1⟩ := bind_elim h1
        refine AD.op [176, 182] rfl (by kernel_rfl) rfl rfl (fun _ _ h => AOp.farith rfl rfl (ltb rfl) rfl rfl q70 h) ?_
        refine AD.op [183] rfl (by kernel_rfl) rfl rfl (fun _ _ h => AOp.assign rfl rfl (ltb rfl) rfl h) ?_
        refine AD.done ?_
        refine AO.nil ?_
        change AC _ _ _ _
        refine AC.seq ?_
        refine AC.draw 11 mixed (by kernel_rfl) ?_
        refine AD.op [2] rfl (by kernel_rfl) rfl rfl (fun _ _ h => AOp.move rfl rfl (ltb rfl) rfl h) ?_
        obtain ⟨x71, q72, h1⟩ := idx_elim h1
        refine AD.op [184] rfl (by kernel_rfl) rfl rfl (fun _ _ h => AOp.indexDs (cells := (List.map keS0 ((a2.drop ((g10.1 - y1)).toNat).take ((((g10.1 - y1) + (2 : Int))).toNat - ((g10.1 - y1)).toNat)))) rfl rfl (ltb rfl) rfl rfl el79 (by decide) q72.1 (lt1 q72.2) h) ?_
        refine AD.op [185] rfl (by kernel_rfl) rfl rfl (fun _ _ h => AOp.loadEp rfl rfl (ltb rfl) rfl agg22 (at1 q72.2) h) ?_
        refine AD.op [0] rfl (by kernel_rfl) rfl rfl (fun _ _ h => AOp.move rfl rfl (ltb rfl) rfl h) ?_
        refine AD.op [187] rfl (by kernel_rfl) rfl rfl (fun _ _ h => AOp.nilCheck rfl rfl (ltb rfl) rfl rfl h) ?_
        refine AD.op [188] rfl (by kernel_rfl) rfl rfl (fun _ _ h => AOp.fieldAddr rfl rfl (ltb rfl) rfl fo123_0 h) ?_
        refine AD.op [189] rfl (by kernel_rfl) rfl rfl (fun _ _ h => AOp.load1 rfl rfl (ltb rfl) rfl agg79 rfl rfl h) ?_
        obtain ⟨x73, q74, h1⟩ := idx_elim h1
        refine AD.op [190] rfl (by kernel_rfl) rfl rfl (fun _ _ h => AOp.indexDs (cells := (List.map keS0 a1)) rfl rfl (ltb rfl) rfl rfl el79 (by decide) q74.1 (lt1 q74.2) h) ?_
        refine AD.op [191] rfl (by kernel_rfl) rfl rfl (fun _ _ h => AOp.loadEp rfl rfl (ltb rfl) rfl agg22 (at1 q74.2) h) ?_
        obtain ⟨z75, q76, h1⟩ := bind_elim h1
        refine AD.op [186, 192] rfl (by kernel_rfl) rfl rfl (fun _ _ h => AOp.farith rfl rfl (ltb rfl) rfl rfl q76 h) ?_
        refine AD.op [193] rfl (by kernel_rfl) rfl rfl (fun _ _ h => AOp.assign rfl rfl (ltb rfl) rfl h) ?_
        refine AD.done ?_
        refine AO.nil ?_
        change AC _ _ _ _
        refine AC.seq ?_
        refine AC.draw 11 mixed (by kernel_rfl) ?_
        refine AD.op [2] rfl (by kernel_rfl) rfl rfl (fun _ _ h => AOp.move rfl rfl (ltb rfl) rfl h) ?_
        obtain ⟨x77, q78, h1⟩ := idx_elim h1
        refine AD.op [194] rfl (by kernel_rfl) rfl rfl (fun _ _ h => AOp.indexDs (cells := (List.map keS0 ((a2.drop ((g10.1 - y1)).toNat).take ((((g10.1 - y1) + (2 : Int))).toNat - ((g10.1 - y1)).toNat)))) rfl rfl (ltb rfl) rfl rfl el79 (by decide) q78.1 (lt1 q78.2) h) ?_
        refine AD.op [195] rfl (by kernel_rfl) rfl rfl (fun _ _ h => AOp.loadEp rfl rfl (ltb rfl) rfl agg22 (at1 q78.2) h) ?_
        refine AD.op [0] rfl (by kernel_rfl) rfl rfl (fun _ _ h => AOp.move rfl rfl (ltb rfl) rfl h) ?_
        refine AD.op [197] rfl (by kernel_rfl) rfl rfl (fun _ _ h => AOp.nilCheck rfl rfl (ltb rfl) rfl rfl h) ?_
        refine AD.op [198] rfl (by kernel_rfl) rfl rfl (fun _ _ h => AOp.fieldAddr rfl rfl (ltb rfl) rfl fo123_0 h) ?_
        refine AD.op [199] rfl (by kernel_rfl) rfl rfl (fun _ _ h => AOp.load1 rfl rfl (ltb rfl) rfl agg79 rfl rfl h) ?_
        obtain ⟨x79, q80, h1⟩ := idx_elim h1
        refine AD.op [200] rfl (by kernel_rfl) rfl rfl (fun _ _ h => AOp.indexDs (cells := (List.map keS0 a1)) rfl rfl (ltb rfl) rfl rfl el79 (by decide) q80.1 (lt1 q80.2) h) ?_
        refine AD.op [201] rfl (by kernel_rfl) rfl rfl (fun _ _ h => AOp.loadEp rfl rfl (ltb rfl) rfl agg22 (at1 q80.2) h) ?_
        obtain ⟨z81, q82, h1⟩ := bind_elim h1
        refine AD.op [196, 202] rfl (by kernel_rfl) rfl rfl (fun _ _ h => AOp.farith rfl rfl (ltb rfl) rfl rfl q82 h) ?_
        refine AD.op [203] rfl (by kernel_rfl) rfl rfl (fun _ _ h => AOp.assign rfl rfl (ltb rfl) rfl h) ?_
        refine AD.done ?_
        refine AO.nil ?_
        change AC _ _ _ _
        refine AC.seq ?_
        refine AC.region ?_
        refine AO.op rfl (AOp.move rfl rfl (ltb rfl) rfl ?_)
        refine AO.op rfl (AOp.move rfl rfl (ltb rfl) rfl ?_)
        refine AO.op rfl (AOp.move rfl rfl (ltb rfl) rfl ?_)
        refine AO.op rfl (AOp.move rfl rfl (ltb rfl) rfl ?_)
        obtain ⟨y83, q84, h1⟩ := bind_elim h1
        refine AO.op rfl (AOp.callD rfl rfl (ltb rfl) rfl rfl (w_SignOfDet2x2 F z63 z69 z75 z81 y83 q84) ?_)
        rintro _ rfl
        refine AO.op rfl (AOp.assign rfl rfl (ltb rfl) rfl ?_)
        refine AO.nil ?_
        change AC _ _ _ _
        refine AC.seq ?_
        refine AC.seq ?_
        refine AC.region ?_
        refine AO.op rfl (AOp.move rfl rfl (ltb rfl) rfl ?_)
        refine AO.op rfl (AOp.ieql rfl rfl (ltb rfl) rfl rfl ?_)
        refine AO.nil ?_
        change AC _ _ _ _
        refine AC.cond rfl (fun q85 => ?_) (fun q85 => ?_)
        · replace h1 := cT h1 q85
          refine AC.seq ?_
          refine AC.region ?_
          refine AO.op rfl (AOp.move rfl rfl (ltb rfl) rfl ?_)
          refine AO.op rfl (AOp.nilCheck rfl rfl (ltb rfl) rfl rfl ?_)
          refine AO.op rfl (AOp.fieldAddr rfl rfl (ltb rfl) rfl fo123_2 ?_)
          refine AO.op rfl (AOp.store rfl rfl rfl rfl size4 rfl rfl rfl (leb rfl) ?_)
          refine AO.nil ?_
          change AC _ _ _ _
          refine AC.ret ?_
          refine inlret (ob' := [.fix 123 [.d (eS0 a1), .d (di .i64 g10.2.2), .d (dbool true)], .dead]) (e' := [(2, .d (eS0 a2)), (7, .ptr 0 0), (8, .d (di .i64 y1)), (9, .d (di .i64 g10.1))]) (r := .tu []) rfl rfl rfl ?_
          change AO _ _ _ _ _
          refine AO.nil ?_
          change AC _ _ _ _
          refine AC.seq ?_
          refine AC.region ?_
          refine AO.op rfl (AOp.fieldAddr rfl rfl (ltb rfl) rfl fo123_2 ?_)
          refine AO.op rfl (AOp.load1 rfl rfl (ltb rfl) rfl agg4 rfl rfl ?_)
          refine AO.nil ?_
          change AC _ _ _ _
          refine AC.condT rfl rfl ?_
          refine AC.seq ?_
          refine AC.region ?_
          refine AO.op rfl (AOp.inl [] (by kernel_rfl) Try.func103 rfl Try.ntmps103 rfl rfl (ltb rfl) rfl (leb rfl) rfl ?_)
          intro fr86
          refine AC.seq ?_
          refine AC.region ?_
          refine AO.op rfl (AOp.assign rfl rfl (ltb rfl) rfl ?_)
          refine AO.nil ?_
          change AC _ _ _ _
          refine AC.seq ?_
          refine AC.seq ?_
          refine AC.region ?_
          refine AO.op rfl (AOp.move rfl rfl (ltb rfl) rfl ?_)
          refine AO.op rfl (AOp.nilCheck rfl rfl (ltb rfl) rfl rfl ?_)
          refine AO.op rfl (AOp.fieldAddr rfl rfl (ltb rfl) rfl fo123_2 ?_)
          refine AO.op rfl (AOp.load1 rfl rfl (ltb rfl) rfl agg4 rfl rfl ?_)
          refine AO.nil ?_
          change AC _ _ _ _
          refine AC.condT rfl rfl ?_
          refine AC.seq ?_
          refine AC.region ?_
          refine AO.op rfl (AOp.assign rfl rfl (ltb rfl) rfl ?_)
          refine AO.nil ?_
          change AC _ _ _ _
          refine AC.ret ?_
          refine inlret (ob' := [.fix 123 [.d (eS0 a1), .d (di .i64 g10.2.2), .d (dbool true)], .dead, .dead]) (e' := []) (r := .d (di .i64 (1 : Int))) rfl rfl rfl ?_
          change AO _ _ _ _ _
          refine AO.op rfl (AOp.assign rfl rfl (ltb rfl) rfl ?_)
          refine AO.nil ?_
          change AC _ _ _ _
          refine AC.ret ?_
          change RetQ _ _ _ .ret _
          obtain rfl := Option.some.inj h1
          replace h0 := aftR h0
          obtain rfl := Option.some.inj h0
          refine retq rfl rfl
        replace h1 := cF h1 q85
        refine AC.skip ?_
        change AC _ _ _ _
        refine AC.joinP (V := Int) [0] [12] 2 (fun g87 => [(12, .d (di .i64 g87))]) (fun g87 => [.fix 123 [.d (eS0 a1), .d (di .i64 g10.2.2), .d (dbool g10.2.1)], .frame fr20 [(2, .d (eS0 a2)), (7, .ptr 0 0), (8, .d (di .i64 y1)), (9, .d (di .i64 g10.1))]]) (fun g87 => (p_LocatePointInRing_96_k9 y1 g10 (iter (p_LocatePointInRing_96_l2 a1 a2 F y1) n12)) g87 = some o3) rfl ?_ ?_
        · refine AC.seq ?_
          refine AC.region ?_
          refine AO.op rfl (AOp.move rfl rfl (ltb rfl) rfl ?_)
          refine AO.op rfl (AOp.move rfl rfl (ltb rfl) rfl ?_)
          refine AO.op rfl (AOp.flss rfl rfl (ltb rfl) rfl rfl ?_)
          refine AO.nil ?_
          change AC _ _ _ _
          refine AC.cond rfl (fun q102 => ?_) (fun q102 => ?_)
          · replace h1 := cT h1 q102
            refine AC.region ?_
            refine AO.op rfl (AOp.move rfl rfl (ltb rfl) rfl ?_)
            obtain ⟨q103, h1⟩ := need_elim h1
            refine AO.op rfl (AOp.ineg rfl rfl (ltb rfl) rfl rfl q103.1 q103.2 ?_)
            refine AO.op rfl (AOp.assign rfl rfl (ltb rfl) rfl ?_)
            refine AO.nil ?_
            exact ⟨(-y83), _, rfl, (LeL.refl _), rfl, rfl, h1⟩
          replace h1 := cF h1 q102
          refine AC.skip ?_
          exact ⟨y83, _, rfl, (LeL.refl _), rfl, rfl, h1⟩
        intro g87 h1
        unfold p_LocatePointInRing_96_k9 at h1
        refine AC.seq ?_
        refine AC.region ?_
        refine AO.op rfl (AOp.move rfl rfl (ltb rfl) rfl ?_)
        refine AO.op rfl (AOp.igtr rfl rfl (ltb rfl) rfl rfl ?_)
        refine AO.nil ?_
        change AC _ _ _ _
        refine AC.cond rfl (fun q88 => ?_) (fun q88 => ?_)
        · replace h1 := cT h1 q88
          refine AC.region ?_
          refine AO.op rfl (AOp.move rfl rfl (ltb rfl) rfl ?_)
          refine AO.op rfl (AOp.nilCheck rfl rfl (ltb rfl) rfl rfl ?_)
          refine AO.op rfl (AOp.fieldAddr rfl rfl (ltb rfl) rfl fo123_1 ?_)
          refine AO.op rfl (AOp.load1 rfl rfl (ltb rfl) rfl agg3 rfl rfl ?_)
          obtain ⟨q89, h1⟩ := need_elim h1
          refine AO.op rfl (AOp.iadd rfl rfl (ltb rfl) rfl rfl rfl q89.1 q89.2 ?_)
          refine AO.op rfl (AOp.nilCheck rfl rfl (ltb rfl) rfl rfl ?_)
          refine AO.op rfl (AOp.fieldAddr rfl rfl (ltb rfl) rfl fo123_1 ?_)
          refine AO.op rfl (AOp.store rfl rfl rfl rfl size3 rfl rfl rfl (leb rfl) ?_)
          refine AO.nil ?_
          refine inlend (ob' := [.fix 123 [.d (eS0 a1), .d (di .i64 (g10.2.2 + (1 : Int))), .d (dbool g10.2.1)], .dead]) (e' := [(2, .d (eS0 a2)), (7, .ptr 0 0), (8, .d (di .i64 y1)), (9, .d (di .i64 g10.1))]) (r := .tu []) rfl rfl rfl ?_
          change AO _ _ _ _ _
          refine AO.nil ?_
          change AC _ _ _ _
          refine AC.seq ?_
          refine AC.region ?_
          refine AO.op rfl (AOp.fieldAddr rfl rfl (ltb rfl) rfl fo123_2 ?_)
          refine AO.op rfl (AOp.load1 rfl rfl (ltb rfl) rfl agg4 rfl rfl ?_)
          refine AO.nil ?_
          change AC _ _ _ _
          refine AC.cond rfl (fun q90 => ?_) (fun q90 => ?_)
          · replace h1 := cT h1 q90
            refine AC.seq ?_
            refine AC.region ?_
            refine AO.op rfl (AOp.inl [] (by kernel_rfl) Try.func103 rfl Try.ntmps103 rfl rfl (ltb rfl) rfl (leb rfl) rfl ?_)
            intro fr91
            refine AC.seq ?_
            refine AC.region ?_
            refine AO.op rfl (AOp.assign rfl rfl (ltb rfl) rfl ?_)
            refine AO.nil ?_
            change AC _ _ _ _
            refine AC.seq ?_
            refine AC.seq ?_
            refine AC.region ?_
            refine AO.op rfl (AOp.move rfl rfl (ltb rfl) rfl ?_)
            refine AO.op rfl (AOp.nilCheck rfl rfl (ltb rfl) rfl rfl ?_)
            refine AO.op rfl (AOp.fieldAddr rfl rfl (ltb rfl) rfl fo123_2 ?_)
            refine AO.op rfl (AOp.load1 rfl rfl (ltb rfl) rfl agg4 rfl rfl ?_)
            refine AO.nil ?_
            change AC _ _ _ _
            refine AC.cond rfl (fun q92 => ?_) (fun q92 => ?_)
            · replace h1 := cT h1 q92
              refine AC.seq ?_
              refine AC.region ?_
              refine AO.op rfl (AOp.assign rfl rfl (ltb rfl) rfl ?_)
              refine AO.nil ?_
              change AC _ _ _ _
              refine AC.ret ?_
              refine inlret (ob' := [.fix 123 [.d (eS0 a1), .d (di .i64 (g10.2.2 + (1 : Int))), .d (dbool g10.2.1)], .dead, .dead]) (e' := []) (r := .d (di .i64 (1 : Int))) rfl rfl rfl ?_
              change AO _ _ _ _ _
              refine AO.op rfl (AOp.assign rfl rfl (ltb rfl) rfl ?_)
              refine AO.nil ?_
              change AC _ _ _ _
              refine AC.ret ?_
              change RetQ _ _ _ .ret _
              obtain rfl := Option.some.inj h1
              replace h0 := aftR h0
              obtain rfl := Option.some.inj h0
              refine retq rfl rfl
            replace h1 := cF h1 q92
            refine AC.skip ?_
            change AC _ _ _ _
            refine AC.seq ?_
            refine AC.seq ?_
            refine AC.region ?_
            refine AO.op rfl (AOp.move rfl rfl (ltb rfl) rfl ?_)
            refine AO.op rfl (AOp.nilCheck rfl rfl (ltb rfl) rfl rfl ?_)
            refine AO.op rfl (AOp.fieldAddr rfl rfl (ltb rfl) rfl fo123_1 ?_)
            refine AO.op rfl (AOp.load1 rfl rfl (ltb rfl) rfl agg3 rfl rfl ?_)
            obtain ⟨q93, h1⟩ := need_elim h1
            refine AO.op rfl (AOp.irem rfl rfl (ltb rfl) rfl rfl q93 rfl ?_)
            refine AO.op rfl (AOp.ieql rfl rfl (ltb rfl) rfl rfl ?_)
            refine AO.nil ?_
            change AC _ _ _ _
            refine AC.cond rfl (fun q94 => ?_) (fun q94 => ?_)
            · replace h1 := cT h1 q94
              refine AC.seq ?_
              refine AC.region ?_
              refine AO.op rfl (AOp.assign rfl rfl (ltb rfl) rfl ?_)
              refine AO.nil ?_
              change AC _ _ _ _
              refine AC.ret ?_
              refine inlret (ob' := [.fix 123 [.d (eS0 a1), .d (di .i64 (g10.2.2 + (1 : Int))), .d (dbool g10.2.1)], .dead, .dead]) (e' := []) (r := .d (di .i64 (0 : Int))) rfl rfl rfl ?_
              change AO _ _ _ _ _
              refine AO.op rfl (AOp.assign rfl rfl (ltb rfl) rfl ?_)
              refine AO.nil ?_
              change AC _ _ _ _
              refine AC.ret ?_
              change RetQ _ _ _ .ret _
              obtain rfl := Option.some.inj h1
              replace h0 := aftR h0
              obtain rfl := Option.some.inj h0
              refine retq rfl rfl
            replace h1 := cF h1 q94
            refine AC.skip ?_
            change AC _ _ _ _
            refine AC.seq ?_
            refine AC.region ?_
            refine AO.op rfl (AOp.assign rfl rfl (ltb rfl) rfl ?_)
            refine AO.nil ?_
            change AC _ _ _ _
            refine AC.ret ?_
            refine inlret (ob' := [.fix 123 [.d (eS0 a1), .d (di .i64 (g10.2.2 + (1 : Int))), .d (dbool g10.2.1)], .dead, .dead]) (e' := []) (r := .d (di .i64 (2 : Int))) rfl rfl rfl ?_
            change AO _ _ _ _ _
            refine AO.op rfl (AOp.assign rfl rfl (ltb rfl) rfl ?_)
            refine AO.nil ?_
            change AC _ _ _ _
            refine AC.ret ?_
            change RetQ _ _ _ .ret _
            obtain rfl := Option.some.inj h1
            replace h0 := aftR h0
            obtain rfl := Option.some.inj h0
            refine retq rfl rfl
          replace h1 := cF h1 q90
          refine AC.skip ?_
          change AC _ _ _ _
          refine AC.region ?_
          refine AO.op rfl (AOp.move rfl rfl (ltb rfl) rfl ?_)
          refine AO.op rfl (AOp.move rfl rfl (ltb rfl) rfl ?_)
          obtain ⟨q95, h1⟩ := need_elim h1
          refine AO.op rfl (AOp.iadd rfl rfl (ltb rfl) rfl rfl rfl q95.1 q95.2 ?_)
          refine AO.op rfl (AOp.assign rfl rfl (ltb rfl) rfl ?_)
          refine AO.nil ?_
          exact ⟨((g10.1 + y1), g10.2.1, (g10.2.2 + (1 : Int))), _, rfl, (LeL.refl _), rfl, rfl, h1⟩
        replace h1 := cF h1 q88
        refine AC.skip ?_
        refine inlend (ob' := [.fix 123 [.d (eS0 a1), .d (di .i64 g10.2.2), .d (dbool g10.2.1)], .dead]) (e' := [(2, .d (eS0 a2)), (7, .ptr 0 0), (8, .d (di .i64 y1)), (9, .d (di .i64 g10.1))]) (r := .tu []) rfl rfl rfl ?_
        change AO _ _ _ _ _
        refine AO.nil ?_
        change AC _ _ _ _
        refine AC.seq ?_
        refine AC.region ?_
        refine AO.op rfl (AOp.fieldAddr rfl rfl (ltb rfl) rfl fo123_2 ?_)
        refine AO.op rfl (AOp.load1 rfl rfl (ltb rfl) rfl agg4 rfl rfl ?_)
        refine AO.nil ?_
        change AC _ _ _ _
        refine AC.cond rfl (fun q96 => ?_) (fun q96 => ?_)
        · replace h1 := cT h1 q96
          refine AC.seq ?_
          refine AC.region ?_
          refine AO.op rfl (AOp.inl [] (by kernel_rfl) Try.func103 rfl Try.ntmps103 rfl rfl (ltb rfl) rfl (leb rfl) rfl ?_)
          intro fr97
          refine AC.seq ?_
          refine AC.region ?_
          refine AO.op rfl (AOp.assign rfl rfl (ltb rfl) rfl ?_)
          refine AO.nil ?_
          change AC _ _ _ _
          refine AC.seq ?_
          refine AC.seq ?_
          refine AC.region ?_
          refine AO.op rfl (AOp.move rfl rfl (ltb rfl) rfl ?_)
          refine AO.op rfl (AOp.nilCheck rfl rfl (ltb rfl) rfl rfl ?_)
          refine AO.op rfl (AOp.fieldAddr rfl rfl (ltb rfl) rfl fo123_2 ?_)
          refine AO.op rfl (AOp.load1 rfl rfl (ltb rfl) rfl agg4 rfl rfl ?_)
          refine AO.nil ?_
          change AC _ _ _ _
          refine AC.cond rfl (fun q98 => ?_) (fun q98 => ?_)
          · replace h1 := cT h1 q98
            refine AC.seq ?_
            refine AC.region ?_
            refine AO.op rfl (AOp.assign rfl rfl (ltb rfl) rfl ?_)
            refine AO.nil ?_
            change AC _ _ _ _
            refine AC.ret ?_
            refine inlret (ob' := [.fix 123 [.d (eS0 a1), .d (di .i64 g10.2.2), .d (dbool g10.2.1)], .dead, .dead]) (e' := []) (r := .d (di .i64 (1 : Int))) rfl rfl rfl ?_
            change AO _ _ _ _ _
            refine AO.op rfl (AOp.assign rfl rfl (ltb rfl) rfl ?_)
            refine AO.nil ?_
            change AC _ _ _ _
            refine AC.ret ?_
            change RetQ _ _ _ .ret _
            obtain rfl := Option.some.inj h1
            replace h0 := aftR h0
            obtain rfl := Option.some.inj h0
            refine retq rfl rfl
          replace h1 := cF h1 q98
          refine AC.skip ?_
          change AC _ _ _ _
          refine AC.seq ?_
          refine AC.seq ?_
          refine AC.region ?_
          refine AO.op rfl (AOp.move rfl rfl (ltb rfl) rfl ?_)
          refine AO.op rfl (AOp.nilCheck rfl rfl (ltb rfl) rfl rfl ?_)
          refine AO.op rfl (AOp.fieldAddr rfl rfl (ltb rfl) rfl fo123_1 ?_)
          refine AO.op rfl (AOp.load1 rfl rfl (ltb rfl) rfl agg3 rfl rfl ?_)
          obtain ⟨q99, h1⟩ := need_elim h1
          refine AO.op rfl (AOp.irem rfl rfl (ltb rfl) rfl rfl q99 rfl ?_)
          refine AO.op rfl (AOp.ieql rfl rfl (ltb rfl) rfl rfl ?_)
          refine AO.nil ?_
          change AC _ _ _ _
          refine AC.cond rfl (fun q100 => ?_) (fun q100 => ?_)
          · replace h1 := cT h1 q100
            refine AC.seq ?_
            refine AC.region ?_
            refine AO.op rfl (AOp.assign rfl rfl (ltb rfl) rfl ?_)
            refine AO.nil ?_
            change AC _ _ _ _
            refine AC.ret ?_
            refine inlret (ob' := [.fix 123 [.d (eS0 a1), .d (di .i64 g10.2.2), .d (dbool g10.2.1)], .dead, .dead]) (e' := []) (r := .d (di .i64 (0 : Int))) rfl rfl rfl ?_
            change AO _ _ _ _ _
            refine AO.op rfl (AOp.assign rfl rfl (ltb rfl) rfl ?_)
            refine AO.nil ?_
            change AC _ _ _ _
            refine AC.ret ?_
            change RetQ _ _ _ .ret _
            obtain rfl := Option.some.inj h1
            replace h0 := aftR h0
            obtain rfl := Option.some.inj h0
            refine retq rfl rfl
          replace h1 := cF h1 q100
          refine AC.skip ?_
          change AC _ _ _ _
          refine AC.seq ?_
          refine AC.region ?_
          refine AO.op rfl (AOp.assign rfl rfl (ltb rfl) rfl ?_)
          refine AO.nil ?_
          change AC _ _ _ _
          refine AC.ret ?_
          refine inlret (ob' := [.fix 123 [.d (eS0 a1), .d (di .i64 g10.2.2), .d (dbool g10.2.1)], .dead, .dead]) (e' := []) (r := .d (di .i64 (2 : Int))) rfl rfl rfl ?_
          change AO _ _ _ _ _
          refine AO.op rfl (AOp.assign rfl rfl (ltb rfl) rfl ?_)
          refine AO.nil ?_
          change AC _ _ _ _
          refine AC.ret ?_
          change RetQ _ _ _ .ret _
          obtain rfl := Option.some.inj h1
          replace h0 := aftR h0
          obtain rfl := Option.some.inj h0
          refine retq rfl rfl
        replace h1 := cF h1 q96
        refine AC.skip ?_
        change AC _ _ _ _
        refine AC.region ?_
        refine AO.op rfl (AOp.move rfl rfl (ltb rfl) rfl ?_)
        refine AO.op rfl (AOp.move rfl rfl (ltb rfl) rfl ?_)
        obtain ⟨q101, h1⟩ := need_elim h1
        refine AO.op rfl (AOp.iadd rfl rfl (ltb rfl) rfl rfl rfl q101.1 q101.2 ?_)
        refine AO.op rfl (AOp.assign rfl rfl (ltb rfl) rfl ?_)
        refine AO.nil ?_
        exact ⟨((g10.1 + y1), g10.2.1, g10.2.2), _, rfl, (LeL.refl _), rfl, rfl, h1⟩
      replace h1 := cF h1 q58
      refine AC.skip ?_
      refine inlend (ob' := [.fix 123 [.d (eS0 a1), .d (di .i64 g10.2.2), .d (dbool g10.2.1)], .dead]) (e' := [(2, .d (eS0 a2)), (7, .ptr 0 0), (8, .d (di .i64 y1)), (9, .d (di .i64 g10.1))]) (r := .tu []) rfl rfl rfl ?_
      change AO _ _ _ _ _
      refine AO.nil ?_
      change AC _ _ _ _
      refine AC.seq ?_
      refine AC.region ?_
      refine AO.op rfl (AOp.fieldAddr rfl rfl (ltb rfl) rfl fo123_2 ?_)
      refine AO.op rfl (AOp.load1 rfl rfl (ltb rfl) rfl agg4 rfl rfl ?_)
      refine AO.nil ?_
      change AC _ _ _ _
      refine AC.cond rfl (fun q104 => ?_) (fun q104 => ?_)
      · replace h1 := cT h1 q104
        refine AC.seq ?_
        refine AC.region ?_
        refine AO.op rfl (AOp.inl [] (by kernel_rfl) Try.func103 rfl Try.ntmps103 rfl rfl (ltb rfl) rfl (leb rfl) rfl ?_)
        intro fr105
        refine AC.seq ?_
        refine AC.region ?_
        refine AO.op rfl (AOp.assign rfl rfl (ltb rfl) rfl ?_)
        refine AO.nil ?_
        change AC _ _ _ _
        refine AC.seq ?_
        refine AC.seq ?_
        refine AC.region ?_
        refine AO.op rfl (AOp.move rfl rfl (ltb rfl) rfl ?_)
        refine AO.op rfl (AOp.nilCheck rfl rfl (ltb rfl) rfl rfl ?_)
        refine AO.op rfl (AOp.fieldAddr rfl rfl (ltb rfl) rfl fo123_2 ?_)
        refine AO.op rfl (AOp.load1 rfl rfl (ltb rfl) rfl agg4 rfl rfl ?_)
        refine AO.nil ?_
        change AC _ _ _ _
        refine AC.cond rfl (fun q106 => ?_) (fun q106 => ?_)
        · replace h1 := cT h1 q106
          refine AC.seq ?_
          refine AC.region ?_
          refine AO.op rfl (AOp.assign rfl rfl (ltb rfl) rfl ?_)
          refine AO.nil ?_
          change AC _ _ _ _
          refine AC.ret ?_
          refine inlret (ob' := [.fix 123 [.d (eS0 a1), .d (di .i64 g10.2.2), .d (dbool g10.2.1)], .dead, .dead]) (e' := []) (r := .d (di .i64 (1 : Int))) rfl rfl rfl ?_
          change AO _ _ _ _ _
          refine AO.op rfl (AOp.assign rfl rfl (ltb rfl) rfl ?_)
          refine AO.nil ?_
          change AC _ _ _ _
          refine AC.ret ?_
          change RetQ _ _ _ .ret _
          obtain rfl := Option.some.inj h1
          replace h0 := aftR h0
          obtain rfl := Option.some.inj h0
          refine retq rfl rfl
        replace h1 := cF h1 q106
        refine AC.skip ?_
        change AC _ _ _ _
        refine AC.seq ?_
        refine AC.seq ?_
        refine AC.region ?_
        refine AO.op rfl (AOp.move rfl rfl (ltb rfl) rfl ?_)
        refine AO.op rfl (AOp.nilCheck rfl rfl (ltb rfl) rfl rfl ?_)
        refine AO.op rfl (AOp.fieldAddr rfl rfl (ltb rfl) rfl fo123_1 ?_)
        refine AO.op rfl (AOp.load1 rfl rfl (ltb rfl) rfl agg3 rfl rfl ?_)
        obtain ⟨q107, h1⟩ := need_elim h1
        refine AO.op rfl (AOp.irem rfl rfl (ltb rfl) rfl rfl q107 rfl ?_)
        refine AO.op rfl (AOp.ieql rfl rfl (ltb rfl) rfl rfl ?_)
        refine AO.nil ?_
        change AC _ _ _ _
        refine AC.cond rfl (fun q108 => ?_) (fun q108 => ?_)
        · replace h1 := cT h1 q108
          refine AC.seq ?_
          refine AC.region ?_
          refine AO.op rfl (AOp.assign rfl rfl (ltb rfl) rfl ?_)
          refine AO.nil ?_
          change AC _ _ _ _
          refine AC.ret ?_
          refine inlret (ob' := [.fix 123 [.d (eS0 a1), .d (di .i64 g10.2.2), .d (dbool g10.2.1)], .dead, .dead]) (e' := []) (r := .d (di .i64 (0 : Int))) rfl rfl rfl ?_
          change AO _ _ _ _ _
          refine AO.op rfl (AOp.assign rfl rfl (ltb rfl) rfl ?_)
          refine AO.nil ?_
          change AC _ _ _ _
          refine AC.ret ?_
          change RetQ _ _ _ .ret _
          obtain rfl := Option.some.inj h1
          replace h0 := aftR h0
          obtain rfl := Option.some.inj h0
          refine retq rfl rfl
        replace h1 := cF h1 q108
        refine AC.skip ?_
        change AC _ _ _ _
        refine AC.seq ?_
        refine AC.region ?_
        refine AO.op rfl (AOp.assign rfl rfl (ltb rfl) rfl ?_)
        refine AO.nil ?_
        change AC _ _ _ _
        refine AC.ret ?_
        refine inlret (ob' := [.fix 123 [.d (eS0 a1), .d (di .i64 g10.2.2), .d (dbool g10.2.1)], .dead, .dead]) (e' := []) (r := .d (di .i64 (2 : Int))) rfl rfl rfl ?_
        change AO _ _ _ _ _
        refine AO.op rfl (AOp.assign rfl rfl (ltb rfl) rfl ?_)
        refine AO.nil ?_
        change AC _ _ _ _
        refine AC.ret ?_
        change RetQ _ _ _ .ret _
        obtain rfl := Option.some.inj h1
        replace h0 := aftR h0
        obtain rfl := Option.some.inj h0
        refine retq rfl rfl
      replace h1 := cF h1 q104
      refine AC.skip ?_
      change AC _ _ _ _
      refine AC.region ?_
      refine AO.op rfl (AOp.move rfl rfl (ltb rfl) rfl ?_)
      refine AO.op rfl (AOp.move rfl rfl (ltb rfl) rfl ?_)
      obtain ⟨q109, h1⟩ := need_elim h1
      refine AO.op rfl (AOp.iadd rfl rfl (ltb rfl) rfl rfl rfl q109.1 q109.2 ?_)
      refine AO.op rfl (AOp.assign rfl rfl (ltb rfl) rfl ?_)
      refine AO.nil ?_
      exact ⟨((g10.1 + y1), g10.2.1, g10.2.2), _, rfl, (LeL.refl _), rfl, rfl, h1⟩
    replace h1 := cF h1 q13
    refine AC.exit ?_
    obtain rfl := Option.some.inj h1
    exact ⟨(g10.2.2, g10.2.1), _, rfl, (LeL.refl _), rfl, rfl, aftL h0⟩
  intro g5 h0
  unfold p_LocatePointInRing_96_k1 at h0
  change AC _ _ _ _
  refine AC.seq ?_
  refine AC.region ?_
  refine AO.op rfl (AOp.inl [] (by kernel_rfl) Try.func103 rfl Try.ntmps103 rfl rfl (ltb rfl) rfl (leb rfl) rfl ?_)
  intro fr6
  refine AC.seq ?_
  refine AC.region ?_
  refine AO.op rfl (AOp.assign rfl rfl (ltb rfl) rfl ?_)
  refine AO.nil ?_
  change AC _ _ _ _
  refine AC.seq ?_
  refine AC.seq ?_
  refine AC.region ?_
  refine AO.op rfl (AOp.move rfl rfl (ltb rfl) rfl ?_)
  refine AO.op rfl (AOp.nilCheck rfl rfl (ltb rfl) rfl rfl ?_)
  refine AO.op rfl (AOp.fieldAddr rfl rfl (ltb rfl) rfl fo123_2 ?_)
  refine AO.op rfl (AOp.load1 rfl rfl (ltb rfl) rfl agg4 rfl rfl ?_)
  refine AO.nil ?_
  change AC _ _ _ _
  refine AC.cond rfl (fun q7 => ?_) (fun q7 => ?_)
  · replace h0 := cT h0 q7
    refine AC.seq ?_
    refine AC.region ?_
    refine AO.op rfl (AOp.assign rfl rfl (ltb rfl) rfl ?_)
    refine AO.nil ?_
    change AC _ _ _ _
    refine AC.ret ?_
    refine inlret (ob' := [.fix 123 [.d (eS0 a1), .d (di .i64 g5.1), .d (dbool g5.2)], .dead]) (e' := []) (r := .d (di .i64 (1 : Int))) rfl rfl rfl ?_
    change AO _ _ _ _ _
    refine AO.op rfl (AOp.assign rfl rfl (ltb rfl) rfl ?_)
    refine AO.nil ?_
    change AC _ _ _ _
    refine AC.ret ?_
    change RetQ _ _ _ .ret _
    obtain rfl := Option.some.inj h0
    refine retq rfl rfl
  replace h0 := cF h0 q7
  refine AC.skip ?_
  change AC _ _ _ _
  refine AC.seq ?_
  refine AC.seq ?_
  refine AC.region ?_
  refine AO.op rfl (AOp.move rfl rfl (ltb rfl) rfl ?_)
  refine AO.op rfl (AOp.nilCheck rfl rfl (ltb rfl) rfl rfl ?_)
  refine AO.op rfl (AOp.fieldAddr rfl rfl (ltb rfl) rfl fo123_1 ?_)
  refine AO.op rfl (AOp.load1 rfl rfl (ltb rfl) rfl agg3 rfl rfl ?_)
  obtain ⟨q8, h0⟩ := need_elim h0
  refine AO.op rfl (AOp.irem rfl rfl (ltb rfl) rfl rfl q8 rfl ?_)
  refine AO.op rfl (AOp.ieql rfl rfl (ltb rfl) rfl rfl ?_)
  refine AO.nil ?_
  change AC _ _ _ _
  refine AC.cond rfl (fun q9 => ?_) (fun q9 => ?_)
  · replace h0 := cT h0 q9
    refine AC.seq ?_
    refine AC.region ?_
    refine AO.op rfl (AOp.assign rfl rfl (ltb rfl) rfl ?_)
    refine AO.nil ?_
    change AC _ _ _ _
    refine AC.ret ?_
    refine inlret (ob' := [.fix 123 [.d (eS0 a1), .d (di .i64 g5.1), .d (dbool g5.2)], .dead]) (e' := []) (r := .d (di .i64 (0 : Int))) rfl rfl rfl ?_
    change AO _ _ _ _ _
    refine AO.op rfl (AOp.assign rfl rfl (ltb rfl) rfl ?_)
    refine AO.nil ?_
    change AC _ _ _ _
    refine AC.ret ?_
    change RetQ _ _ _ .ret _
    obtain rfl := Option.some.inj h0
    refine retq rfl rfl
  replace h0 := cF h0 q9
  refine AC.skip ?_
  change AC _ _ _ _
  refine AC.seq ?_
  refine AC.region ?_
  refine AO.op rfl (AOp.assign rfl rfl (ltb rfl) rfl ?_)
  refine AO.nil ?_
  change AC _ _ _ _
  refine AC.ret ?_
  refine inlret (ob' := [.fix 123 [.d (eS0 a1), .d (di .i64 g5.1), .d (dbool g5.2)], .dead]) (e' := []) (r := .d (di .i64 (2 : Int))) rfl rfl rfl ?_
  change AO _ _ _ _ _
  refine AO.op rfl (AOp.assign rfl rfl (ltb rfl) rfl ?_)
  refine AO.nil ?_
  change AC _ _ _ _
  refine AC.ret ?_
  change RetQ _ _ _ .ret _
  obtain rfl := Option.some.inj h0
  refine retq rfl rfl

set_option maxRecDepth 100000 in
set_option maxHeartbeats 1000000 in
/-- pub-orthodrome/pub/gogeom/xy.LocatePointInRing -/
theorem w_LocatePointInRing (F : Nat) (a0 : Int) (a1 : (List Nat)) (a2 : (List Nat)) (r0 : Int) (h0 : p_LocatePointInRing F a0 a1 a2 = some r0) : FnD Try.prog 85 [di .i64 a0, eS0 a1, eS0 a2] (fun r => r = di .i64 r0) := by
  refine FnD.of (by kernel_rfl) Try.func85 rfl Try.ntmps85 rfl (leb rfl) fun W ok => ?_
  unfold p_LocatePointInRing at h0
  refine AC.seq ?_
  refine AC.region ?_
  refine AO.op rfl (AOp.assign rfl rfl (ltb rfl) rfl ?_)
  refine AO.nil ?_
  change AC _ _ _ _
  refine AC.seq ?_
  refine AC.region ?_
  refine AO.op rfl (AOp.move rfl rfl (ltb rfl) rfl ?_)
  refine AO.op rfl (AOp.move rfl rfl (ltb rfl) rfl ?_)
  refine AO.op rfl (AOp.move rfl rfl (ltb rfl) rfl ?_)
  obtain ⟨y1, q2, h0⟩ := bind_elim h0
  refine AO.op rfl (AOp.callD rfl rfl (ltb rfl) rfl rfl (w_LocatePointInRing_96 F a0 a1 a2 y1 q2) ?_)
  rintro _ rfl
  refine AO.op rfl (AOp.assign rfl rfl (ltb rfl) rfl ?_)
  refine AO.nil ?_
  change AC _ _ _ _
  refine AC.ret ?_
  change RetQ _ _ _ .ret _
  obtain rfl := Option.some.inj h0
  refine retq rfl rfl

set_option maxRecDepth 100000 in
set_option maxHeartbeats 1000000 in
/-- pub-orthodrome/pub/gogeom/xy.IsPointInRing -/
theorem w_IsPointInRing (F : Nat) (a0 : Int) (a1 : (List Nat)) (a2 : (List Nat)) (r0 : Bool) (h0 : p_IsPointInRing F a0 a1 a2 = some r0) : FnD Try.prog 67 [di .i64 a0, eS0 a1, eS0 a2] (fun r => r = dbool r0) := by
  refine FnD.of (by kernel_rfl) Try.func67 rfl Try.ntmps67 rfl (leb rfl) fun W ok => ?_
  unfold p_IsPointInRing at h0
  refine AC.seq ?_
  refine AC.region ?_
  refine AO.op rfl (AOp.assign rfl rfl (ltb rfl) rfl ?_)
  refine AO.nil ?_
  change AC _ _ _ _
  refine AC.seq ?_
  refine AC.region ?_
  refine AO.op rfl (AOp.move rfl rfl (ltb rfl) rfl ?_)
  refine AO.op rfl (AOp.move rfl rfl (ltb rfl) rfl ?_)
  refine AO.op rfl (AOp.move rfl rfl (ltb rfl) rfl ?_)
  obtain ⟨y1, q2, h0⟩ := bind_elim h0
  refine AO.op rfl (AOp.callD rfl rfl (ltb rfl) rfl rfl (w_LocatePointInRing F a0 a1 a2 y1 q2) ?_)
  rintro _ rfl
  refine AO.op rfl (AOp.ineq rfl rfl (ltb rfl) rfl rfl ?_)
  refine AO.op rfl (AOp.assign rfl rfl (ltb rfl) rfl ?_)
  refine AO.nil ?_
  change AC _ _ _ _
  refine AC.ret ?_
  change RetQ _ _ _ .ret _
  obtain rfl := Option.some.inj h0
  refine retq rfl rfl

set_option maxRecDepth 100000 in
set_option maxHeartbeats 1000000 in
/-- pub-orthodrome/impl.InRing -/
theorem w_InRing (F : Nat) (a0 : Int) (a1 : TImpl_P2) (a2 : (List Nat)) (r0 : (Bool × Bool)) (h0 : p_InRing F a0 a1 a2 = some r0) : FnD Try.prog 31 [di .i64 a0, e_TImpl_P2 a1, eS0 a2] (fun r => r = .tu [dbool r0.1, dbool r0.2]) := by
  refine FnD.wrap (g := 66) (m := 2) (fun vs w h => idle66 vs w h) (by kernel_rfl) Try.func31 rfl Try.ntmps31 rfl (leb rfl) fun W ok => ?_
  unfold p_InRing at h0
  refine AW.seq ?_
  refine AC.region ?_
  refine AO.op rfl (AOp.box rfl rfl (ltb rfl) rfl rfl ?_)
  refine AO.op rfl (AOp.alloc rfl rfl (ltb rfl) zero4 rfl ?_)
  refine AO.op rfl (AOp.alloc rfl rfl (ltb rfl) zero4 rfl ?_)
  refine AO.nil ?_
  refine ⟨rfl, ?_⟩
  refine AW.defer (caps := [.tmp 6, .tmp 7]) rfl rfl rfl (ltb rfl) rfl rfl rfl rfl (by kernel_rfl) rfl fun df => ?_
  refine AC.seq ?_
  refine AC.region ?_
  refine AO.op rfl (AOp.move rfl rfl (ltb rfl) rfl ?_)
  refine AO.op rfl (AOp.loadN rfl rfl (ltb rfl) rfl agg24 size24 rfl (leb rfl) rfl ?_)
  obtain ⟨y1, q2, h0⟩ := bind_elim h0
  refine AO.op rfl (AOp.callD rfl rfl (ltb rfl) rfl rfl (w_coord a1 y1 q2) ?_)
  rintro _ rfl
  refine AO.op rfl (AOp.move rfl rfl (ltb rfl) rfl ?_)
  obtain ⟨y3, q4, h0⟩ := bind_elim h0
  refine AO.op rfl (AOp.callD rfl rfl (ltb rfl) rfl rfl (w_IsPointInRing F a0 y1 a2 y3 q4) ?_)
  rintro _ rfl
  refine AO.op rfl (AOp.store rfl rfl rfl rfl size4 rfl rfl rfl (leb rfl) ?_)
  refine AO.op rfl (AOp.store rfl rfl rfl rfl size4 rfl rfl rfl (leb rfl) ?_)
  refine AO.nil ?_
  change AC _ _ _ _
  refine AC.ret ?_
  change RetQ _ _ _ .ret _
  obtain rfl := Option.some.inj h0
  refine retq rfl rfl

theorem callBits (x : Nat) (w : World) : (callFunc 71 #[.float .f64 x]).run Try.prog w = .ok (.value (.int .u64 x)) w := by
  rw [run_callFunc_extern Try.func71 (by kernel_rfl) (by kernel_rfl) (by kernel_rfl) (e := Extern.MathFloatBits.float64bits) (by kernel_rfl), run_f64bits Try.prog x]
  rfl

set_option maxRecDepth 100000 in
set_option maxHeartbeats 1000000 in
/-- pub-orthodrome/spec.trim -/
theorem w_trim (F : Nat) (a0 : (List Int)) (r0 : (List Int)) (h0 : p_trim F a0 = some r0) : FnD Try.prog 78 [eS2 a0] (fun r => r = eS2 r0) := by
  refine FnD.of (by kernel_rfl) Try.func78 rfl Try.ntmps78 rfl (leb rfl) fun W ok => ?_
  unfold p_trim at h0
  refine AC.seq ?_
  refine AC.region ?_
  refine AO.op rfl (AOp.assign rfl rfl (ltb rfl) rfl ?_)
  refine AO.nil ?_
  change AC _ _ _ _
  obtain ⟨o1, l2, h0⟩ := bind_elim h0
  refine AC.joinP (V := (List Int)) [] [0] 0 (fun g3 => [(0, .d (eS2 g3))]) (fun g3 => []) (fun g3 => p_trim_k1 g3 = some r0) rfl ?_ ?_
  · refine AC.block ?_
    refine AC.loopP (V := (List Int)) p_trim_l2 o1 [] [0] 0 (fun g4 => [(0, .d (eS2 g4))]) (fun g4 => []) F a0 l2 rfl rfl (LeL.refl _) rfl rfl ?_
    intro n6 g4 h1
    unfold p_trim_l2 at h1
    refine AC.seq ?_
    refine AC.seq ?_
    refine AC.region ?_
    refine AO.op rfl (AOp.move rfl rfl (ltb rfl) rfl ?_)
    refine AO.op rfl (AOp.lenDs (n := g4.length) (cells := (List.map keS2 g4)) rfl rfl (ltb rfl) rfl el28 (by decide) (len1 _ _) ?_)
    refine AO.op rfl (AOp.igtr rfl rfl (ltb rfl) rfl rfl ?_)
    refine AO.op rfl (AOp.move rfl rfl (ltb rfl) rfl ?_)
    refine AO.dec (decide ((0 : Int) < ((g4.length : Nat) : Int))) (fun q7 => ?_) (fun q7 => ?_)
    · replace h1 := cT h1 q7
      refine AO.guardY rfl rfl rfl q7 (AOp.move rfl rfl (ltb rfl) rfl ?_)
      refine AO.guardY rfl rfl rfl q7 (AOp.move rfl rfl (ltb rfl) rfl ?_)
      refine AO.guardY rfl rfl rfl q7 (AOp.lenDs (n := g4.length) (cells := (List.map keS2 g4)) rfl rfl (ltb rfl) rfl el28 (by decide) (len1 _ _) ?_)
      obtain ⟨q8, h1⟩ := need_elim h1
      refine AO.guardY rfl rfl rfl q7 (AOp.isub rfl rfl (ltb rfl) rfl rfl rfl q8.1 q8.2 ?_)
      obtain ⟨x9, q10, h1⟩ := idx_elim h1
      refine AO.guardY rfl rfl rfl q7 (AOp.indexDs (cells := (List.map keS2 g4)) rfl rfl (ltb rfl) rfl rfl el28 (by decide) q10.1 (lt1 q10.2) ?_)
      refine AO.guardY rfl rfl rfl q7 (AOp.loadEp rfl rfl (ltb rfl) rfl agg106 (at1 q10.2) ?_)
      refine AO.guardY rfl rfl rfl q7 (AOp.ieql rfl rfl (ltb rfl) rfl rfl ?_)
      refine AO.op rfl (AOp.pick rfl rfl (ltb rfl) rfl q7 rfl ?_)
      refine AO.nil ?_
      change AC _ _ _ _
      refine AC.cond rfl (fun q11 => ?_) (fun q11 => ?_)
      · replace h1 := cT h1 q11
        refine AC.skip ?_
        change AC _ _ _ _
        refine AC.block ?_
        refine AC.region ?_
        refine AO.op rfl (AOp.move rfl rfl (ltb rfl) rfl ?_)
        refine AO.op rfl (AOp.move rfl rfl (ltb rfl) rfl ?_)
        refine AO.op rfl (AOp.lenDs (n := g4.length) (cells := (List.map keS2 g4)) rfl rfl (ltb rfl) rfl el28 (by decide) (len1 _ _) ?_)
        obtain ⟨q12, h1⟩ := need_elim h1
        refine AO.op rfl (AOp.isub rfl rfl (ltb rfl) rfl rfl rfl q12.1 q12.2 ?_)
        obtain ⟨q13, h1⟩ := need_elim h1
        refine AO.op rfl (AOp.sliceD (cells := (List.map keS2 g4)) (n := g4.length) (l := 0) (hh := ((((g4.length : Nat) : Int) - (1 : Int))).toNat) rfl rfl (ltb rfl) rfl (.inl ⟨rfl, rfl⟩) (.inr ⟨_, _, _, rfl, rfl, q13.1.2, rfl⟩) el28 (by decide) (len1 _ _) q13.2.1 q13.2.2 (sub1 _ _ _ _) ?_)
        refine AO.op rfl (AOp.assign rfl rfl (ltb rfl) rfl ?_)
        refine AO.nil ?_
        exact ⟨((g4.drop 0).take (((((g4.length : Nat) : Int) - (1 : Int))).toNat - 0)), _, rfl, (LeL.refl _), rfl, rfl, h1⟩
      replace h1 := cF h1 q11
      refine AC.exit ?_
      obtain rfl := Option.some.inj h1
      exact ⟨g4, _, rfl, (LeL.refl _), rfl, rfl, aftL h0⟩
    replace h1 := cF h1 q7
    refine AO.guardN rfl rfl rfl (ltb rfl) rfl q7 ?_
    refine AO.guardN rfl rfl rfl (ltb rfl) rfl q7 ?_
    refine AO.guardN rfl rfl rfl (ltb rfl) rfl q7 ?_
    refine AO.guardN rfl rfl rfl (ltb rfl) rfl q7 ?_
    refine AO.guardN rfl rfl rfl (ltb rfl) rfl q7 ?_
    refine AO.guardN rfl rfl rfl (ltb rfl) rfl q7 ?_
    refine AO.guardN rfl rfl rfl (ltb rfl) rfl q7 ?_
    refine AO.op rfl (AOp.pickN rfl rfl (ltb rfl) rfl q7 rfl ?_)
    refine AO.nil ?_
    change AC _ _ _ _
    refine AC.condF rfl rfl ?_
    refine AC.exit ?_
    obtain rfl := Option.some.inj h1
    exact ⟨g4, _, rfl, (LeL.refl _), rfl, rfl, aftL h0⟩
  intro g3 h0
  unfold p_trim_k1 at h0
  refine AC.seq ?_
  refine AC.region ?_
  refine AO.op rfl (AOp.move rfl rfl (ltb rfl) rfl ?_)
  refine AO.op rfl (AOp.assign rfl rfl (ltb rfl) rfl ?_)
  refine AO.nil ?_
  change AC _ _ _ _
  refine AC.ret ?_
  change RetQ _ _ _ .ret _
  obtain rfl := Option.some.inj h0
  refine retq rfl rfl

set_option maxRecDepth 100000 in
set_option maxHeartbeats 1000000 in
/-- pub-orthodrome/spec.WholeOf -/
theorem w_WholeOf (F : Nat) (a0 : Int) (r0 : TSpec_Whole) (h0 : p_WholeOf F a0 = some r0) : FnD Try.prog 72 [di .i64 a0] (fun r => r = e_TSpec_Whole r0) := by
  refine FnD.of (by kernel_rfl) Try.func72 rfl Try.ntmps72 rfl (leb rfl) fun W ok => ?_
  unfold p_WholeOf at h0
  refine AC.seq ?_
  refine AC.region ?_
  refine AO.op rfl (AOp.alloc rfl rfl (ltb rfl) zero30 rfl ?_)
  refine AO.nil ?_
  change AC _ _ _ _
  refine AC.seq ?_
  refine AC.region ?_
  refine AO.op rfl (AOp.move rfl rfl (ltb rfl) rfl ?_)
  refine AO.op rfl (AOp.i2i rfl rfl (ltb rfl) rfl Try.underlying2 Try.underlying91 rfl ?_)
  refine AO.op rfl (AOp.assign rfl rfl (ltb rfl) rfl ?_)
  refine AO.nil ?_
  change AC _ _ _ _
  refine AC.joinP (V := Int) [0, 2] [3] 1 (fun g1 => [(3, .d (di .u64 g1))]) (fun g1 => [.fix 30 [.d (dbool false), .d (.v (.slice none 0 0))]]) (fun g1 => (p_WholeOf_k1 a0 F) g1 = some r0) rfl ?_ ?_
  · refine AC.seq ?_
    refine AC.region ?_
    refine AO.op rfl (AOp.move rfl rfl (ltb rfl) rfl ?_)
    refine AO.op rfl (AOp.ilss rfl rfl (ltb rfl) rfl rfl ?_)
    refine AO.nil ?_
    change AC _ _ _ _
    refine AC.cond rfl (fun q5 => ?_) (fun q5 => ?_)
    · replace h0 := cT h0 q5
      refine AC.region ?_
      refine AO.op rfl (AOp.move rfl rfl (ltb rfl) rfl ?_)
      refine AO.op rfl (AOp.inegW rfl rfl (ltb rfl) rfl ?_)
      refine AO.op rfl (AOp.assign rfl rfl (ltb rfl) rfl ?_)
      refine AO.nil ?_
      exact ⟨(IntKind.u64.wrap (-(IntKind.u64.wrap a0))), _, rfl, (LeL.refl _), rfl, rfl, h0⟩
    replace h0 := cF h0 q5
    refine AC.skip ?_
    exact ⟨(IntKind.u64.wrap a0), _, rfl, (LeL.refl _), rfl, rfl, h0⟩
  intro g1 h0
  unfold p_WholeOf_k1 at h0
  refine AC.seq ?_
  refine AC.region ?_
  refine AO.op rfl (AOp.move rfl rfl (ltb rfl) rfl ?_)
  refine AO.op rfl (AOp.ilss rfl rfl (ltb rfl) rfl rfl ?_)
  refine AO.op rfl (AOp.move rfl rfl (ltb rfl) rfl ?_)
  refine AO.op rfl (AOp.i2i rfl rfl (ltb rfl) rfl Try.underlying91 Try.underlying106 rfl ?_)
  refine AO.op rfl (AOp.move rfl rfl (ltb rfl) rfl ?_)
  obtain ⟨q2, h0⟩ := need_elim h0
  refine AO.op rfl (AOp.ishr (n := 32) rfl rfl (ltb rfl) rfl rfl (by decide) q2 rfl ?_)
  refine AO.op rfl (AOp.i2i rfl rfl (ltb rfl) rfl Try.underlying91 Try.underlying106 rfl ?_)
  refine AO.op rfl (AOp.buildSliceD rfl rfl (ltb rfl) el28 zero106 rfl (leb rfl) rfl rfl rfl rfl ?_)
  obtain ⟨y3, q4, h0⟩ := bind_elim h0
  refine AO.op rfl (AOp.callD rfl rfl (ltb rfl) rfl rfl (w_trim F [(IntKind.u32.wrap g1), (IntKind.u32.wrap (g1 / 2 ^ 32))] y3 q4) ?_)
  rintro _ rfl
  refine AO.op rfl (AOp.build rfl rfl (ltb rfl) zero30 rfl places30 rfl rfl ?_)
  refine AO.op rfl (AOp.store rfl rfl rfl rfl size30 rfl rfl rfl (leb rfl) ?_)
  refine AO.nil ?_
  change AC _ _ _ _
  refine AC.ret ?_
  change RetQ _ _ _ .ret _
  obtain rfl := Option.some.inj h0
  refine retq rfl rfl

set_option maxRecDepth 100000 in
set_option maxHeartbeats 1000000 in
/-- pub-orthodrome/spec.DyadicOf -/
theorem w_DyadicOf (F : Nat) (a0 : Nat) (r0 : TSpec_Dyadic) (h0 : p_DyadicOf F a0 = some r0) : FnD Try.prog 36 [dfl a0] (fun r => r = e_TSpec_Dyadic r0) := by
  refine FnD.of (by kernel_rfl) Try.func36 rfl Try.ntmps36 rfl (leb rfl) fun W ok => ?_
  unfold p_DyadicOf at h0
  refine AC.seq ?_
  refine AC.region ?_
  refine AO.op rfl (AOp.alloc rfl rfl (ltb rfl) zero32 rfl ?_)
  refine AO.nil ?_
  change AC _ _ _ _
  refine AC.seq ?_
  refine AC.region ?_
  refine AO.op rfl (AOp.move rfl rfl (ltb rfl) rfl ?_)
  refine AO.op rfl (AOp.callX [.float .f64 a0] rfl rfl (ltb rfl) rfl (callBits a0) ?_)
  refine AO.op rfl (AOp.assign rfl rfl (ltb rfl) rfl ?_)
  refine AO.nil ?_
  change AC _ _ _ _
  refine AC.seq ?_
  refine AC.region ?_
  refine AO.op rfl (AOp.move rfl rfl (ltb rfl) rfl ?_)
  refine AO.op rfl (AOp.ibits (by simp) rfl rfl (ltb rfl) rfl rfl rfl ?_)
  refine AO.op rfl (AOp.i2i rfl rfl (ltb rfl) rfl Try.underlying91 Try.underlying2 rfl ?_)
  refine AO.op rfl (AOp.move rfl rfl (ltb rfl) rfl ?_)
  obtain ⟨q1, h0⟩ := need_elim h0
  refine AO.op rfl (AOp.ishr (n := 52) rfl rfl (ltb rfl) rfl rfl (by decide) q1 rfl ?_)
  refine AO.op rfl (AOp.ibits (by simp) rfl rfl (ltb rfl) rfl rfl rfl ?_)
  refine AO.op rfl (AOp.i2i rfl rfl (ltb rfl) rfl Try.underlying91 Try.underlying3 rfl ?_)
  refine AO.op rfl (AOp.assign rfl rfl (ltb rfl) rfl ?_)
  refine AO.op rfl (AOp.assign rfl rfl (ltb rfl) rfl ?_)
  refine AO.nil ?_
  change AC _ _ _ _
  refine AC.joinP (V := (Int × Int)) [2, 3] [4, 5] 1 (fun g2 => [(4, .d (di .i64 g2.1)), (5, .d (di .i64 g2.2))]) (fun g2 => [.fix 32 [.d (dbool false), .d (.v (.slice none 0 0)), .d (di .i64 (0 : Int))]]) (fun g2 => (p_DyadicOf_k1 a0 F) g2 = some r0) rfl ?_ ?_
  · refine AC.seq ?_
    refine AC.region ?_
    refine AO.op rfl (AOp.move rfl rfl (ltb rfl) rfl ?_)
    refine AO.nil ?_
    change AC _ _ _ _
    refine AC.block ?_
    refine AC.seq ?_
    refine AC.region ?_
    refine AO.op rfl (AOp.ieql rfl rfl (ltb rfl) rfl rfl ?_)
    refine AO.op rfl (AOp.assign rfl rfl (ltb rfl) rfl ?_)
    refine AO.nil ?_
    change AC _ _ _ _
    refine AC.cond rfl (fun q12 => ?_) (fun q12 => ?_)
    · replace h0 := cT h0 q12
      refine AC.seq ?_
      refine AC.region ?_
      refine AO.op rfl (AOp.build rfl rfl (ltb rfl) zero32 rfl places32 rfl rfl ?_)
      refine AO.op rfl (AOp.store rfl rfl rfl rfl size32 rfl rfl rfl (leb rfl) ?_)
      refine AO.nil ?_
      change AC _ _ _ _
      refine AC.subO 0 rfl (.cons (SVLe.refl _) (.cons (SVLe.nil 1) (.cons (SVLe.refl _) .nil))) ?_
      refine AC.ret ?_
      change RetQ _ _ _ .ret _
      obtain rfl := Option.some.inj h0
      refine retq rfl rfl
    replace h0 := cF h0 q12
    refine AC.seq ?_
    refine AC.region ?_
    refine AO.op rfl (AOp.ieql rfl rfl (ltb rfl) rfl rfl ?_)
    refine AO.op rfl (AOp.assign rfl rfl (ltb rfl) rfl ?_)
    refine AO.nil ?_
    change AC _ _ _ _
    refine AC.cond rfl (fun q13 => ?_) (fun q13 => ?_)
    · replace h0 := cT h0 q13
      refine AC.region ?_
      refine AO.op rfl (AOp.assign rfl rfl (ltb rfl) rfl ?_)
      refine AO.nil ?_
      exact ⟨((IntKind.i64.wrap (bits .and .u64 ((a0 : Nat) : Int) (4503599627370495 : Int))), (1 : Int)), _, rfl, (LeL.refl _), rfl, rfl, h0⟩
    replace h0 := cF h0 q13
    refine AC.region ?_
    refine AO.op rfl (AOp.move rfl rfl (ltb rfl) rfl ?_)
    obtain ⟨q14, h0⟩ := need_elim h0
    refine AO.op rfl (AOp.iadd rfl rfl (ltb rfl) rfl rfl rfl q14.1 q14.2 ?_)
    refine AO.op rfl (AOp.assign rfl rfl (ltb rfl) rfl ?_)
    refine AO.nil ?_
    exact ⟨(((IntKind.i64.wrap (bits .and .u64 ((a0 : Nat) : Int) (4503599627370495 : Int))) + (4503599627370496 : Int)), (IntKind.i64.wrap (bits .and .u64 (((a0 : Nat) : Int) / 2 ^ 52) (2047 : Int)))), _, rfl, (LeL.refl _), rfl, rfl, h0⟩
  intro g2 h0
  unfold p_DyadicOf_k1 at h0
  refine AC.seq ?_
  refine AC.seq ?_
  refine AC.region ?_
  refine AO.op rfl (AOp.move rfl rfl (ltb rfl) rfl ?_)
  obtain ⟨q3, h0⟩ := need_elim h0
  refine AO.op rfl (AOp.ishr (n := 63) rfl rfl (ltb rfl) rfl rfl (by decide) q3 rfl ?_)
  refine AO.op rfl (AOp.ieql rfl rfl (ltb rfl) rfl rfl ?_)
  refine AO.nil ?_
  change AC _ _ _ _
  refine AC.cond rfl (fun q4 => ?_) (fun q4 => ?_)
  · replace h0 := cT h0 q4
    refine AC.region ?_
    refine AO.op rfl (AOp.move rfl rfl (ltb rfl) rfl ?_)
    obtain ⟨q5, h0⟩ := need_elim h0
    refine AO.op rfl (AOp.ineg rfl rfl (ltb rfl) rfl rfl q5.1 q5.2 ?_)
    refine AO.op rfl (AOp.assign rfl rfl (ltb rfl) rfl ?_)
    refine AO.nil ?_
    change AC _ _ _ _
    refine AC.seq ?_
    refine AC.region ?_
    refine AO.op rfl (AOp.move rfl rfl (ltb rfl) rfl ?_)
    obtain ⟨y6, q7, h0⟩ := bind_elim h0
    refine AO.op rfl (AOp.callD rfl rfl (ltb rfl) rfl rfl (w_WholeOf F (-g2.1) y6 q7) ?_)
    rintro _ rfl
    refine AO.op rfl (AOp.move rfl rfl (ltb rfl) rfl ?_)
    obtain ⟨q8, h0⟩ := need_elim h0
    refine AO.op rfl (AOp.isub rfl rfl (ltb rfl) rfl rfl rfl q8.1 q8.2 ?_)
    refine AO.op rfl (AOp.build rfl rfl (ltb rfl) zero32 rfl places32 rfl rfl ?_)
    refine AO.op rfl (AOp.store rfl rfl rfl rfl size32 rfl rfl rfl (leb rfl) ?_)
    refine AO.nil ?_
    change AC _ _ _ _
    refine AC.ret ?_
    change RetQ _ _ _ .ret _
    obtain rfl := Option.some.inj h0
    refine retq rfl rfl
  replace h0 := cF h0 q4
  refine AC.skip ?_
  change AC _ _ _ _
  refine AC.seq ?_
  refine AC.region ?_
  refine AO.op rfl (AOp.move rfl rfl (ltb rfl) rfl ?_)
  obtain ⟨y9, q10, h0⟩ := bind_elim h0
  refine AO.op rfl (AOp.callD rfl rfl (ltb rfl) rfl rfl (w_WholeOf F g2.1 y9 q10) ?_)
  rintro _ rfl
  refine AO.op rfl (AOp.move rfl rfl (ltb rfl) rfl ?_)
  obtain ⟨q11, h0⟩ := need_elim h0
  refine AO.op rfl (AOp.isub rfl rfl (ltb rfl) rfl rfl rfl q11.1 q11.2 ?_)
  refine AO.op rfl (AOp.build rfl rfl (ltb rfl) zero32 rfl places32 rfl rfl ?_)
  refine AO.op rfl (AOp.store rfl rfl rfl rfl size32 rfl rfl rfl (leb rfl) ?_)
  refine AO.nil ?_
  change AC _ _ _ _
  refine AC.ret ?_
  change RetQ _ _ _ .ret _
  obtain rfl := Option.some.inj h0
  refine retq rfl rfl

set_option maxRecDepth 100000 in
set_option maxHeartbeats 1000000 in
/-- pub-orthodrome/spec.PointOf -/
theorem w_PointOf (F : Nat) (a0 : Nat) (a1 : Nat) (r0 : TSpec_Point) (h0 : p_PointOf F a0 a1 = some r0) : FnD Try.prog 46 [dfl a0, dfl a1] (fun r => r = e_TSpec_Point r0) := by
  refine FnD.of (by kernel_rfl) Try.func46 rfl Try.ntmps46 rfl (leb rfl) fun W ok => ?_
  unfold p_PointOf at h0
  refine AC.seq ?_
  refine AC.region ?_
  refine AO.op rfl (AOp.alloc rfl rfl (ltb rfl) zero37 rfl ?_)
  refine AO.nil ?_
  change AC _ _ _ _
  refine AC.seq ?_
  refine AC.region ?_
  refine AO.op rfl (AOp.move rfl rfl (ltb rfl) rfl ?_)
  obtain ⟨y1, q2, h0⟩ := bind_elim h0
  refine AO.op rfl (AOp.callD rfl rfl (ltb rfl) rfl rfl (w_DyadicOf F a0 y1 q2) ?_)
  rintro _ rfl
  refine AO.op rfl (AOp.move rfl rfl (ltb rfl) rfl ?_)
  obtain ⟨y3, q4, h0⟩ := bind_elim h0
  refine AO.op rfl (AOp.callD rfl rfl (ltb rfl) rfl rfl (w_DyadicOf F a1 y3 q4) ?_)
  rintro _ rfl
  refine AO.op rfl (AOp.build rfl rfl (ltb rfl) zero37 rfl places37 rfl rfl ?_)
  refine AO.op rfl (AOp.store rfl rfl rfl rfl size37 rfl rfl rfl (leb rfl) ?_)
  refine AO.nil ?_
  change AC _ _ _ _
  refine AC.ret ?_
  change RetQ _ _ _ .ret _
  obtain rfl := Option.some.inj h0
  refine retq rfl rfl

set_option maxRecDepth 100000 in
set_option maxHeartbeats 1000000 in
/-- pub-orthodrome/laws.exactly -/
theorem w_exactly (F : Nat) (a0 : TImpl_P2) (r0 : TSpec_Point) (h0 : p_exactly F a0 = some r0) : FnD Try.prog 12 [e_TImpl_P2 a0] (fun r => r = e_TSpec_Point r0) := by
  refine FnD.of (by kernel_rfl) Try.func12 rfl Try.ntmps12 rfl (leb rfl) fun W ok => ?_
  unfold p_exactly at h0
  refine AC.seq ?_
  refine AC.region ?_
  refine AO.op rfl (AOp.box rfl rfl (ltb rfl) rfl rfl ?_)
  refine AO.op rfl (AOp.alloc rfl rfl (ltb rfl) zero37 rfl ?_)
  refine AO.nil ?_
  change AC _ _ _ _
  refine AC.seq ?_
  refine AC.region ?_
  refine AO.op rfl (AOp.fieldAddr rfl rfl (ltb rfl) rfl fo24_0 ?_)
  refine AO.op rfl (AOp.load1 rfl rfl (ltb rfl) rfl agg22 rfl rfl ?_)
  refine AO.op rfl (AOp.fieldAddr rfl rfl (ltb rfl) rfl fo24_1 ?_)
  refine AO.op rfl (AOp.load1 rfl rfl (ltb rfl) rfl agg22 rfl rfl ?_)
  obtain ⟨y1, q2, h0⟩ := bind_elim h0
  refine AO.op rfl (AOp.callD rfl rfl (ltb rfl) rfl rfl (w_PointOf F a0.X a0.Y y1 q2) ?_)
  rintro _ rfl
  refine AO.op rfl (AOp.store rfl rfl rfl rfl size37 rfl rfl rfl (leb rfl) ?_)
  refine AO.nil ?_
  change AC _ _ _ _
  refine AC.ret ?_
  change RetQ _ _ _ .ret _
  obtain rfl := Option.some.inj h0
  refine retq rfl rfl

set_option maxRecDepth 100000 in
set_option maxHeartbeats 1000000 in
/-- pub-orthodrome/laws.exacts -/
theorem w_exacts (F : Nat) (a0 : (List TImpl_P2)) (r0 : (List TSpec_Point)) (h0 : p_exacts F a0 = some r0) : FnD Try.prog 33 [eS1 a0] (fun r => r = eS3 r0) := by
  refine FnD.of (by kernel_rfl) Try.func33 rfl Try.ntmps33 rfl (leb rfl) fun W ok => ?_
  unfold p_exacts at h0
  refine AC.seq ?_
  refine AC.region ?_
  refine AO.op rfl (AOp.assign rfl rfl (ltb rfl) rfl ?_)
  refine AO.nil ?_
  change AC _ _ _ _
  refine AC.seq ?_
  refine AC.region ?_
  refine AO.op rfl (AOp.assign rfl rfl (ltb rfl) rfl ?_)
  refine AO.nil ?_
  change AC _ _ _ _
  refine AC.seq ?_
  refine AC.seq ?_
  refine AC.region ?_
  refine AO.op rfl (AOp.move rfl rfl (ltb rfl) rfl ?_)
  refine AO.op rfl (AOp.lenDs (n := a0.length) (cells := (List.flatMap c_TImpl_P2 a0)) rfl rfl (ltb rfl) rfl el62 (by decide) (lenN _ 2 (fun _ => rfl) _) ?_)
  refine AO.op rfl (AOp.move rfl rfl (ltb rfl) rfl ?_)
  refine AO.nil ?_
  change AC _ _ _ _
  refine AC.adopt 3 37 6 rfl ?_
  obtain ⟨o1, l2, h0⟩ := bind_elim h0
  refine AC.joinE (V := (List TSpec_Point)) [] [3] 1 (fun g3 => [(3, .own 0)]) (fun g3 => [.grow 37 6 (List.flatMap c_TSpec_Point g3)]) (fun g3 => p_exacts_k1 g3 = some r0) rfl ?_ ?_
  · refine AC.block ?_
    refine AC.loopP (V := (Int × (List TSpec_Point))) (p_exacts_l2 a0 F) o1 [6, 7] [3, 8] 1 (fun g4 => [(3, .own 0), (8, .d (di .i64 g4.1))]) (fun g4 => [.grow 37 6 (List.flatMap c_TSpec_Point g4.2)]) F ((0 : Int), []) l2 rfl rfl (LeL.refl _) rfl rfl ?_
    intro n6 g4 h1
    unfold p_exacts_l2 at h1
    refine AC.seq ?_
    refine AC.region ?_
    refine AO.op rfl (AOp.ilss rfl rfl (ltb rfl) rfl rfl ?_)
    refine AO.nil ?_
    change AC _ _ _ _
    refine AC.seq ?_
    refine AC.cond rfl (fun q7 => ?_) (fun q7 => ?_)
    · replace h1 := cT h1 q7
      refine AC.skip ?_
      change AC _ _ _ _
      refine AC.seq ?_
      refine AC.block ?_
      refine AC.seq ?_
      refine AC.region ?_
      obtain ⟨x8, q9, h1⟩ := idx_elim h1
      refine AO.op rfl (AOp.indexDs (cells := (List.flatMap c_TImpl_P2 a0)) rfl rfl (ltb rfl) rfl rfl el62 (by decide) q9.1 (ltN 2 (fun _ => rfl) (by decide) q9.2) ?_)
      refine AO.op rfl (AOp.loadEpN rfl rfl (ltb rfl) rfl agg24 size24 (leN 2 (fun _ => rfl) q9.2) (atN 2 (fun _ => rfl) q9.2) ?_)
      refine AO.op rfl (AOp.alloc rfl rfl (ltb rfl) zero24 rfl ?_)
      refine AO.op rfl (AOp.store rfl rfl rfl rfl size24 rfl rfl rfl (leb rfl) ?_)
      refine AO.nil ?_
      change AC _ _ _ _
      refine AC.region ?_
      refine AO.op rfl (AOp.move rfl rfl (ltb rfl) rfl ?_)
      refine AO.op rfl (AOp.loadN rfl rfl (ltb rfl) rfl agg24 size24 rfl (leb rfl) rfl ?_)
      obtain ⟨y10, q11, h1⟩ := bind_elim h1
      refine AO.op rfl (AOp.callD rfl rfl (ltb rfl) rfl rfl (w_exactly F x8 y10 q11) ?_)
      rintro _ rfl
      refine AO.op rfl (AOp.buildSliceD rfl rfl (ltb rfl) el69 zero37 rfl (leb rfl) rfl rfl rfl rfl ?_)
      obtain ⟨q12, h1⟩ := need_elim h1
      refine AO.op rfl (AOp.appendOwn' (n := g4.2.length) (m := [y10].length) (news := (List.flatMap c_TSpec_Point [y10])) rfl rfl (ltb rfl) rfl rfl el69 info37 rfl (by decide) rfl (lenN _ 6 (fun _ => rfl) _) (lenN _ 6 (fun _ => rfl) _) (oneN _ (fun _ => rfl) _) q12 (by decide) rfl rfl (catN _ _ _) ?_)
      refine AO.op rfl (AOp.assign rfl rfl (ltb rfl) rfl ?_)
      refine AO.nil ?_
      change AC _ _ _ _
      refine AC.region ?_
      obtain ⟨q13, h1⟩ := need_elim h1
      refine AO.op rfl (AOp.iadd rfl rfl (ltb rfl) rfl rfl rfl q13.1 q13.2 ?_)
      refine AO.op rfl (AOp.move rfl rfl (ltb rfl) rfl ?_)
      refine AO.nil ?_
      exact ⟨((g4.1 + (1 : Int)), (g4.2 ++ [y10])), _, rfl, (LeL.refl _), rfl, rfl, h1⟩
    replace h1 := cF h1 q7
    refine AC.exit ?_
    obtain rfl := Option.some.inj h1
    exact ⟨g4.2, _, rfl, (LeL.refl _), rfl, rfl, aftL h0⟩
  intro g3 h0
  unfold p_exacts_k1 at h0
  change AC _ _ _ _
  refine AC.seq ?_
  refine AC.region ?_
  refine AO.op rfl (AOp.move rfl rfl (ltb rfl) rfl ?_)
  refine AO.op rfl (AOp.assign rfl rfl (ltb rfl) rfl ?_)
  refine AO.nil ?_
  change AC _ _ _ _
  refine AC.ret ?_
  change RetQ _ _ _ .ret _
  obtain rfl := Option.some.inj h0
  refine retq rfl rfl

set_option maxRecDepth 100000 in
set_option maxHeartbeats 1000000 in
/-- (pub-orthodrome/spec.Whole).Minus -/
theorem w_Whole_Minus (a0 : TSpec_Whole) (r0 : TSpec_Whole) (h0 : p_Whole_Minus a0 = some r0) : FnD Try.prog 77 [e_TSpec_Whole a0] (fun r => r = e_TSpec_Whole r0) := by
  refine FnD.of (by kernel_rfl) Try.func77 rfl Try.ntmps77 rfl (leb rfl) fun W ok => ?_
  unfold p_Whole_Minus at h0
  refine AC.seq ?_
  refine AC.region ?_
  refine AO.op rfl (AOp.box rfl rfl (ltb rfl) rfl rfl ?_)
  refine AO.op rfl (AOp.alloc rfl rfl (ltb rfl) zero30 rfl ?_)
  refine AO.nil ?_
  change AC _ _ _ _
  refine AC.seq ?_
  refine AC.region ?_
  refine AO.op rfl (AOp.fieldAddr rfl rfl (ltb rfl) rfl fo30_0 ?_)
  refine AO.op rfl (AOp.load1 rfl rfl (ltb rfl) rfl agg4 rfl rfl ?_)
  refine AO.op rfl (AOp.bnot rfl rfl (ltb rfl) rfl ?_)
  refine AO.op rfl (AOp.move rfl rfl (ltb rfl) rfl ?_)
  refine AO.dec (!a0.Neg) (fun q1 => ?_) (fun q1 => ?_)
  · replace h0 := cT h0 q1
    refine AO.guardY rfl rfl rfl q1 (AOp.fieldAddr rfl rfl (ltb rfl) rfl fo30_1 ?_)
    refine AO.guardY rfl rfl rfl q1 (AOp.load1 rfl rfl (ltb rfl) rfl agg28 rfl rfl ?_)
    refine AO.guardY rfl rfl rfl q1 (AOp.lenDs (n := a0.L.length) (cells := (List.map keS2 a0.L)) rfl rfl (ltb rfl) rfl el28 (by decide) (len1 _ _) ?_)
    refine AO.guardY rfl rfl rfl q1 (AOp.igtr rfl rfl (ltb rfl) rfl rfl ?_)
    refine AO.op rfl (AOp.pick rfl rfl (ltb rfl) rfl q1 rfl ?_)
    refine AO.op rfl (AOp.fieldAddr rfl rfl (ltb rfl) rfl fo30_1 ?_)
    refine AO.op rfl (AOp.load1 rfl rfl (ltb rfl) rfl agg28 rfl rfl ?_)
    refine AO.op rfl (AOp.build rfl rfl (ltb rfl) zero30 rfl places30 rfl rfl ?_)
    refine AO.op rfl (AOp.store rfl rfl rfl rfl size30 rfl rfl rfl (leb rfl) ?_)
    refine AO.nil ?_
    change AC _ _ _ _
    refine AC.ret ?_
    change RetQ _ _ _ .ret _
    obtain rfl := Option.some.inj h0
    refine retq rfl rfl
  replace h0 := cF h0 q1
  refine AO.guardN rfl rfl rfl (ltb rfl) rfl q1 ?_
  refine AO.guardN rfl rfl rfl (ltb rfl) rfl q1 ?_
  refine AO.guardN rfl rfl rfl (ltb rfl) rfl q1 ?_
  refine AO.guardN rfl rfl rfl (ltb rfl) rfl q1 ?_
  refine AO.op rfl (AOp.pickN rfl rfl (ltb rfl) rfl q1 rfl ?_)
  refine AO.op rfl (AOp.fieldAddr rfl rfl (ltb rfl) rfl fo30_1 ?_)
  refine AO.op rfl (AOp.load1 rfl rfl (ltb rfl) rfl agg28 rfl rfl ?_)
  refine AO.op rfl (AOp.build rfl rfl (ltb rfl) zero30 rfl places30 rfl rfl ?_)
  refine AO.op rfl (AOp.store rfl rfl rfl rfl size30 rfl rfl rfl (leb rfl) ?_)
  refine AO.nil ?_
  change AC _ _ _ _
  refine AC.ret ?_
  change RetQ _ _ _ .ret _
  obtain rfl := Option.some.inj h0
  refine retq rfl rfl

set_option maxRecDepth 100000 in
set_option maxHeartbeats 1000000 in
/-- (pub-orthodrome/spec.Dyadic).Minus -/
theorem w_Dyadic_Minus (a0 : TSpec_Dyadic) (r0 : TSpec_Dyadic) (h0 : p_Dyadic_Minus a0 = some r0) : FnD Try.prog 49 [e_TSpec_Dyadic a0] (fun r => r = e_TSpec_Dyadic r0) := by
  refine FnD.of (by kernel_rfl) Try.func49 rfl Try.ntmps49 rfl (leb rfl) fun W ok => ?_
  unfold p_Dyadic_Minus at h0
  refine AC.seq ?_
  refine AC.region ?_
  refine AO.op rfl (AOp.box rfl rfl (ltb rfl) rfl rfl ?_)
  refine AO.op rfl (AOp.alloc rfl rfl (ltb rfl) zero32 rfl ?_)
  refine AO.nil ?_
  change AC _ _ _ _
  refine AC.seq ?_
  refine AC.draw 6 mixed (by kernel_rfl) ?_
  refine AD.op [1] rfl (by kernel_rfl) rfl rfl (fun _ _ h => AOp.fieldAddr rfl rfl (ltb rfl) rfl fo32_0 h) ?_
  refine AD.op [3] rfl (by kernel_rfl) rfl rfl (fun _ _ h => AOp.loadN rfl rfl (ltb rfl) rfl agg30 size30 rfl (leb rfl) rfl h) ?_
  obtain ⟨y1, q2, h0⟩ := bind_elim h0
  refine AD.op [4] rfl (by kernel_rfl) rfl rfl (fun _ _ h => AOp.callD rfl rfl (ltb rfl) rfl rfl (w_Whole_Minus a0.N y1 q2) (by rintro _ rfl; exact h)) ?_
  refine AD.op [1] rfl (by kernel_rfl) rfl rfl (fun _ _ h => AOp.fieldAddr rfl rfl (ltb rfl) rfl fo32_1 h) ?_
  refine AD.op [6] rfl (by kernel_rfl) rfl rfl (fun _ _ h => AOp.load1 rfl rfl (ltb rfl) rfl agg3 rfl rfl h) ?_
  refine AD.op [5, 7] rfl (by kernel_rfl) rfl rfl (fun _ _ h => AOp.build rfl rfl (ltb rfl) zero32 rfl places32 rfl rfl h) ?_
  refine AD.done ?_
  refine AO.op rfl (AOp.store rfl rfl rfl rfl size32 rfl rfl rfl (leb rfl) ?_)
  refine AO.nil ?_
  change AC _ _ _ _
  refine AC.ret ?_
  change RetQ _ _ _ .ret _
  obtain rfl := Option.some.inj h0
  refine retq rfl rfl

set_option maxRecDepth 100000 in
set_option maxHeartbeats 1000000 in
/-- (pub-orthodrome/spec.Whole).Sign -/
theorem w_Whole_Sign (a0 : TSpec_Whole) (r0 : Int) (h0 : p_Whole_Sign a0 = some r0) : FnD Try.prog 75 [e_TSpec_Whole a0] (fun r => r = di .i64 r0) := by
  refine FnD.of (by kernel_rfl) Try.func75 rfl Try.ntmps75 rfl (leb rfl) fun W ok => ?_
  unfold p_Whole_Sign at h0
  refine AC.seq ?_
  refine AC.region ?_
  refine AO.op rfl (AOp.box rfl rfl (ltb rfl) rfl rfl ?_)
  refine AO.op rfl (AOp.assign rfl rfl (ltb rfl) rfl ?_)
  refine AO.nil ?_
  change AC _ _ _ _
  refine AC.seq ?_
  refine AC.block ?_
  refine AC.seq ?_
  refine AC.region ?_
  refine AO.op rfl (AOp.fieldAddr rfl rfl (ltb rfl) rfl fo30_1 ?_)
  refine AO.op rfl (AOp.load1 rfl rfl (ltb rfl) rfl agg28 rfl rfl ?_)
  refine AO.op rfl (AOp.lenDs (n := a0.L.length) (cells := (List.map keS2 a0.L)) rfl rfl (ltb rfl) rfl el28 (by decide) (len1 _ _) ?_)
  refine AO.op rfl (AOp.ieql rfl rfl (ltb rfl) rfl rfl ?_)
  refine AO.op rfl (AOp.assign rfl rfl (ltb rfl) rfl ?_)
  refine AO.nil ?_
  change AC _ _ _ _
  refine AC.cond rfl (fun q1 => ?_) (fun q1 => ?_)
  · replace h0 := cT h0 q1
    refine AC.seq ?_
    refine AC.region ?_
    refine AO.op rfl (AOp.assign rfl rfl (ltb rfl) rfl ?_)
    refine AO.nil ?_
    change AC _ _ _ _
    refine AC.ret ?_
    change RetQ _ _ _ .ret _
    obtain rfl := Option.some.inj h0
    refine retq rfl rfl
  replace h0 := cF h0 q1
  refine AC.seq ?_
  refine AC.region ?_
  refine AO.op rfl (AOp.fieldAddr rfl rfl (ltb rfl) rfl fo30_0 ?_)
  refine AO.op rfl (AOp.load1 rfl rfl (ltb rfl) rfl agg4 rfl rfl ?_)
  refine AO.op rfl (AOp.assign rfl rfl (ltb rfl) rfl ?_)
  refine AO.nil ?_
  change AC _ _ _ _
  refine AC.cond rfl (fun q2 => ?_) (fun q2 => ?_)
  · replace h0 := cT h0 q2
    refine AC.seq ?_
    refine AC.region ?_
    refine AO.op rfl (AOp.assign rfl rfl (ltb rfl) rfl ?_)
    refine AO.nil ?_
    change AC _ _ _ _
    refine AC.ret ?_
    change RetQ _ _ _ .ret _
    obtain rfl := Option.some.inj h0
    refine retq rfl rfl
  replace h0 := cF h0 q2
  refine AC.skip ?_
  change AC _ _ _ _
  refine AC.seq ?_
  refine AC.region ?_
  refine AO.op rfl (AOp.assign rfl rfl (ltb rfl) rfl ?_)
  refine AO.nil ?_
  change AC _ _ _ _
  refine AC.ret ?_
  change RetQ _ _ _ .ret _
  obtain rfl := Option.some.inj h0
  refine retq rfl rfl

set_option maxRecDepth 100000 in
set_option maxHeartbeats 1000000 in
/-- (pub-orthodrome/spec.Dyadic).Sign -/
theorem w_Dyadic_Sign (a0 : TSpec_Dyadic) (r0 : Int) (h0 : p_Dyadic_Sign a0 = some r0) : FnD Try.prog 45 [e_TSpec_Dyadic a0] (fun r => r = di .i64 r0) := by
  refine FnD.of (by kernel_rfl) Try.func45 rfl Try.ntmps45 rfl (leb rfl) fun W ok => ?_
  unfold p_Dyadic_Sign at h0
  refine AC.seq ?_
  refine AC.region ?_
  refine AO.op rfl (AOp.box rfl rfl (ltb rfl) rfl rfl ?_)
  refine AO.op rfl (AOp.assign rfl rfl (ltb rfl) rfl ?_)
  refine AO.nil ?_
  change AC _ _ _ _
  refine AC.seq ?_
  refine AC.region ?_
  refine AO.op rfl (AOp.fieldAddr rfl rfl (ltb rfl) rfl fo32_0 ?_)
  refine AO.op rfl (AOp.loadN rfl rfl (ltb rfl) rfl agg30 size30 rfl (leb rfl) rfl ?_)
  obtain ⟨y1, q2, h0⟩ := bind_elim h0
  refine AO.op rfl (AOp.callD rfl rfl (ltb rfl) rfl rfl (w_Whole_Sign a0.N y1 q2) ?_)
  rintro _ rfl
  refine AO.op rfl (AOp.assign rfl rfl (ltb rfl) rfl ?_)
  refine AO.nil ?_
  change AC _ _ _ _
  refine AC.ret ?_
  change RetQ _ _ _ .ret _
  obtain rfl := Option.some.inj h0
  refine retq rfl rfl

set_option maxRecDepth 100000 in
set_option maxHeartbeats 1000000 in
/-- (pub-orthodrome/spec.Whole).Up -/
theorem w_Whole_Up (F : Nat) (a0 : TSpec_Whole) (a1 : Int) (r0 : TSpec_Whole) (h0 : p_Whole_Up F a0 a1 = some r0) : FnD Try.prog 89 [e_TSpec_Whole a0, di .i64 a1] (fun r => r = e_TSpec_Whole r0) := by
  refine FnD.of (by kernel_rfl) Try.func89 rfl Try.ntmps89 rfl (leb rfl) fun W ok => ?_
  unfold p_Whole_Up at h0
  refine AC.seq ?_
  refine AC.region ?_
  refine AO.op rfl (AOp.box rfl rfl (ltb rfl) rfl rfl ?_)
  refine AO.op rfl (AOp.alloc rfl rfl (ltb rfl) zero30 rfl ?_)
  refine AO.nil ?_
  change AC _ _ _ _
  refine AC.seq ?_
  refine AC.seq ?_
  refine AC.region ?_
  refine AO.op rfl (AOp.fieldAddr rfl rfl (ltb rfl) rfl fo30_1 ?_)
  refine AO.op rfl (AOp.load1 rfl rfl (ltb rfl) rfl agg28 rfl rfl ?_)
  refine AO.op rfl (AOp.lenDs (n := a0.L.length) (cells := (List.map keS2 a0.L)) rfl rfl (ltb rfl) rfl el28 (by decide) (len1 _ _) ?_)
  refine AO.op rfl (AOp.ieql rfl rfl (ltb rfl) rfl rfl ?_)
  refine AO.nil ?_
  change AC _ _ _ _
  refine AC.cond rfl (fun q1 => ?_) (fun q1 => ?_)
  · replace h0 := cT h0 q1
    refine AC.seq ?_
    refine AC.region ?_
    refine AO.op rfl (AOp.loadN rfl rfl (ltb rfl) rfl agg30 size30 rfl (leb rfl) rfl ?_)
    refine AO.op rfl (AOp.store rfl rfl rfl rfl size30 rfl rfl rfl (leb rfl) ?_)
    refine AO.nil ?_
    change AC _ _ _ _
    refine AC.ret ?_
    change RetQ _ _ _ .ret _
    obtain rfl := Option.some.inj h0
    refine retq rfl rfl
  replace h0 := cF h0 q1
  refine AC.skip ?_
  change AC _ _ _ _
  refine AC.seq ?_
  refine AC.region ?_
  refine AO.op rfl (AOp.move rfl rfl (ltb rfl) rfl ?_)
  obtain ⟨q2, h0⟩ := need_elim h0
  refine AO.op rfl (AOp.iquo rfl rfl (ltb rfl) rfl rfl q2.1 rfl q2.2.1 q2.2.2 ?_)
  refine AO.op rfl (AOp.move rfl rfl (ltb rfl) rfl ?_)
  obtain ⟨q3, h0⟩ := need_elim h0
  refine AO.op rfl (AOp.iquo rfl rfl (ltb rfl) rfl rfl q3.1 rfl q3.2.1 q3.2.2 ?_)
  refine AO.op rfl (AOp.fieldAddr rfl rfl (ltb rfl) rfl fo30_1 ?_)
  refine AO.op rfl (AOp.load1 rfl rfl (ltb rfl) rfl agg28 rfl rfl ?_)
  refine AO.op rfl (AOp.lenDs (n := a0.L.length) (cells := (List.map keS2 a0.L)) rfl rfl (ltb rfl) rfl el28 (by decide) (len1 _ _) ?_)
  obtain ⟨q4, h0⟩ := need_elim h0
  refine AO.op rfl (AOp.iadd rfl rfl (ltb rfl) rfl rfl rfl q4.1 q4.2 ?_)
  obtain ⟨q5, h0⟩ := need_elim h0
  refine AO.op rfl (AOp.iadd rfl rfl (ltb rfl) rfl rfl rfl q5.1 q5.2 ?_)
  obtain ⟨q6, h0⟩ := need_elim h0
  refine AO.op rfl (AOp.makeOwnN (f := keS2) (z0 := (0 : Int)) rfl rfl (ltb rfl) rfl rfl el28 info106 rfl rfl (by decide) q6 rfl ?_)
  refine AO.op rfl (AOp.assign rfl rfl (ltb rfl) rfl ?_)
  refine AO.nil ?_
  change AC _ _ _ _
  refine AC.seq ?_
  refine AC.region ?_
  refine AO.op rfl (AOp.assign rfl rfl (ltb rfl) rfl ?_)
  refine AO.nil ?_
  change AC _ _ _ _
  refine AC.seq ?_
  refine AC.seq ?_
  refine AC.region ?_
  refine AO.op rfl (AOp.fieldAddr rfl rfl (ltb rfl) rfl fo30_1 ?_)
  refine AO.op rfl (AOp.load1 rfl rfl (ltb rfl) rfl agg28 rfl rfl ?_)
  refine AO.op rfl (AOp.lenDs (n := a0.L.length) (cells := (List.map keS2 a0.L)) rfl rfl (ltb rfl) rfl el28 (by decide) (len1 _ _) ?_)
  refine AO.op rfl (AOp.move rfl rfl (ltb rfl) rfl ?_)
  refine AO.nil ?_
  change AC _ _ _ _
  obtain ⟨o7, l8, h0⟩ := bind_elim h0
  refine AC.joinE (V := (Int × (List Int))) [2, 4] [5, 6] 3 (fun g9 => [(5, .own 2), (6, .d (di .u32 g9.1))]) (fun g9 => [.fix 30 [.d (dbool a0.Neg), .d (eS2 a0.L)], .fix 30 [.d (dbool false), .d (.v (.slice none 0 0))], .grow 106 1 (List.map keS2 g9.2)]) (fun g9 => (p_Whole_Up_k1 a0 F) g9 = some r0) rfl ?_ ?_
  · refine AC.block ?_
    refine AC.loopP (V := (Int × Int × (List Int))) (p_Whole_Up_l2 a0 a1) o7 [1, 2, 4, 26, 27] [5, 6, 28] 3 (fun g13 => [(5, .own 2), (6, .d (di .u32 g13.1)), (28, .d (di .i64 g13.2.1))]) (fun g13 => [.fix 30 [.d (dbool a0.Neg), .d (eS2 a0.L)], .fix 30 [.d (dbool false), .d (.v (.slice none 0 0))], .grow 106 1 (List.map keS2 g13.2.2)]) F ((0 : Int), (0 : Int), (List.replicate ((Int.tdiv a1 (32 : Int))).toNat (0 : Int))) l8 rfl rfl (LeL.refl _) rfl rfl ?_
    intro n15 g13 h1
    unfold p_Whole_Up_l2 at h1
    refine AC.seq ?_
    refine AC.region ?_
    refine AO.op rfl (AOp.ilss rfl rfl (ltb rfl) rfl rfl ?_)
    refine AO.nil ?_
    change AC _ _ _ _
    refine AC.seq ?_
    refine AC.cond rfl (fun q16 => ?_) (fun q16 => ?_)
    · replace h1 := cT h1 q16
      refine AC.skip ?_
      change AC _ _ _ _
      refine AC.seq ?_
      refine AC.block ?_
      refine AC.seq ?_
      refine AC.region ?_
      obtain ⟨x17, q18, h1⟩ := idx_elim h1
      refine AO.op rfl (AOp.indexDs (cells := (List.map keS2 a0.L)) rfl rfl (ltb rfl) rfl rfl el28 (by decide) q18.1 (lt1 q18.2) ?_)
      refine AO.op rfl (AOp.loadEp rfl rfl (ltb rfl) rfl agg106 (at1 q18.2) ?_)
      refine AO.op rfl (AOp.assign rfl rfl (ltb rfl) rfl ?_)
      refine AO.nil ?_
      change AC _ _ _ _
      refine AC.seq ?_
      refine AC.region ?_
      refine AO.op rfl (AOp.move rfl rfl (ltb rfl) rfl ?_)
      refine AO.op rfl (AOp.i2i rfl rfl (ltb rfl) rfl Try.underlying106 Try.underlying91 rfl ?_)
      refine AO.op rfl (AOp.move rfl rfl (ltb rfl) rfl ?_)
      obtain ⟨q19, h1⟩ := need_elim h1
      refine AO.op rfl (AOp.irem rfl rfl (ltb rfl) rfl rfl q19 rfl ?_)
      obtain ⟨q20, h1⟩ := need_elim h1
      refine AO.op rfl (AOp.ishl' rfl rfl (ltb rfl) rfl rfl q20 ?_)
      refine AO.op rfl (AOp.assign rfl rfl (ltb rfl) rfl ?_)
      refine AO.nil ?_
      change AC _ _ _ _
      refine AC.seq ?_
      refine AC.region ?_
      refine AO.op rfl (AOp.move rfl rfl (ltb rfl) rfl ?_)
      refine AO.op rfl (AOp.move rfl rfl (ltb rfl) rfl ?_)
      refine AO.op rfl (AOp.i2i rfl rfl (ltb rfl) rfl Try.underlying91 Try.underlying106 rfl ?_)
      refine AO.op rfl (AOp.move rfl rfl (ltb rfl) rfl ?_)
      refine AO.op rfl (AOp.ibits (by simp) rfl rfl (ltb rfl) rfl rfl rfl ?_)
      refine AO.op rfl (AOp.buildSliceD rfl rfl (ltb rfl) el28 zero106 rfl (leb rfl) rfl rfl rfl rfl ?_)
      obtain ⟨q21, h1⟩ := need_elim h1
      refine AO.op rfl (AOp.appendOwn' (n := g13.2.2.length) (m := [(bits .or .u32 (IntKind.u32.wrap (IntKind.u64.wrap ((IntKind.u64.wrap x17) * 2 ^ ((Int.tmod a1 (32 : Int))).toNat))) g13.1)].length) (news := (List.map keS2 [(bits .or .u32 (IntKind.u32.wrap (IntKind.u64.wrap ((IntKind.u64.wrap x17) * 2 ^ ((Int.tmod a1 (32 : Int))).toNat))) g13.1)])) rfl rfl (ltb rfl) rfl rfl el28 info106 rfl (by decide) rfl (len1 _ _) (len1 _ _) (one1 _ (fun _ => rfl) _) q21 (by decide) rfl rfl (cat1 _ _ _) ?_)
      refine AO.op rfl (AOp.assign rfl rfl (ltb rfl) rfl ?_)
      refine AO.nil ?_
      change AC _ _ _ _
      refine AC.region ?_
      refine AO.op rfl (AOp.move rfl rfl (ltb rfl) rfl ?_)
      obtain ⟨q22, h1⟩ := need_elim h1
      refine AO.op rfl (AOp.ishr (n := 32) rfl rfl (ltb rfl) rfl rfl (by decide) q22 rfl ?_)
      refine AO.op rfl (AOp.i2i rfl rfl (ltb rfl) rfl Try.underlying91 Try.underlying106 rfl ?_)
      refine AO.op rfl (AOp.assign rfl rfl (ltb rfl) rfl ?_)
      refine AO.nil ?_
      change AC _ _ _ _
      refine AC.region ?_
      obtain ⟨q23, h1⟩ := need_elim h1
      refine AO.op rfl (AOp.iadd rfl rfl (ltb rfl) rfl rfl rfl q23.1 q23.2 ?_)
      refine AO.op rfl (AOp.move rfl rfl (ltb rfl) rfl ?_)
      refine AO.nil ?_
      exact ⟨((IntKind.u32.wrap ((IntKind.u64.wrap ((IntKind.u64.wrap x17) * 2 ^ ((Int.tmod a1 (32 : Int))).toNat)) / 2 ^ 32)), (g13.2.1 + (1 : Int)), (g13.2.2 ++ [(bits .or .u32 (IntKind.u32.wrap (IntKind.u64.wrap ((IntKind.u64.wrap x17) * 2 ^ ((Int.tmod a1 (32 : Int))).toNat))) g13.1)])), _, rfl, (LeL.refl _), rfl, rfl, h1⟩
    replace h1 := cF h1 q16
    refine AC.exit ?_
    obtain rfl := Option.some.inj h1
    exact ⟨(g13.1, g13.2.2), _, rfl, (LeL.refl _), rfl, rfl, aftL h0⟩
  intro g9 h0
  unfold p_Whole_Up_k1 at h0
  change AC _ _ _ _
  refine AC.seq ?_
  obtain ⟨q10, h0⟩ := need_elim h0
  obtain ⟨y11, q12, h0⟩ := bind_elim h0
  refine AC.drawS [0, 1, 2, 3, 4, 5, 6] [5, 6] [7, 8] (fun L => [.fix 30 [.d (dbool a0.Neg), .d (eS2 a0.L)], .fix 30 [.d (dbool false), .d (.v (.slice none 0 0))], bif L 6 then .dead else bif L 5 then .grow 106 1 (List.map keS2 (g9.2 ++ [g9.1])) else .grow 106 1 (List.map keS2 g9.2)]) [(5, SV.noO 2), (6, SV.noO 2)] mixed (by kernel_rfl) (fun L L' h => by simp only [h 5 (by decide), h 6 (by decide)]) rfl ?_
  refine AS.op [2] [] [] [5, 6] rfl rfl rfl (by kernel_rfl) (by kernel_rfl) rfl rfl (fun _ _ _ h => AOp.fieldAddr rfl rfl (ltb rfl) rfl fo30_0 h) (by kernel_rfl) ?_
  refine AS.op [48] [] [] [5, 6] rfl rfl rfl (by kernel_rfl) (by kernel_rfl) rfl rfl (fun _ _ _ h => AOp.load1 rfl rfl (ltb rfl) rfl agg4 rfl rfl h) (by kernel_rfl) ?_
  refine AS.op [5] [] [5, 6] [] rfl rfl rfl (by kernel_rfl) (by kernel_rfl) rfl rfl (fun _ _ _ h => AOp.move rfl rfl (ltb rfl) rfl h) (by kernel_rfl) ?_
  refine AS.op [6] [] [5, 6] [] rfl rfl rfl (by kernel_rfl) (by kernel_rfl) rfl rfl (fun _ _ _ h => AOp.move rfl rfl (ltb rfl) rfl h) (by kernel_rfl) ?_
  refine AS.op [51] [] [5, 6] [] rfl rfl rfl (by kernel_rfl) (by kernel_rfl) rfl rfl (fun _ _ _ h => AOp.buildSliceD rfl rfl (ltb rfl) el28 zero106 rfl (leb rfl) rfl rfl rfl rfl h) (by kernel_rfl) ?_
  refine AS.mid [50, 52] [] [6, 5] [] rfl rfl rfl rfl (by kernel_rfl) (by kernel_rfl) rfl rfl (fun _ _ _ h => AOp.appendOwn' (n := g9.2.length) (m := [g9.1].length) (news := (List.map keS2 [g9.1])) rfl rfl (ltb rfl) rfl rfl el28 info106 rfl (by decide) rfl (len1 _ _) (len1 _ _) (one1 _ (fun _ => rfl) _) q10 (by decide) (allNo (.cons rfl (.cons rfl (.cons rfl .nil)))) rfl (cat1 _ _ _) (AO.dropped h)) (by kernel_rfl) rfl ?_
  refine AS.mid [53] [5] [6] [] rfl rfl rfl rfl (by kernel_rfl) (by kernel_rfl) rfl rfl (fun _ _ _ h => AOp.freezeDrop 53 2 rfl rfl rfl (AOp.callD rfl rfl (ltb rfl) rfl rfl (w_trim F (g9.2 ++ [g9.1]) y11 q12) (by rintro _ rfl; exact AO.forget1 (.inr trivial) h (.inl (dropped_none rfl rfl))))) (by kernel_rfl) rfl ?_
  refine AS.done ?_
  refine AO.objs (obs' := [.fix 30 [.d (dbool a0.Neg), .d (eS2 a0.L)], .fix 30 [.d (dbool false), .d (.v (.slice none 0 0))], .dead]) rfl ?_
  refine AO.op rfl (AOp.build rfl rfl (ltb rfl) zero30 rfl places30 rfl rfl ?_)
  refine AO.op rfl (AOp.store rfl rfl rfl rfl size30 rfl rfl rfl (leb rfl) ?_)
  refine AO.nil ?_
  change AC _ _ _ _
  refine AC.ret ?_
  change RetQ _ _ _ .ret _
  obtain rfl := Option.some.inj h0
  refine retq rfl rfl

set_option maxRecDepth 100000 in
set_option maxHeartbeats 1000000 in
/-- pub-orthodrome/spec.addLimbs -/
theorem w_addLimbs (F : Nat) (a0 : (List Int)) (a1 : (List Int)) (r0 : (List Int)) (h0 : p_addLimbs F a0 a1 = some r0) : FnD Try.prog 97 [eS2 a0, eS2 a1] (fun r => r = eS2 r0) := by
  refine FnD.of (by kernel_rfl) Try.func97 rfl Try.ntmps97 rfl (leb rfl) fun W ok => ?_
  unfold p_addLimbs at h0
  refine AC.seq ?_
  refine AC.region ?_
  refine AO.op rfl (AOp.assign rfl rfl (ltb rfl) rfl ?_)
  refine AO.nil ?_
  change AC _ _ _ _
  refine AC.joinP (V := ((List Int) × (List Int))) [] [0, 1] 0 (fun g1 => [(0, .d (eS2 g1.1)), (1, .d (eS2 g1.2))]) (fun g1 => []) (fun g1 => (p_addLimbs_k1 F) g1 = some r0) rfl ?_ ?_
  · refine AC.seq ?_
    refine AC.region ?_
    refine AO.op rfl (AOp.move rfl rfl (ltb rfl) rfl ?_)
    refine AO.op rfl (AOp.lenDs (n := a0.length) (cells := (List.map keS2 a0)) rfl rfl (ltb rfl) rfl el28 (by decide) (len1 _ _) ?_)
    refine AO.op rfl (AOp.move rfl rfl (ltb rfl) rfl ?_)
    refine AO.op rfl (AOp.lenDs (n := a1.length) (cells := (List.map keS2 a1)) rfl rfl (ltb rfl) rfl el28 (by decide) (len1 _ _) ?_)
    refine AO.op rfl (AOp.ilss rfl rfl (ltb rfl) rfl rfl ?_)
    refine AO.nil ?_
    change AC _ _ _ _
    refine AC.cond rfl (fun q25 => ?_) (fun q25 => ?_)
    · replace h0 := cT h0 q25
      refine AC.region ?_
      refine AO.op rfl (AOp.move rfl rfl (ltb rfl) rfl ?_)
      refine AO.op rfl (AOp.move rfl rfl (ltb rfl) rfl ?_)
      refine AO.op rfl (AOp.assign rfl rfl (ltb rfl) rfl ?_)
      refine AO.op rfl (AOp.assign rfl rfl (ltb rfl) rfl ?_)
      refine AO.nil ?_
      exact ⟨(a1, a0), _, rfl, (LeL.refl _), rfl, rfl, h0⟩
    replace h0 := cF h0 q25
    refine AC.skip ?_
    exact ⟨(a0, a1), _, rfl, (LeL.refl _), rfl, rfl, h0⟩
  intro g1 h0
  unfold p_addLimbs_k1 at h0
  refine AC.seq ?_
  refine AC.region ?_
  refine AO.op rfl (AOp.move rfl rfl (ltb rfl) rfl ?_)
  refine AO.op rfl (AOp.lenDs (n := g1.1.length) (cells := (List.map keS2 g1.1)) rfl rfl (ltb rfl) rfl el28 (by decide) (len1 _ _) ?_)
  obtain ⟨q2, h0⟩ := need_elim h0
  refine AO.op rfl (AOp.iadd rfl rfl (ltb rfl) rfl rfl rfl q2.1 q2.2 ?_)
  obtain ⟨q3, h0⟩ := need_elim h0
  refine AO.op rfl (AOp.makeOwn0 rfl rfl (ltb rfl) rfl rfl el28 info106 (by decide) q3 ?_)
  refine AO.op rfl (AOp.assign rfl rfl (ltb rfl) rfl ?_)
  refine AO.nil ?_
  change AC _ _ _ _
  refine AC.seq ?_
  refine AC.region ?_
  refine AO.op rfl (AOp.assign rfl rfl (ltb rfl) rfl ?_)
  refine AO.nil ?_
  change AC _ _ _ _
  refine AC.seq ?_
  refine AC.seq ?_
  refine AC.region ?_
  refine AO.op rfl (AOp.move rfl rfl (ltb rfl) rfl ?_)
  refine AO.op rfl (AOp.lenDs (n := g1.1.length) (cells := (List.map keS2 g1.1)) rfl rfl (ltb rfl) rfl el28 (by decide) (len1 _ _) ?_)
  refine AO.op rfl (AOp.move rfl rfl (ltb rfl) rfl ?_)
  refine AO.nil ?_
  change AC _ _ _ _
  obtain ⟨o4, l5, h0⟩ := bind_elim h0
  refine AC.joinE (V := (Int × (List Int))) [] [5, 6] 1 (fun g6 => [(5, .own 0), (6, .d (di .u64 g6.1))]) (fun g6 => [.grow 106 1 (List.map keS2 g6.2)]) (fun g6 => (p_addLimbs_k2 F) g6 = some r0) rfl ?_ ?_
  · refine AC.block ?_
    refine AC.loopP (V := (Int × Int × (List Int))) (p_addLimbs_l3 g1) o4 [1, 21, 22] [5, 6, 23] 1 (fun g10 => [(5, .own 0), (6, .d (di .u64 g10.1)), (23, .d (di .i64 g10.2.1))]) (fun g10 => [.grow 106 1 (List.map keS2 g10.2.2)]) F ((0 : Int), (0 : Int), []) l5 rfl rfl (LeL.refl _) rfl rfl ?_
    intro n12 g10 h1
    unfold p_addLimbs_l3 at h1
    refine AC.seq ?_
    refine AC.region ?_
    refine AO.op rfl (AOp.ilss rfl rfl (ltb rfl) rfl rfl ?_)
    refine AO.nil ?_
    change AC _ _ _ _
    refine AC.seq ?_
    refine AC.cond rfl (fun q13 => ?_) (fun q13 => ?_)
    · replace h1 := cT h1 q13
      refine AC.skip ?_
      change AC _ _ _ _
      refine AC.seq ?_
      refine AC.block ?_
      refine AC.seq ?_
      refine AC.region ?_
      refine AO.op rfl (AOp.move rfl rfl (ltb rfl) rfl ?_)
      obtain ⟨x14, q15, h1⟩ := idx_elim h1
      refine AO.op rfl (AOp.indexDs (cells := (List.map keS2 g1.1)) rfl rfl (ltb rfl) rfl rfl el28 (by decide) q15.1 (lt1 q15.2) ?_)
      refine AO.op rfl (AOp.loadEp rfl rfl (ltb rfl) rfl agg106 (at1 q15.2) ?_)
      refine AO.op rfl (AOp.assign rfl rfl (ltb rfl) rfl ?_)
      refine AO.op rfl (AOp.assign rfl rfl (ltb rfl) rfl ?_)
      refine AO.nil ?_
      change AC _ _ _ _
      refine AC.seq ?_
      refine AC.region ?_
      refine AO.op rfl (AOp.move rfl rfl (ltb rfl) rfl ?_)
      refine AO.op rfl (AOp.i2i rfl rfl (ltb rfl) rfl Try.underlying106 Try.underlying91 rfl ?_)
      refine AO.op rfl (AOp.move rfl rfl (ltb rfl) rfl ?_)
      obtain ⟨q16, h1⟩ := need_elim h1
      refine AO.op rfl (AOp.iadd rfl rfl (ltb rfl) rfl rfl rfl q16.1 q16.2 ?_)
      refine AO.op rfl (AOp.assign rfl rfl (ltb rfl) rfl ?_)
      refine AO.nil ?_
      change AC _ _ _ _
      refine AC.joinP (V := Int) [1, 5, 21, 22, 23] [9] 1 (fun g17 => [(9, .d (di .u64 g17))]) (fun g17 => [.grow 106 1 (List.map keS2 g10.2.2)]) (fun g17 => (p_addLimbs_k4 g10 (iter (p_addLimbs_l3 g1) n12)) g17 = some o4) rfl ?_ ?_
      · refine AC.seq ?_
        refine AC.region ?_
        refine AO.op rfl (AOp.move rfl rfl (ltb rfl) rfl ?_)
        refine AO.op rfl (AOp.move rfl rfl (ltb rfl) rfl ?_)
        refine AO.op rfl (AOp.lenDs (n := g1.2.length) (cells := (List.map keS2 g1.2)) rfl rfl (ltb rfl) rfl el28 (by decide) (len1 _ _) ?_)
        refine AO.op rfl (AOp.ilss rfl rfl (ltb rfl) rfl rfl ?_)
        refine AO.nil ?_
        change AC _ _ _ _
        refine AC.cond rfl (fun q21 => ?_) (fun q21 => ?_)
        · replace h1 := cT h1 q21
          refine AC.region ?_
          refine AO.op rfl (AOp.move rfl rfl (ltb rfl) rfl ?_)
          refine AO.op rfl (AOp.move rfl rfl (ltb rfl) rfl ?_)
          refine AO.op rfl (AOp.move rfl rfl (ltb rfl) rfl ?_)
          obtain ⟨x22, q23, h1⟩ := idx_elim h1
          refine AO.op rfl (AOp.indexDs (cells := (List.map keS2 g1.2)) rfl rfl (ltb rfl) rfl rfl el28 (by decide) q23.1 (lt1 q23.2) ?_)
          refine AO.op rfl (AOp.loadEp rfl rfl (ltb rfl) rfl agg106 (at1 q23.2) ?_)
          refine AO.op rfl (AOp.i2i rfl rfl (ltb rfl) rfl Try.underlying106 Try.underlying91 rfl ?_)
          obtain ⟨q24, h1⟩ := need_elim h1
          refine AO.op rfl (AOp.iadd rfl rfl (ltb rfl) rfl rfl rfl q24.1 q24.2 ?_)
          refine AO.op rfl (AOp.assign rfl rfl (ltb rfl) rfl ?_)
          refine AO.nil ?_
          exact ⟨(((IntKind.u64.wrap x14) + g10.1) + (IntKind.u64.wrap x22)), _, rfl, (LeL.refl _), rfl, rfl, h1⟩
        replace h1 := cF h1 q21
        refine AC.skip ?_
        exact ⟨((IntKind.u64.wrap x14) + g10.1), _, rfl, (LeL.refl _), rfl, rfl, h1⟩
      intro g17 h1
      unfold p_addLimbs_k4 at h1
      refine AC.seq ?_
      refine AC.region ?_
      refine AO.op rfl (AOp.move rfl rfl (ltb rfl) rfl ?_)
      refine AO.op rfl (AOp.move rfl rfl (ltb rfl) rfl ?_)
      refine AO.op rfl (AOp.i2i rfl rfl (ltb rfl) rfl Try.underlying91 Try.underlying106 rfl ?_)
      refine AO.op rfl (AOp.buildSliceD rfl rfl (ltb rfl) el28 zero106 rfl (leb rfl) rfl rfl rfl rfl ?_)
      obtain ⟨q18, h1⟩ := need_elim h1
      refine AO.op rfl (AOp.appendOwn' (n := g10.2.2.length) (m := [(IntKind.u32.wrap g17)].length) (news := (List.map keS2 [(IntKind.u32.wrap g17)])) rfl rfl (ltb rfl) rfl rfl el28 info106 rfl (by decide) rfl (len1 _ _) (len1 _ _) (one1 _ (fun _ => rfl) _) q18 (by decide) rfl rfl (cat1 _ _ _) ?_)
      refine AO.op rfl (AOp.assign rfl rfl (ltb rfl) rfl ?_)
      refine AO.nil ?_
      change AC _ _ _ _
      refine AC.region ?_
      refine AO.op rfl (AOp.move rfl rfl (ltb rfl) rfl ?_)
      obtain ⟨q19, h1⟩ := need_elim h1
      refine AO.op rfl (AOp.ishr (n := 32) rfl rfl (ltb rfl) rfl rfl (by decide) q19 rfl ?_)
      refine AO.op rfl (AOp.assign rfl rfl (ltb rfl) rfl ?_)
      refine AO.nil ?_
      change AC _ _ _ _
      refine AC.region ?_
      obtain ⟨q20, h1⟩ := need_elim h1
      refine AO.op rfl (AOp.iadd rfl rfl (ltb rfl) rfl rfl rfl q20.1 q20.2 ?_)
      refine AO.op rfl (AOp.move rfl rfl (ltb rfl) rfl ?_)
      refine AO.nil ?_
      exact ⟨((g17 / 2 ^ 32), (g10.2.1 + (1 : Int)), (g10.2.2 ++ [(IntKind.u32.wrap g17)])), _, rfl, (LeL.refl _), rfl, rfl, h1⟩
    replace h1 := cF h1 q13
    refine AC.exit ?_
    obtain rfl := Option.some.inj h1
    exact ⟨(g10.1, g10.2.2), _, rfl, (LeL.refl _), rfl, rfl, aftL h0⟩
  intro g6 h0
  unfold p_addLimbs_k2 at h0
  change AC _ _ _ _
  refine AC.seq ?_
  refine AC.region ?_
  refine AO.op rfl (AOp.move rfl rfl (ltb rfl) rfl ?_)
  refine AO.op rfl (AOp.move rfl rfl (ltb rfl) rfl ?_)
  refine AO.op rfl (AOp.i2i rfl rfl (ltb rfl) rfl Try.underlying91 Try.underlying106 rfl ?_)
  refine AO.op rfl (AOp.buildSliceD rfl rfl (ltb rfl) el28 zero106 rfl (leb rfl) rfl rfl rfl rfl ?_)
  obtain ⟨q7, h0⟩ := need_elim h0
  refine AO.op rfl (AOp.appendOwn' (n := g6.2.length) (m := [(IntKind.u32.wrap g6.1)].length) (news := (List.map keS2 [(IntKind.u32.wrap g6.1)])) rfl rfl (ltb rfl) rfl rfl el28 info106 rfl (by decide) rfl (len1 _ _) (len1 _ _) (one1 _ (fun _ => rfl) _) q7 (by decide) rfl rfl (cat1 _ _ _) ?_)
  refine AO.freezeG 0 rfl rfl rfl ?_
  obtain ⟨y8, q9, h0⟩ := bind_elim h0
  refine AO.op rfl (AOp.callD rfl rfl (ltb rfl) rfl rfl (w_trim F (g6.2 ++ [(IntKind.u32.wrap g6.1)]) y8 q9) ?_)
  rintro _ rfl
  refine AO.op rfl (AOp.assign rfl rfl (ltb rfl) rfl ?_)
  refine AO.nil ?_
  change AC _ _ _ _
  refine AC.ret ?_
  change RetQ _ _ _ .ret _
  obtain rfl := Option.some.inj h0
  refine retq rfl rfl

set_option maxRecDepth 100000 in
set_option maxHeartbeats 1000000 in
/-- pub-orthodrome/spec.cmpLimbs -/
theorem w_cmpLimbs (F : Nat) (a0 : (List Int)) (a1 : (List Int)) (r0 : Int) (h0 : p_cmpLimbs F a0 a1 = some r0) : FnD Try.prog 98 [eS2 a0, eS2 a1] (fun r => r = di .i64 r0) := by
  refine FnD.of (by kernel_rfl) Try.func98 rfl Try.ntmps98 rfl (leb rfl) fun W ok => ?_
  unfold p_cmpLimbs at h0
  refine AC.seq ?_
  refine AC.region ?_
  refine AO.op rfl (AOp.assign rfl rfl (ltb rfl) rfl ?_)
  refine AO.nil ?_
  change AC _ _ _ _
  refine AC.seq ?_
  refine AC.seq ?_
  refine AC.region ?_
  refine AO.op rfl (AOp.move rfl rfl (ltb rfl) rfl ?_)
  refine AO.op rfl (AOp.lenDs (n := a0.length) (cells := (List.map keS2 a0)) rfl rfl (ltb rfl) rfl el28 (by decide) (len1 _ _) ?_)
  refine AO.op rfl (AOp.move rfl rfl (ltb rfl) rfl ?_)
  refine AO.op rfl (AOp.lenDs (n := a1.length) (cells := (List.map keS2 a1)) rfl rfl (ltb rfl) rfl el28 (by decide) (len1 _ _) ?_)
  refine AO.op rfl (AOp.ineq rfl rfl (ltb rfl) rfl rfl ?_)
  refine AO.nil ?_
  change AC _ _ _ _
  refine AC.cond rfl (fun q1 => ?_) (fun q1 => ?_)
  · replace h0 := cT h0 q1
    refine AC.seq ?_
    refine AC.seq ?_
    refine AC.region ?_
    refine AO.op rfl (AOp.move rfl rfl (ltb rfl) rfl ?_)
    refine AO.op rfl (AOp.lenDs (n := a0.length) (cells := (List.map keS2 a0)) rfl rfl (ltb rfl) rfl el28 (by decide) (len1 _ _) ?_)
    refine AO.op rfl (AOp.move rfl rfl (ltb rfl) rfl ?_)
    refine AO.op rfl (AOp.lenDs (n := a1.length) (cells := (List.map keS2 a1)) rfl rfl (ltb rfl) rfl el28 (by decide) (len1 _ _) ?_)
    refine AO.op rfl (AOp.ilss rfl rfl (ltb rfl) rfl rfl ?_)
    refine AO.nil ?_
    change AC _ _ _ _
    refine AC.cond rfl (fun q2 => ?_) (fun q2 => ?_)
    · replace h0 := cT h0 q2
      refine AC.seq ?_
      refine AC.region ?_
      refine AO.op rfl (AOp.assign rfl rfl (ltb rfl) rfl ?_)
      refine AO.nil ?_
      change AC _ _ _ _
      refine AC.ret ?_
      change RetQ _ _ _ .ret _
      obtain rfl := Option.some.inj h0
      refine retq rfl rfl
    replace h0 := cF h0 q2
    refine AC.skip ?_
    change AC _ _ _ _
    refine AC.seq ?_
    refine AC.region ?_
    refine AO.op rfl (AOp.assign rfl rfl (ltb rfl) rfl ?_)
    refine AO.nil ?_
    change AC _ _ _ _
    refine AC.ret ?_
    change RetQ _ _ _ .ret _
    obtain rfl := Option.some.inj h0
    refine retq rfl rfl
  replace h0 := cF h0 q1
  refine AC.skip ?_
  change AC _ _ _ _
  refine AC.seq ?_
  refine AC.seq ?_
  refine AC.region ?_
  refine AO.op rfl (AOp.move rfl rfl (ltb rfl) rfl ?_)
  refine AO.op rfl (AOp.lenDs (n := a0.length) (cells := (List.map keS2 a0)) rfl rfl (ltb rfl) rfl el28 (by decide) (len1 _ _) ?_)
  obtain ⟨q3, h0⟩ := need_elim h0
  refine AO.op rfl (AOp.isub rfl rfl (ltb rfl) rfl rfl rfl q3.1 q3.2 ?_)
  refine AO.op rfl (AOp.assign rfl rfl (ltb rfl) rfl ?_)
  refine AO.nil ?_
  change AC _ _ _ _
  obtain ⟨o4, l5, h0⟩ := bind_elim h0
  refine AC.joinE (V := Unit) [] [] 0 (fun g6 => []) (fun g6 => []) (fun g6 => p_cmpLimbs_k1 g6 = some r0) rfl ?_ ?_
  · refine AC.block ?_
    refine AC.loopP (V := Int) (p_cmpLimbs_l2 a0 a1) o4 [0, 1] [5] 0 (fun g7 => [(5, .d (di .i64 g7))]) (fun g7 => []) F (((a0.length : Nat) : Int) - (1 : Int)) l5 rfl rfl (LeL.refl _) rfl rfl ?_
    intro n9 g7 h1
    unfold p_cmpLimbs_l2 at h1
    refine AC.seq ?_
    refine AC.seq ?_
    refine AC.region ?_
    refine AO.op rfl (AOp.move rfl rfl (ltb rfl) rfl ?_)
    refine AO.op rfl (AOp.igeq rfl rfl (ltb rfl) rfl rfl ?_)
    refine AO.nil ?_
    change AC _ _ _ _
    refine AC.cond rfl (fun q10 => ?_) (fun q10 => ?_)
    · replace h1 := cT h1 q10
      refine AC.skip ?_
      change AC _ _ _ _
      refine AC.seq ?_
      refine AC.block ?_
      refine AC.seq ?_
      refine AC.draw 9 mixed (by kernel_rfl) ?_
      refine AD.op [0] rfl (by kernel_rfl) rfl rfl (fun _ _ h => AOp.move rfl rfl (ltb rfl) rfl h) ?_
      refine AD.op [5] rfl (by kernel_rfl) rfl rfl (fun _ _ h => AOp.move rfl rfl (ltb rfl) rfl h) ?_
      obtain ⟨x11, q12, h1⟩ := idx_elim h1
      refine AD.op [23, 24] rfl (by kernel_rfl) rfl rfl (fun _ _ h => AOp.indexDs (cells := (List.map keS2 a0)) rfl rfl (ltb rfl) rfl rfl el28 (by decide) q12.1 (lt1 q12.2) h) ?_
      refine AD.op [25] rfl (by kernel_rfl) rfl rfl (fun _ _ h => AOp.loadEp rfl rfl (ltb rfl) rfl agg106 (at1 q12.2) h) ?_
      refine AD.op [1] rfl (by kernel_rfl) rfl rfl (fun _ _ h => AOp.move rfl rfl (ltb rfl) rfl h) ?_
      refine AD.op [5] rfl (by kernel_rfl) rfl rfl (fun _ _ h => AOp.move rfl rfl (ltb rfl) rfl h) ?_
      obtain ⟨x13, q14, h1⟩ := idx_elim h1
      refine AD.op [27, 28] rfl (by kernel_rfl) rfl rfl (fun _ _ h => AOp.indexDs (cells := (List.map keS2 a1)) rfl rfl (ltb rfl) rfl rfl el28 (by decide) q14.1 (lt1 q14.2) h) ?_
      refine AD.op [29] rfl (by kernel_rfl) rfl rfl (fun _ _ h => AOp.loadEp rfl rfl (ltb rfl) rfl agg106 (at1 q14.2) h) ?_
      refine AD.op [26, 30] rfl (by kernel_rfl) rfl rfl (fun _ _ h => AOp.ineq rfl rfl (ltb rfl) rfl rfl h) ?_
      refine AD.done ?_
      refine AO.nil ?_
      change AC _ _ _ _
      refine AC.cond rfl (fun q15 => ?_) (fun q15 => ?_)
      · replace h1 := cT h1 q15
        refine AC.seq ?_
        refine AC.seq ?_
        refine AC.draw 9 mixed (by kernel_rfl) ?_
        refine AD.op [0] rfl (by kernel_rfl) rfl rfl (fun _ _ h => AOp.move rfl rfl (ltb rfl) rfl h) ?_
        refine AD.op [5] rfl (by kernel_rfl) rfl rfl (fun _ _ h => AOp.move rfl rfl (ltb rfl) rfl h) ?_
        obtain ⟨x16, q17, h1⟩ := idx_elim h1
        refine AD.op [32, 33] rfl (by kernel_rfl) rfl rfl (fun _ _ h => AOp.indexDs (cells := (List.map keS2 a0)) rfl rfl (ltb rfl) rfl rfl el28 (by decide) q17.1 (lt1 q17.2) h) ?_
        refine AD.op [34] rfl (by kernel_rfl) rfl rfl (fun _ _ h => AOp.loadEp rfl rfl (ltb rfl) rfl agg106 (at1 q17.2) h) ?_
        refine AD.op [1] rfl (by kernel_rfl) rfl rfl (fun _ _ h => AOp.move rfl rfl (ltb rfl) rfl h) ?_
        refine AD.op [5] rfl (by kernel_rfl) rfl rfl (fun _ _ h => AOp.move rfl rfl (ltb rfl) rfl h) ?_
        obtain ⟨x18, q19, h1⟩ := idx_elim h1
        refine AD.op [36, 37] rfl (by kernel_rfl) rfl rfl (fun _ _ h => AOp.indexDs (cells := (List.map keS2 a1)) rfl rfl (ltb rfl) rfl rfl el28 (by decide) q19.1 (lt1 q19.2) h) ?_
        refine AD.op [38] rfl (by kernel_rfl) rfl rfl (fun _ _ h => AOp.loadEp rfl rfl (ltb rfl) rfl agg106 (at1 q19.2) h) ?_
        refine AD.op [35, 39] rfl (by kernel_rfl) rfl rfl (fun _ _ h => AOp.ilss rfl rfl (ltb rfl) rfl rfl h) ?_
        refine AD.done ?_
        refine AO.nil ?_
        change AC _ _ _ _
        refine AC.cond rfl (fun q20 => ?_) (fun q20 => ?_)
        · replace h1 := cT h1 q20
          refine AC.seq ?_
          refine AC.region ?_
          refine AO.op rfl (AOp.assign rfl rfl (ltb rfl) rfl ?_)
          refine AO.nil ?_
          change AC _ _ _ _
          refine AC.ret ?_
          change RetQ _ _ _ .ret _
          obtain rfl := Option.some.inj h1
          replace h0 := aftR h0
          obtain rfl := Option.some.inj h0
          refine retq rfl rfl
        replace h1 := cF h1 q20
        refine AC.skip ?_
        change AC _ _ _ _
        refine AC.seq ?_
        refine AC.region ?_
        refine AO.op rfl (AOp.assign rfl rfl (ltb rfl) rfl ?_)
        refine AO.nil ?_
        change AC _ _ _ _
        refine AC.ret ?_
        change RetQ _ _ _ .ret _
        obtain rfl := Option.some.inj h1
        replace h0 := aftR h0
        obtain rfl := Option.some.inj h0
        refine retq rfl rfl
      replace h1 := cF h1 q15
      refine AC.skip ?_
      change AC _ _ _ _
      refine AC.region ?_
      refine AO.op rfl (AOp.move rfl rfl (ltb rfl) rfl ?_)
      obtain ⟨q21, h1⟩ := need_elim h1
      refine AO.op rfl (AOp.isub rfl rfl (ltb rfl) rfl rfl rfl q21.1 q21.2 ?_)
      refine AO.op rfl (AOp.assign rfl rfl (ltb rfl) rfl ?_)
      refine AO.nil ?_
      exact ⟨(g7 - (1 : Int)), _, rfl, (LeL.refl _), rfl, rfl, h1⟩
    replace h1 := cF h1 q10
    refine AC.exit ?_
    obtain rfl := Option.some.inj h1
    exact ⟨(), _, rfl, (LeL.refl _), rfl, rfl, aftL h0⟩
  intro g6 h0
  unfold p_cmpLimbs_k1 at h0
  change AC _ _ _ _
  refine AC.seq ?_
  refine AC.region ?_
  refine AO.op rfl (AOp.assign rfl rfl (ltb rfl) rfl ?_)
  refine AO.nil ?_
  change AC _ _ _ _
  refine AC.ret ?_
  change RetQ _ _ _ .ret _
  obtain rfl := Option.some.inj h0
  refine retq rfl rfl

set_option maxRecDepth 100000 in
set_option maxHeartbeats 1000000 in
/-- pub-orthodrome/spec.subLimbs -/
theorem w_subLimbs (F : Nat) (a0 : (List Int)) (a1 : (List Int)) (r0 : (List Int)) (h0 : p_subLimbs F a0 a1 = some r0) : FnD Try.prog 99 [eS2 a0, eS2 a1] (fun r => r = eS2 r0) := by
  refine FnD.of (by kernel_rfl) Try.func99 rfl Try.ntmps99 rfl (leb rfl) fun W ok => ?_
  unfold p_subLimbs at h0
  refine AC.seq ?_
  refine AC.region ?_
  refine AO.op rfl (AOp.assign rfl rfl (ltb rfl) rfl ?_)
  refine AO.nil ?_
  change AC _ _ _ _
  refine AC.seq ?_
  refine AC.region ?_
  refine AO.op rfl (AOp.move rfl rfl (ltb rfl) rfl ?_)
  refine AO.op rfl (AOp.lenDs (n := a0.length) (cells := (List.map keS2 a0)) rfl rfl (ltb rfl) rfl el28 (by decide) (len1 _ _) ?_)
  obtain ⟨q1, h0⟩ := need_elim h0
  refine AO.op rfl (AOp.makeOwn0 rfl rfl (ltb rfl) rfl rfl el28 info106 (by decide) q1 ?_)
  refine AO.op rfl (AOp.assign rfl rfl (ltb rfl) rfl ?_)
  refine AO.nil ?_
  change AC _ _ _ _
  refine AC.seq ?_
  refine AC.region ?_
  refine AO.op rfl (AOp.assign rfl rfl (ltb rfl) rfl ?_)
  refine AO.nil ?_
  change AC _ _ _ _
  refine AC.seq ?_
  refine AC.seq ?_
  refine AC.region ?_
  refine AO.op rfl (AOp.move rfl rfl (ltb rfl) rfl ?_)
  refine AO.op rfl (AOp.lenDs (n := a0.length) (cells := (List.map keS2 a0)) rfl rfl (ltb rfl) rfl el28 (by decide) (len1 _ _) ?_)
  refine AO.op rfl (AOp.move rfl rfl (ltb rfl) rfl ?_)
  refine AO.nil ?_
  change AC _ _ _ _
  obtain ⟨o2, l3, h0⟩ := bind_elim h0
  refine AC.joinE (V := (List Int)) [] [5] 1 (fun g4 => [(5, .own 0)]) (fun g4 => [.grow 106 1 (List.map keS2 g4)]) (fun g4 => (p_subLimbs_k1 F) g4 = some r0) rfl ?_ ?_
  · refine AC.block ?_
    refine AC.loopP (V := (Int × Int × (List Int))) (p_subLimbs_l2 a0 a1) o2 [1, 13, 14] [5, 6, 15] 1 (fun g7 => [(5, .own 0), (6, .d (di .u64 g7.1)), (15, .d (di .i64 g7.2.1))]) (fun g7 => [.grow 106 1 (List.map keS2 g7.2.2)]) F ((0 : Int), (0 : Int), []) l3 rfl rfl (LeL.refl _) rfl rfl ?_
    intro n9 g7 h1
    unfold p_subLimbs_l2 at h1
    refine AC.seq ?_
    refine AC.region ?_
    refine AO.op rfl (AOp.ilss rfl rfl (ltb rfl) rfl rfl ?_)
    refine AO.nil ?_
    change AC _ _ _ _
    refine AC.seq ?_
    refine AC.cond rfl (fun q10 => ?_) (fun q10 => ?_)
    · replace h1 := cT h1 q10
      refine AC.skip ?_
      change AC _ _ _ _
      refine AC.seq ?_
      refine AC.block ?_
      refine AC.seq ?_
      refine AC.region ?_
      refine AO.op rfl (AOp.move rfl rfl (ltb rfl) rfl ?_)
      obtain ⟨x11, q12, h1⟩ := idx_elim h1
      refine AO.op rfl (AOp.indexDs (cells := (List.map keS2 a0)) rfl rfl (ltb rfl) rfl rfl el28 (by decide) q12.1 (lt1 q12.2) ?_)
      refine AO.op rfl (AOp.loadEp rfl rfl (ltb rfl) rfl agg106 (at1 q12.2) ?_)
      refine AO.op rfl (AOp.assign rfl rfl (ltb rfl) rfl ?_)
      refine AO.op rfl (AOp.assign rfl rfl (ltb rfl) rfl ?_)
      refine AO.nil ?_
      change AC _ _ _ _
      refine AC.seq ?_
      refine AC.region ?_
      refine AO.op rfl (AOp.move rfl rfl (ltb rfl) rfl ?_)
      refine AO.op rfl (AOp.assign rfl rfl (ltb rfl) rfl ?_)
      refine AO.nil ?_
      change AC _ _ _ _
      refine AC.joinP (V := Int) [1, 5, 8, 13, 14, 15] [9] 1 (fun g13 => [(9, .d (di .u64 g13))]) (fun g13 => [.grow 106 1 (List.map keS2 g7.2.2)]) (fun g13 => (p_subLimbs_k3 g7 (iter (p_subLimbs_l2 a0 a1) n9) x11) g13 = some o2) rfl ?_ ?_
      · refine AC.seq ?_
        refine AC.region ?_
        refine AO.op rfl (AOp.move rfl rfl (ltb rfl) rfl ?_)
        refine AO.op rfl (AOp.move rfl rfl (ltb rfl) rfl ?_)
        refine AO.op rfl (AOp.lenDs (n := a1.length) (cells := (List.map keS2 a1)) rfl rfl (ltb rfl) rfl el28 (by decide) (len1 _ _) ?_)
        refine AO.op rfl (AOp.ilss rfl rfl (ltb rfl) rfl rfl ?_)
        refine AO.nil ?_
        change AC _ _ _ _
        refine AC.cond rfl (fun q20 => ?_) (fun q20 => ?_)
        · replace h1 := cT h1 q20
          refine AC.region ?_
          refine AO.op rfl (AOp.move rfl rfl (ltb rfl) rfl ?_)
          refine AO.op rfl (AOp.move rfl rfl (ltb rfl) rfl ?_)
          refine AO.op rfl (AOp.move rfl rfl (ltb rfl) rfl ?_)
          obtain ⟨x21, q22, h1⟩ := idx_elim h1
          refine AO.op rfl (AOp.indexDs (cells := (List.map keS2 a1)) rfl rfl (ltb rfl) rfl rfl el28 (by decide) q22.1 (lt1 q22.2) ?_)
          refine AO.op rfl (AOp.loadEp rfl rfl (ltb rfl) rfl agg106 (at1 q22.2) ?_)
          refine AO.op rfl (AOp.i2i rfl rfl (ltb rfl) rfl Try.underlying106 Try.underlying91 rfl ?_)
          obtain ⟨q23, h1⟩ := need_elim h1
          refine AO.op rfl (AOp.iadd rfl rfl (ltb rfl) rfl rfl rfl q23.1 q23.2 ?_)
          refine AO.op rfl (AOp.assign rfl rfl (ltb rfl) rfl ?_)
          refine AO.nil ?_
          exact ⟨(g7.1 + (IntKind.u64.wrap x21)), _, rfl, (LeL.refl _), rfl, rfl, h1⟩
        replace h1 := cF h1 q20
        refine AC.skip ?_
        exact ⟨g7.1, _, rfl, (LeL.refl _), rfl, rfl, h1⟩
      intro g13 h1
      unfold p_subLimbs_k3 at h1
      refine AC.seq ?_
      refine AC.region ?_
      refine AO.op rfl (AOp.assign rfl rfl (ltb rfl) rfl ?_)
      refine AO.nil ?_
      change AC _ _ _ _
      refine AC.joinP (V := Int) [1, 5, 8, 9, 13, 14, 15] [6] 1 (fun g14 => [(6, .d (di .u64 g14))]) (fun g14 => [.grow 106 1 (List.map keS2 g7.2.2)]) (fun g14 => (p_subLimbs_k4 g7 (iter (p_subLimbs_l2 a0 a1) n9) x11 g13) g14 = some o2) rfl ?_ ?_
      · refine AC.seq ?_
        refine AC.region ?_
        refine AO.op rfl (AOp.move rfl rfl (ltb rfl) rfl ?_)
        refine AO.op rfl (AOp.i2i rfl rfl (ltb rfl) rfl Try.underlying106 Try.underlying91 rfl ?_)
        refine AO.op rfl (AOp.move rfl rfl (ltb rfl) rfl ?_)
        refine AO.op rfl (AOp.ilss rfl rfl (ltb rfl) rfl rfl ?_)
        refine AO.nil ?_
        change AC _ _ _ _
        refine AC.cond rfl (fun q19 => ?_) (fun q19 => ?_)
        · replace h1 := cT h1 q19
          refine AC.region ?_
          refine AO.op rfl (AOp.assign rfl rfl (ltb rfl) rfl ?_)
          refine AO.nil ?_
          exact ⟨(1 : Int), _, rfl, (LeL.refl _), rfl, rfl, h1⟩
        replace h1 := cF h1 q19
        refine AC.skip ?_
        exact ⟨(0 : Int), _, rfl, (LeL.refl _), rfl, rfl, h1⟩
      intro g14 h1
      unfold p_subLimbs_k4 at h1
      refine AC.region ?_
      refine AO.op rfl (AOp.move rfl rfl (ltb rfl) rfl ?_)
      refine AO.op rfl (AOp.move rfl rfl (ltb rfl) rfl ?_)
      refine AO.op rfl (AOp.i2i rfl rfl (ltb rfl) rfl Try.underlying106 Try.underlying91 rfl ?_)
      refine AO.op rfl (AOp.move rfl rfl (ltb rfl) rfl ?_)
      refine AO.op rfl (AOp.ishl (n := 32) rfl rfl (ltb rfl) rfl rfl (by decide) rfl ?_)
      obtain ⟨q15, h1⟩ := need_elim h1
      refine AO.op rfl (AOp.iadd rfl rfl (ltb rfl) rfl rfl rfl q15.1 q15.2 ?_)
      refine AO.op rfl (AOp.move rfl rfl (ltb rfl) rfl ?_)
      obtain ⟨q16, h1⟩ := need_elim h1
      refine AO.op rfl (AOp.isub rfl rfl (ltb rfl) rfl rfl rfl q16.1 q16.2 ?_)
      refine AO.op rfl (AOp.i2i rfl rfl (ltb rfl) rfl Try.underlying91 Try.underlying106 rfl ?_)
      refine AO.op rfl (AOp.buildSliceD rfl rfl (ltb rfl) el28 zero106 rfl (leb rfl) rfl rfl rfl rfl ?_)
      obtain ⟨q17, h1⟩ := need_elim h1
      refine AO.op rfl (AOp.appendOwn' (n := g7.2.2.length) (m := [(IntKind.u32.wrap (((IntKind.u64.wrap x11) + (IntKind.u64.wrap (g14 * 2 ^ 32))) - g13))].length) (news := (List.map keS2 [(IntKind.u32.wrap (((IntKind.u64.wrap x11) + (IntKind.u64.wrap (g14 * 2 ^ 32))) - g13))])) rfl rfl (ltb rfl) rfl rfl el28 info106 rfl (by decide) rfl (len1 _ _) (len1 _ _) (one1 _ (fun _ => rfl) _) q17 (by decide) rfl rfl (cat1 _ _ _) ?_)
      refine AO.op rfl (AOp.assign rfl rfl (ltb rfl) rfl ?_)
      refine AO.nil ?_
      change AC _ _ _ _
      refine AC.region ?_
      obtain ⟨q18, h1⟩ := need_elim h1
      refine AO.op rfl (AOp.iadd rfl rfl (ltb rfl) rfl rfl rfl q18.1 q18.2 ?_)
      refine AO.op rfl (AOp.move rfl rfl (ltb rfl) rfl ?_)
      refine AO.nil ?_
      exact ⟨(g14, (g7.2.1 + (1 : Int)), (g7.2.2 ++ [(IntKind.u32.wrap (((IntKind.u64.wrap x11) + (IntKind.u64.wrap (g14 * 2 ^ 32))) - g13))])), _, rfl, (LeL.refl _), rfl, rfl, h1⟩
    replace h1 := cF h1 q10
    refine AC.exit ?_
    obtain rfl := Option.some.inj h1
    exact ⟨g7.2.2, _, rfl, (LeL.refl _), rfl, rfl, aftL h0⟩
  intro g4 h0
  unfold p_subLimbs_k1 at h0
  change AC _ _ _ _
  refine AC.seq ?_
  refine AC.region ?_
  refine AO.op rfl (AOp.move rfl rfl (ltb rfl) rfl ?_)
  refine AO.freezeG 0 rfl rfl rfl ?_
  obtain ⟨y5, q6, h0⟩ := bind_elim h0
  refine AO.op rfl (AOp.callD rfl rfl (ltb rfl) rfl rfl (w_trim F g4 y5 q6) ?_)
  rintro _ rfl
  refine AO.op rfl (AOp.assign rfl rfl (ltb rfl) rfl ?_)
  refine AO.nil ?_
  change AC _ _ _ _
  refine AC.ret ?_
  change RetQ _ _ _ .ret _
  obtain rfl := Option.some.inj h0
  refine retq rfl rfl

set_option maxRecDepth 100000 in
set_option maxHeartbeats 1000000 in
/-- (pub-orthodrome/spec.Whole).Add -/
theorem w_Whole_Add (F : Nat) (a0 : TSpec_Whole) (a1 : TSpec_Whole) (r0 : TSpec_Whole) (h0 : p_Whole_Add F a0 a1 = some r0) : FnD Try.prog 90 [e_TSpec_Whole a0, e_TSpec_Whole a1] (fun r => r = e_TSpec_Whole r0) := by
  refine FnD.of (by kernel_rfl) Try.func90 rfl Try.ntmps90 rfl (leb rfl) fun W ok => ?_
  unfold p_Whole_Add at h0
  refine AC.seq ?_
  refine AC.region ?_
  refine AO.op rfl (AOp.box rfl rfl (ltb rfl) rfl rfl ?_)
  refine AO.op rfl (AOp.box rfl rfl (ltb rfl) rfl rfl ?_)
  refine AO.op rfl (AOp.alloc rfl rfl (ltb rfl) zero30 rfl ?_)
  refine AO.nil ?_
  change AC _ _ _ _
  refine AC.seq ?_
  refine AC.seq ?_
  refine AC.region ?_
  refine AO.op rfl (AOp.fieldAddr rfl rfl (ltb rfl) rfl fo30_0 ?_)
  refine AO.op rfl (AOp.load1 rfl rfl (ltb rfl) rfl agg4 rfl rfl ?_)
  refine AO.op rfl (AOp.fieldAddr rfl rfl (ltb rfl) rfl fo30_0 ?_)
  refine AO.op rfl (AOp.load1 rfl rfl (ltb rfl) rfl agg4 rfl rfl ?_)
  refine AO.op rfl (AOp.beql Try.underlying4 rfl rfl (ltb rfl) rfl rfl ?_)
  refine AO.nil ?_
  change AC _ _ _ _
  refine AC.cond rfl (fun q1 => ?_) (fun q1 => ?_)
  · replace h0 := cT h0 q1
    refine AC.seq ?_
    refine AC.draw 8 mixed (by kernel_rfl) ?_
    refine AD.op [2] rfl (by kernel_rfl) rfl rfl (fun _ _ h => AOp.fieldAddr rfl rfl (ltb rfl) rfl fo30_0 h) ?_
    refine AD.op [10] rfl (by kernel_rfl) rfl rfl (fun _ _ h => AOp.load1 rfl rfl (ltb rfl) rfl agg4 rfl rfl h) ?_
    refine AD.op [2] rfl (by kernel_rfl) rfl rfl (fun _ _ h => AOp.fieldAddr rfl rfl (ltb rfl) rfl fo30_1 h) ?_
    refine AD.op [12] rfl (by kernel_rfl) rfl rfl (fun _ _ h => AOp.load1 rfl rfl (ltb rfl) rfl agg28 rfl rfl h) ?_
    refine AD.op [3] rfl (by kernel_rfl) rfl rfl (fun _ _ h => AOp.fieldAddr rfl rfl (ltb rfl) rfl fo30_1 h) ?_
    refine AD.op [14] rfl (by kernel_rfl) rfl rfl (fun _ _ h => AOp.load1 rfl rfl (ltb rfl) rfl agg28 rfl rfl h) ?_
    obtain ⟨y2, q3, h0⟩ := bind_elim h0
    refine AD.op [13, 15] rfl (by kernel_rfl) rfl rfl (fun _ _ h => AOp.callD rfl rfl (ltb rfl) rfl rfl (w_addLimbs F a0.L a1.L y2 q3) (by rintro _ rfl; exact h)) ?_
    refine AD.op [11, 16] rfl (by kernel_rfl) rfl rfl (fun _ _ h => AOp.build rfl rfl (ltb rfl) zero30 rfl places30 rfl rfl h) ?_
    refine AD.done ?_
    refine AO.op rfl (AOp.store rfl rfl rfl rfl size30 rfl rfl rfl (leb rfl) ?_)
    refine AO.nil ?_
    change AC _ _ _ _
    refine AC.ret ?_
    change RetQ _ _ _ .ret _
    obtain rfl := Option.some.inj h0
    refine retq rfl rfl
  replace h0 := cF h0 q1
  refine AC.skip ?_
  change AC _ _ _ _
  refine AC.seq ?_
  refine AC.seq ?_
  refine AC.region ?_
  refine AO.op rfl (AOp.fieldAddr rfl rfl (ltb rfl) rfl fo30_1 ?_)
  refine AO.op rfl (AOp.load1 rfl rfl (ltb rfl) rfl agg28 rfl rfl ?_)
  refine AO.op rfl (AOp.fieldAddr rfl rfl (ltb rfl) rfl fo30_1 ?_)
  refine AO.op rfl (AOp.load1 rfl rfl (ltb rfl) rfl agg28 rfl rfl ?_)
  obtain ⟨y4, q5, h0⟩ := bind_elim h0
  refine AO.op rfl (AOp.callD rfl rfl (ltb rfl) rfl rfl (w_cmpLimbs F a0.L a1.L y4 q5) ?_)
  rintro _ rfl
  refine AO.nil ?_
  change AC _ _ _ _
  refine AC.block ?_
  refine AC.seq ?_
  refine AC.region ?_
  refine AO.op rfl (AOp.ieql rfl rfl (ltb rfl) rfl rfl ?_)
  refine AO.op rfl (AOp.assign rfl rfl (ltb rfl) rfl ?_)
  refine AO.nil ?_
  change AC _ _ _ _
  refine AC.cond rfl (fun q6 => ?_) (fun q6 => ?_)
  · replace h0 := cT h0 q6
    refine AC.seq ?_
    refine AC.region ?_
    refine AO.op rfl (AOp.build rfl rfl (ltb rfl) zero30 rfl places30 rfl rfl ?_)
    refine AO.op rfl (AOp.store rfl rfl rfl rfl size30 rfl rfl rfl (leb rfl) ?_)
    refine AO.nil ?_
    change AC _ _ _ _
    refine AC.subO 2 rfl (.cons (SVLe.refl _) (.cons (SVLe.nil 1) .nil)) ?_
    refine AC.ret ?_
    change RetQ _ _ _ .ret _
    obtain rfl := Option.some.inj h0
    refine retq rfl rfl
  replace h0 := cF h0 q6
  refine AC.seq ?_
  refine AC.region ?_
  refine AO.op rfl (AOp.ieql rfl rfl (ltb rfl) rfl rfl ?_)
  refine AO.op rfl (AOp.assign rfl rfl (ltb rfl) rfl ?_)
  refine AO.nil ?_
  change AC _ _ _ _
  refine AC.cond rfl (fun q7 => ?_) (fun q7 => ?_)
  · replace h0 := cT h0 q7
    refine AC.seq ?_
    refine AC.draw 8 mixed (by kernel_rfl) ?_
    refine AD.op [2] rfl (by kernel_rfl) rfl rfl (fun _ _ h => AOp.fieldAddr rfl rfl (ltb rfl) rfl fo30_0 h) ?_
    refine AD.op [28] rfl (by kernel_rfl) rfl rfl (fun _ _ h => AOp.load1 rfl rfl (ltb rfl) rfl agg4 rfl rfl h) ?_
    refine AD.op [2] rfl (by kernel_rfl) rfl rfl (fun _ _ h => AOp.fieldAddr rfl rfl (ltb rfl) rfl fo30_1 h) ?_
    refine AD.op [30] rfl (by kernel_rfl) rfl rfl (fun _ _ h => AOp.load1 rfl rfl (ltb rfl) rfl agg28 rfl rfl h) ?_
    refine AD.op [3] rfl (by kernel_rfl) rfl rfl (fun _ _ h => AOp.fieldAddr rfl rfl (ltb rfl) rfl fo30_1 h) ?_
    refine AD.op [32] rfl (by kernel_rfl) rfl rfl (fun _ _ h => AOp.load1 rfl rfl (ltb rfl) rfl agg28 rfl rfl h) ?_
    obtain ⟨y8, q9, h0⟩ := bind_elim h0
    refine AD.op [31, 33] rfl (by kernel_rfl) rfl rfl (fun _ _ h => AOp.callD rfl rfl (ltb rfl) rfl rfl (w_subLimbs F a0.L a1.L y8 q9) (by rintro _ rfl; exact h)) ?_
    refine AD.op [29, 34] rfl (by kernel_rfl) rfl rfl (fun _ _ h => AOp.build rfl rfl (ltb rfl) zero30 rfl places30 rfl rfl h) ?_
    refine AD.done ?_
    refine AO.op rfl (AOp.store rfl rfl rfl rfl size30 rfl rfl rfl (leb rfl) ?_)
    refine AO.nil ?_
    change AC _ _ _ _
    refine AC.ret ?_
    change RetQ _ _ _ .ret _
    obtain rfl := Option.some.inj h0
    refine retq rfl rfl
  replace h0 := cF h0 q7
  refine AC.skip ?_
  change AC _ _ _ _
  refine AC.seq ?_
  refine AC.draw 8 mixed (by kernel_rfl) ?_
  refine AD.op [3] rfl (by kernel_rfl) rfl rfl (fun _ _ h => AOp.fieldAddr rfl rfl (ltb rfl) rfl fo30_0 h) ?_
  refine AD.op [36] rfl (by kernel_rfl) rfl rfl (fun _ _ h => AOp.load1 rfl rfl (ltb rfl) rfl agg4 rfl rfl h) ?_
  refine AD.op [3] rfl (by kernel_rfl) rfl rfl (fun _ _ h => AOp.fieldAddr rfl rfl (ltb rfl) rfl fo30_1 h) ?_
  refine AD.op [38] rfl (by kernel_rfl) rfl rfl (fun _ _ h => AOp.load1 rfl rfl (ltb rfl) rfl agg28 rfl rfl h) ?_
  refine AD.op [2] rfl (by kernel_rfl) rfl rfl (fun _ _ h => AOp.fieldAddr rfl rfl (ltb rfl) rfl fo30_1 h) ?_
  refine AD.op [40] rfl (by kernel_rfl) rfl rfl (fun _ _ h => AOp.load1 rfl rfl (ltb rfl) rfl agg28 rfl rfl h) ?_
  obtain ⟨y10, q11, h0⟩ := bind_elim h0
  refine AD.op [39, 41] rfl (by kernel_rfl) rfl rfl (fun _ _ h => AOp.callD rfl rfl (ltb rfl) rfl rfl (w_subLimbs F a1.L a0.L y10 q11) (by rintro _ rfl; exact h)) ?_
  refine AD.op [37, 42] rfl (by kernel_rfl) rfl rfl (fun _ _ h => AOp.build rfl rfl (ltb rfl) zero30 rfl places30 rfl rfl h) ?_
  refine AD.done ?_
  refine AO.op rfl (AOp.store rfl rfl rfl rfl size30 rfl rfl rfl (leb rfl) ?_)
  refine AO.nil ?_
  change AC _ _ _ _
  refine AC.ret ?_
  change RetQ _ _ _ .ret _
  obtain rfl := Option.some.inj h0
  refine retq rfl rfl

set_option maxRecDepth 100000 in
set_option maxHeartbeats 1000000 in
/-- (pub-orthodrome/spec.Dyadic).Add -/
theorem w_Dyadic_Add (F : Nat) (a0 : TSpec_Dyadic) (a1 : TSpec_Dyadic) (r0 : TSpec_Dyadic) (h0 : p_Dyadic_Add F a0 a1 = some r0) : FnD Try.prog 73 [e_TSpec_Dyadic a0, e_TSpec_Dyadic a1] (fun r => r = e_TSpec_Dyadic r0) := by
  refine FnD.of (by kernel_rfl) Try.func73 rfl Try.ntmps73 rfl (leb rfl) fun W ok => ?_
  unfold p_Dyadic_Add at h0
  refine AC.seq ?_
  refine AC.region ?_
  refine AO.op rfl (AOp.box rfl rfl (ltb rfl) rfl rfl ?_)
  refine AO.op rfl (AOp.box rfl rfl (ltb rfl) rfl rfl ?_)
  refine AO.op rfl (AOp.alloc rfl rfl (ltb rfl) zero32 rfl ?_)
  refine AO.nil ?_
  change AC _ _ _ _
  refine AC.seq ?_
  refine AC.block ?_
  refine AC.seq ?_
  refine AC.region ?_
  refine AO.op rfl (AOp.loadN rfl rfl (ltb rfl) rfl agg32 size32 rfl (leb rfl) rfl ?_)
  obtain ⟨y1, q2, h0⟩ := bind_elim h0
  refine AO.op rfl (AOp.callD rfl rfl (ltb rfl) rfl rfl (w_Dyadic_Sign a0 y1 q2) ?_)
  rintro _ rfl
  refine AO.op rfl (AOp.ieql rfl rfl (ltb rfl) rfl rfl ?_)
  refine AO.op rfl (AOp.assign rfl rfl (ltb rfl) rfl ?_)
  refine AO.nil ?_
  change AC _ _ _ _
  refine AC.cond rfl (fun q3 => ?_) (fun q3 => ?_)
  · replace h0 := cT h0 q3
    refine AC.seq ?_
    refine AC.region ?_
    refine AO.op rfl (AOp.loadN rfl rfl (ltb rfl) rfl agg32 size32 rfl (leb rfl) rfl ?_)
    refine AO.op rfl (AOp.store rfl rfl rfl rfl size32 rfl rfl rfl (leb rfl) ?_)
    refine AO.nil ?_
    change AC _ _ _ _
    refine AC.ret ?_
    change RetQ _ _ _ .ret _
    obtain rfl := Option.some.inj h0
    refine retq rfl rfl
  replace h0 := cF h0 q3
  refine AC.seq ?_
  refine AC.region ?_
  refine AO.op rfl (AOp.loadN rfl rfl (ltb rfl) rfl agg32 size32 rfl (leb rfl) rfl ?_)
  obtain ⟨y4, q5, h0⟩ := bind_elim h0
  refine AO.op rfl (AOp.callD rfl rfl (ltb rfl) rfl rfl (w_Dyadic_Sign a1 y4 q5) ?_)
  rintro _ rfl
  refine AO.op rfl (AOp.ieql rfl rfl (ltb rfl) rfl rfl ?_)
  refine AO.op rfl (AOp.assign rfl rfl (ltb rfl) rfl ?_)
  refine AO.nil ?_
  change AC _ _ _ _
  refine AC.cond rfl (fun q6 => ?_) (fun q6 => ?_)
  · replace h0 := cT h0 q6
    refine AC.seq ?_
    refine AC.region ?_
    refine AO.op rfl (AOp.loadN rfl rfl (ltb rfl) rfl agg32 size32 rfl (leb rfl) rfl ?_)
    refine AO.op rfl (AOp.store rfl rfl rfl rfl size32 rfl rfl rfl (leb rfl) ?_)
    refine AO.nil ?_
    change AC _ _ _ _
    refine AC.ret ?_
    change RetQ _ _ _ .ret _
    obtain rfl := Option.some.inj h0
    refine retq rfl rfl
  replace h0 := cF h0 q6
  refine AC.seq ?_
  refine AC.region ?_
  refine AO.op rfl (AOp.fieldAddr rfl rfl (ltb rfl) rfl fo32_1 ?_)
  refine AO.op rfl (AOp.load1 rfl rfl (ltb rfl) rfl agg3 rfl rfl ?_)
  refine AO.op rfl (AOp.fieldAddr rfl rfl (ltb rfl) rfl fo32_1 ?_)
  refine AO.op rfl (AOp.load1 rfl rfl (ltb rfl) rfl agg3 rfl rfl ?_)
  refine AO.op rfl (AOp.igtr rfl rfl (ltb rfl) rfl rfl ?_)
  refine AO.op rfl (AOp.assign rfl rfl (ltb rfl) rfl ?_)
  refine AO.nil ?_
  change AC _ _ _ _
  refine AC.cond rfl (fun q7 => ?_) (fun q7 => ?_)
  · replace h0 := cT h0 q7
    refine AC.seq ?_
    refine AC.draw 14 mixed (by kernel_rfl) ?_
    refine AD.op [2] rfl (by kernel_rfl) rfl rfl (fun _ _ h => AOp.fieldAddr rfl rfl (ltb rfl) rfl fo32_0 h) ?_
    refine AD.op [21] rfl (by kernel_rfl) rfl rfl (fun _ _ h => AOp.loadN rfl rfl (ltb rfl) rfl agg30 size30 rfl (leb rfl) rfl h) ?_
    refine AD.op [2] rfl (by kernel_rfl) rfl rfl (fun _ _ h => AOp.fieldAddr rfl rfl (ltb rfl) rfl fo32_1 h) ?_
    refine AD.op [23] rfl (by kernel_rfl) rfl rfl (fun _ _ h => AOp.load1 rfl rfl (ltb rfl) rfl agg3 rfl rfl h) ?_
    refine AD.op [3] rfl (by kernel_rfl) rfl rfl (fun _ _ h => AOp.fieldAddr rfl rfl (ltb rfl) rfl fo32_1 h) ?_
    refine AD.op [25] rfl (by kernel_rfl) rfl rfl (fun _ _ h => AOp.load1 rfl rfl (ltb rfl) rfl agg3 rfl rfl h) ?_
    obtain ⟨q8, h0⟩ := need_elim h0
    refine AD.op [24, 26] rfl (by kernel_rfl) rfl rfl (fun _ _ h => AOp.isub rfl rfl (ltb rfl) rfl rfl rfl q8.1 q8.2 h) ?_
    obtain ⟨y9, q10, h0⟩ := bind_elim h0
    refine AD.op [22, 27] rfl (by kernel_rfl) rfl rfl (fun _ _ h => AOp.callD rfl rfl (ltb rfl) rfl rfl (w_Whole_Up F a0.N (a0.E - a1.E) y9 q10) (by rintro _ rfl; exact h)) ?_
    refine AD.op [3] rfl (by kernel_rfl) rfl rfl (fun _ _ h => AOp.fieldAddr rfl rfl (ltb rfl) rfl fo32_0 h) ?_
    refine AD.op [29] rfl (by kernel_rfl) rfl rfl (fun _ _ h => AOp.loadN rfl rfl (ltb rfl) rfl agg30 size30 rfl (leb rfl) rfl h) ?_
    obtain ⟨y11, q12, h0⟩ := bind_elim h0
    refine AD.op [28, 30] rfl (by kernel_rfl) rfl rfl (fun _ _ h => AOp.callD rfl rfl (ltb rfl) rfl rfl (w_Whole_Add F y9 a1.N y11 q12) (by rintro _ rfl; exact h)) ?_
    refine AD.op [3] rfl (by kernel_rfl) rfl rfl (fun _ _ h => AOp.fieldAddr rfl rfl (ltb rfl) rfl fo32_1 h) ?_
    refine AD.op [32] rfl (by kernel_rfl) rfl rfl (fun _ _ h => AOp.load1 rfl rfl (ltb rfl) rfl agg3 rfl rfl h) ?_
    refine AD.op [31, 33] rfl (by kernel_rfl) rfl rfl (fun _ _ h => AOp.build rfl rfl (ltb rfl) zero32 rfl places32 rfl rfl h) ?_
    refine AD.done ?_
    refine AO.op rfl (AOp.store rfl rfl rfl rfl size32 rfl rfl rfl (leb rfl) ?_)
    refine AO.nil ?_
    change AC _ _ _ _
    refine AC.ret ?_
    change RetQ _ _ _ .ret _
    obtain rfl := Option.some.inj h0
    refine retq rfl rfl
  replace h0 := cF h0 q7
  refine AC.skip ?_
  change AC _ _ _ _
  refine AC.seq ?_
  refine AC.draw 14 mixed (by kernel_rfl) ?_
  refine AD.op [3] rfl (by kernel_rfl) rfl rfl (fun _ _ h => AOp.fieldAddr rfl rfl (ltb rfl) rfl fo32_0 h) ?_
  refine AD.op [35] rfl (by kernel_rfl) rfl rfl (fun _ _ h => AOp.loadN rfl rfl (ltb rfl) rfl agg30 size30 rfl (leb rfl) rfl h) ?_
  refine AD.op [3] rfl (by kernel_rfl) rfl rfl (fun _ _ h => AOp.fieldAddr rfl rfl (ltb rfl) rfl fo32_1 h) ?_
  refine AD.op [37] rfl (by kernel_rfl) rfl rfl (fun _ _ h => AOp.load1 rfl rfl (ltb rfl) rfl agg3 rfl rfl h) ?_
  refine AD.op [2] rfl (by kernel_rfl) rfl rfl (fun _ _ h => AOp.fieldAddr rfl rfl (ltb rfl) rfl fo32_1 h) ?_
  refine AD.op [39] rfl (by kernel_rfl) rfl rfl (fun _ _ h => AOp.load1 rfl rfl (ltb rfl) rfl agg3 rfl rfl h) ?_
  obtain ⟨q13, h0⟩ := need_elim h0
  refine AD.op [38, 40] rfl (by kernel_rfl) rfl rfl (fun _ _ h => AOp.isub rfl rfl (ltb rfl) rfl rfl rfl q13.1 q13.2 h) ?_
  obtain ⟨y14, q15, h0⟩ := bind_elim h0
  refine AD.op [36, 41] rfl (by kernel_rfl) rfl rfl (fun _ _ h => AOp.callD rfl rfl (ltb rfl) rfl rfl (w_Whole_Up F a1.N (a1.E - a0.E) y14 q15) (by rintro _ rfl; exact h)) ?_
  refine AD.op [2] rfl (by kernel_rfl) rfl rfl (fun _ _ h => AOp.fieldAddr rfl rfl (ltb rfl) rfl fo32_0 h) ?_
  refine AD.op [43] rfl (by kernel_rfl) rfl rfl (fun _ _ h => AOp.loadN rfl rfl (ltb rfl) rfl agg30 size30 rfl (leb rfl) rfl h) ?_
  obtain ⟨y16, q17, h0⟩ := bind_elim h0
  refine AD.op [42, 44] rfl (by kernel_rfl) rfl rfl (fun _ _ h => AOp.callD rfl rfl (ltb rfl) rfl rfl (w_Whole_Add F y14 a0.N y16 q17) (by rintro _ rfl; exact h)) ?_
  refine AD.op [2] rfl (by kernel_rfl) rfl rfl (fun _ _ h => AOp.fieldAddr rfl rfl (ltb rfl) rfl fo32_1 h) ?_
  refine AD.op [46] rfl (by kernel_rfl) rfl rfl (fun _ _ h => AOp.load1 rfl rfl (ltb rfl) rfl agg3 rfl rfl h) ?_
  refine AD.op [45, 47] rfl (by kernel_rfl) rfl rfl (fun _ _ h => AOp.build rfl rfl (ltb rfl) zero32 rfl places32 rfl rfl h) ?_
  refine AD.done ?_
  refine AO.op rfl (AOp.store rfl rfl rfl rfl size32 rfl rfl rfl (leb rfl) ?_)
  refine AO.nil ?_
  change AC _ _ _ _
  refine AC.ret ?_
  change RetQ _ _ _ .ret _
  obtain rfl := Option.some.inj h0
  refine retq rfl rfl

set_option maxRecDepth 100000 in
set_option maxHeartbeats 1000000 in
/-- (pub-orthodrome/spec.Dyadic).Sub -/
theorem w_Dyadic_Sub (F : Nat) (a0 : TSpec_Dyadic) (a1 : TSpec_Dyadic) (r0 : TSpec_Dyadic) (h0 : p_Dyadic_Sub F a0 a1 = some r0) : FnD Try.prog 37 [e_TSpec_Dyadic a0, e_TSpec_Dyadic a1] (fun r => r = e_TSpec_Dyadic r0) := by
  refine FnD.of (by kernel_rfl) Try.func37 rfl Try.ntmps37 rfl (leb rfl) fun W ok => ?_
  unfold p_Dyadic_Sub at h0
  refine AC.seq ?_
  refine AC.region ?_
  refine AO.op rfl (AOp.box rfl rfl (ltb rfl) rfl rfl ?_)
  refine AO.op rfl (AOp.box rfl rfl (ltb rfl) rfl rfl ?_)
  refine AO.op rfl (AOp.alloc rfl rfl (ltb rfl) zero32 rfl ?_)
  refine AO.nil ?_
  change AC _ _ _ _
  refine AC.seq ?_
  refine AC.draw 4 mixed (by kernel_rfl) ?_
  refine AD.op [2] rfl (by kernel_rfl) rfl rfl (fun _ _ h => AOp.loadN rfl rfl (ltb rfl) rfl agg32 size32 rfl (leb rfl) rfl h) ?_
  refine AD.op [3] rfl (by kernel_rfl) rfl rfl (fun _ _ h => AOp.loadN rfl rfl (ltb rfl) rfl agg32 size32 rfl (leb rfl) rfl h) ?_
  obtain ⟨y1, q2, h0⟩ := bind_elim h0
  refine AD.op [6] rfl (by kernel_rfl) rfl rfl (fun _ _ h => AOp.callD rfl rfl (ltb rfl) rfl rfl (w_Dyadic_Minus a1 y1 q2) (by rintro _ rfl; exact h)) ?_
  obtain ⟨y3, q4, h0⟩ := bind_elim h0
  refine AD.op [5, 7] rfl (by kernel_rfl) rfl rfl (fun _ _ h => AOp.callD rfl rfl (ltb rfl) rfl rfl (w_Dyadic_Add F a0 y1 y3 q4) (by rintro _ rfl; exact h)) ?_
  refine AD.done ?_
  refine AO.op rfl (AOp.store rfl rfl rfl rfl size32 rfl rfl rfl (leb rfl) ?_)
  refine AO.nil ?_
  change AC _ _ _ _
  refine AC.ret ?_
  change RetQ _ _ _ .ret _
  obtain rfl := Option.some.inj h0
  refine retq rfl rfl

end Go.Proofs.Ytohpmbodfpjjmaa.Wk
